import JvmDerived
import JvmDerived.Pilot.@@N@@Statement
import JvmDerived.Pilot.@@N@@Code
set_option linter.unusedVariables false
set_option linter.unusedSimpArgs false
@@BLOCK:NumsL.lean.txt@@
namespace Jvm.OwnKit
open Sem ClassFile Op Lib Jvm.Stand Jvm.Free Jvm.LawKit Jvm.RoadKit
/-- from t the invocation runs to its end, and Post holds there -/
def Goes (p : Program) (e : Env) (below : List Frame) (Post : Outcome → State → Prop) (t : State) : Prop :=
  ∃ s₂ o, Steps p.tables e below t s₂ ∧ s₂.status = .running ∧ Ended s₂ below o ∧ Post o s₂
def i2c (x : Int32) : Int32 := x.toUInt32.toUInt16.toUInt32.toInt32
def i2b (x : Int32) : Int32 := x.toInt8.toInt32
section Goes
variable {p : Program} {e : Env} {below : List Frame} {Post : Outcome → State → Prop} {T T' t t' : State} {m : MethodId} {c : Code} {pc : Nat} {ls : Array Slot} {st rest : List Value}
theorem Goes.go (st : ∀ tg, Steps p.tables e below t' tg → Steps p.tables e below t tg) (h : Goes p e below Post t') : Goes p e below Post t := by
  obtain ⟨s₂, o, h1, h2⟩ := h
  exact ⟨s₂, o, st _ h1, h2⟩
theorem Goes.run (st : Steps p.tables e below t t') (h : Goes p e below Post t') : Goes p e below Post t := by
  obtain ⟨s₂, o, h1, h2⟩ := h
  exact ⟨s₂, o, st.trans h1, h2⟩
theorem Goes.cast {g g' : JFrame} (q : g = g') (h : Goes p e below Post (T.setTop g')) : Goes p e below Post (T.setTop g) := q ▸ h
theorem zeq {x : Int32} (h : x = 0) : ifCond.holds .eq x = true ∧ ifCond.holds .ne x = false := by subst h; exact ⟨rfl, rfl⟩
theorem zne {x : Int32} (h : ¬ x = 0) : ifCond.holds .eq x = false ∧ ifCond.holds .ne x = true := by
  have q : (x == 0) = false := by simp [h]
  exact ⟨q, by show (!(x == 0)) = true; rw [q]; rfl⟩
theorem zlt {x : Int32} (h : x < 0) : ifCond.holds .lt x = true ∧ ifCond.holds .ge x = false := ⟨decide_eq_true h, decide_eq_false (Int32.not_le.mpr h)⟩
theorem znl {x : Int32} (h : ¬ x < 0) : ifCond.holds .lt x = false ∧ ifCond.holds .ge x = true := ⟨decide_eq_false h, decide_eq_true (Int32.not_lt.mp h)⟩
theorem zgt {x : Int32} (h : 0 < x) : ifCond.holds .gt x = true ∧ ifCond.holds .le x = false := ⟨decide_eq_true h, decide_eq_false (Int32.not_le.mpr h)⟩
theorem zng {x : Int32} (h : ¬ 0 < x) : ifCond.holds .gt x = false ∧ ifCond.holds .le x = true := ⟨decide_eq_false h, decide_eq_true (Int32.not_lt.mp h)⟩
namespace G
theorem iload (h : At T m c below) (hx : p.tables.exec = Jvm.exec) (pc' : Nat) {k : Nat} {v : Int32} (hd : decode c.code pc = .ok (.iload k, 2)) (hl : ls[k]? = some (.val (.int v))) (hp : pc + 2 = pc')
    (K : Goes p e below Post (T.setTop (mkF m pc' ls (.int v :: st)))) : Goes p e below Post (T.setTop (mkF m pc ls st)) := by
  subst hp; exact Goes.go (fun _ k => XS.iload h hx rfl hd hl k) K
theorem iloadN (h : At T m c below) (hx : p.tables.exec = Jvm.exec) (pc' : Nat) {k : Fin 4} {v : Int32} (hd : decode c.code pc = .ok (.iload_n k, 1)) (hl : ls[k.val]? = some (.val (.int v))) (hp : pc + 1 = pc')
    (K : Goes p e below Post (T.setTop (mkF m pc' ls (.int v :: st)))) : Goes p e below Post (T.setTop (mkF m pc ls st)) := by
  subst hp; exact Goes.go (fun _ k => XS.iloadN h hx rfl hd hl k) K
theorem lload (h : At T m c below) (hx : p.tables.exec = Jvm.exec) (pc' : Nat) {k : Nat} {v : Int64} (hd : decode c.code pc = .ok (.lload k, 2)) (hl : ls[k]? = some (.val (.long v))) (hp : pc + 2 = pc')
    (K : Goes p e below Post (T.setTop (mkF m pc' ls (.long v :: st)))) : Goes p e below Post (T.setTop (mkF m pc ls st)) := by
  subst hp; exact Goes.go (fun _ k => XT.lload h hx rfl hd hl k) K
theorem lloadN (h : At T m c below) (hx : p.tables.exec = Jvm.exec) (pc' : Nat) {k : Fin 4} {v : Int64} (hd : decode c.code pc = .ok (.lload_n k, 1)) (hl : ls[k.val]? = some (.val (.long v))) (hp : pc + 1 = pc')
    (K : Goes p e below Post (T.setTop (mkF m pc' ls (.long v :: st)))) : Goes p e below Post (T.setTop (mkF m pc ls st)) := by
  subst hp; exact Goes.go (fun _ k => XT.lloadN h hx rfl hd hl k) K
theorem aload (h : At T m c below) (hx : p.tables.exec = Jvm.exec) (pc' : Nat) {k : Nat} {v : Value} (hd : decode c.code pc = .ok (.aload k, 2)) (hl : ls[k]? = some (.val v)) (hv : v.isRef = true) (hp : pc + 2 = pc')
    (K : Goes p e below Post (T.setTop (mkF m pc' ls (v :: st)))) : Goes p e below Post (T.setTop (mkF m pc ls st)) := by
  subst hp; exact Goes.go (fun _ k => XS.aload h hx rfl hd hl hv k) K
theorem aloadN (h : At T m c below) (hx : p.tables.exec = Jvm.exec) (pc' : Nat) {k : Fin 4} {v : Value} (hd : decode c.code pc = .ok (.aload_n k, 1)) (hl : ls[k.val]? = some (.val v)) (hv : v.isRef = true) (hp : pc + 1 = pc')
    (K : Goes p e below Post (T.setTop (mkF m pc' ls (v :: st)))) : Goes p e below Post (T.setTop (mkF m pc ls st)) := by
  subst hp; exact Goes.go (fun _ k => XS.aloadN h hx rfl hd hl hv k) K
theorem iconst (h : At T m c below) (hx : p.tables.exec = Jvm.exec) (pc' : Nat) (z : Int32) {i : Int} (hd : decode c.code pc = .ok (.iconst i, 1)) (hz : Int32.ofInt i = z) (hp : pc + 1 = pc')
    (K : Goes p e below Post (T.setTop (mkF m pc' ls (.int z :: st)))) : Goes p e below Post (T.setTop (mkF m pc ls st)) := by
  subst hp hz; exact Goes.go (fun _ k => XS.iconst h hx rfl hd k) K
theorem bipush (h : At T m c below) (hx : p.tables.exec = Jvm.exec) (pc' : Nat) (z : Int32) {i : Int} (hd : decode c.code pc = .ok (.bipush i, 2)) (hz : (Int8.ofInt i).toInt32 = z) (hp : pc + 2 = pc')
    (K : Goes p e below Post (T.setTop (mkF m pc' ls (.int z :: st)))) : Goes p e below Post (T.setTop (mkF m pc ls st)) := by
  subst hp hz; exact Goes.go (fun _ k => XS.bipush h hx rfl hd k) K
theorem sipush (h : At T m c below) (hx : p.tables.exec = Jvm.exec) (pc' : Nat) (z : Int32) {i : Int} (hd : decode c.code pc = .ok (.sipush i, 3)) (hz : (Int16.ofInt i).toInt32 = z) (hp : pc + 3 = pc')
    (K : Goes p e below Post (T.setTop (mkF m pc' ls (.int z :: st)))) : Goes p e below Post (T.setTop (mkF m pc ls st)) := by
  subst hp hz; exact Goes.go (fun _ k => XS.sipush h hx rfl hd k) K
theorem lconst (h : At T m c below) (hx : p.tables.exec = Jvm.exec) (pc' : Nat) (z : Int64) {i : Fin 2} (hd : decode c.code pc = .ok (.lconst i, 1)) (hz : Int64.ofNat i = z) (hp : pc + 1 = pc')
    (K : Goes p e below Post (T.setTop (mkF m pc' ls (.long z :: st)))) : Goes p e below Post (T.setTop (mkF m pc ls st)) := by
  subst hp hz; exact Goes.go (fun _ k => XT.lconst h hx rfl hd k) K
theorem aconstNull (h : At T m c below) (hx : p.tables.exec = Jvm.exec) (pc' : Nat)  (hd : decode c.code pc = .ok (.aconst_null, 1)) (hp : pc + 1 = pc')
    (K : Goes p e below Post (T.setTop (mkF m pc' ls (.null :: st)))) : Goes p e below Post (T.setTop (mkF m pc ls st)) := by
  subst hp; exact Goes.go (fun _ k => XS.aconstNull h hx rfl hd  k) K
theorem iadd (h : At T m c below) (hx : p.tables.exec = Jvm.exec) (pc' : Nat) {x y : Int32} (hd : decode c.code pc = .ok (.iadd, 1)) (hp : pc + 1 = pc')
    (K : Goes p e below Post (T.setTop (mkF m pc' ls (.int (x + y) :: st)))) : Goes p e below Post (T.setTop (mkF m pc ls (.int y :: .int x :: st))) := by
  subst hp; exact Goes.go (fun _ k => XS.iadd h hx rfl hd rfl k) K
theorem isub (h : At T m c below) (hx : p.tables.exec = Jvm.exec) (pc' : Nat) {x y : Int32} (hd : decode c.code pc = .ok (.isub, 1)) (hp : pc + 1 = pc')
    (K : Goes p e below Post (T.setTop (mkF m pc' ls (.int (x - y) :: st)))) : Goes p e below Post (T.setTop (mkF m pc ls (.int y :: .int x :: st))) := by
  subst hp; exact Goes.go (fun _ k => XS.isub h hx rfl hd rfl k) K
theorem imul (h : At T m c below) (hx : p.tables.exec = Jvm.exec) (pc' : Nat) {x y : Int32} (hd : decode c.code pc = .ok (.imul, 1)) (hp : pc + 1 = pc')
    (K : Goes p e below Post (T.setTop (mkF m pc' ls (.int (x * y) :: st)))) : Goes p e below Post (T.setTop (mkF m pc ls (.int y :: .int x :: st))) := by
  subst hp; exact Goes.go (fun _ k => XS.imul h hx rfl hd rfl k) K
theorem iand (h : At T m c below) (hx : p.tables.exec = Jvm.exec) (pc' : Nat) {x y : Int32} (hd : decode c.code pc = .ok (.iand, 1)) (hp : pc + 1 = pc')
    (K : Goes p e below Post (T.setTop (mkF m pc' ls (.int (x &&& y) :: st)))) : Goes p e below Post (T.setTop (mkF m pc ls (.int y :: .int x :: st))) := by
  subst hp; exact Goes.go (fun _ k => XS.iand h hx rfl hd rfl k) K
theorem ior (h : At T m c below) (hx : p.tables.exec = Jvm.exec) (pc' : Nat) {x y : Int32} (hd : decode c.code pc = .ok (.ior, 1)) (hp : pc + 1 = pc')
    (K : Goes p e below Post (T.setTop (mkF m pc' ls (.int (x ||| y) :: st)))) : Goes p e below Post (T.setTop (mkF m pc ls (.int y :: .int x :: st))) := by
  subst hp; exact Goes.go (fun _ k => XT.ior h hx rfl hd rfl k) K
theorem ixor (h : At T m c below) (hx : p.tables.exec = Jvm.exec) (pc' : Nat) {x y : Int32} (hd : decode c.code pc = .ok (.ixor, 1)) (hp : pc + 1 = pc')
    (K : Goes p e below Post (T.setTop (mkF m pc' ls (.int (x ^^^ y) :: st)))) : Goes p e below Post (T.setTop (mkF m pc ls (.int y :: .int x :: st))) := by
  subst hp; exact Goes.go (fun _ k => XT.ixor h hx rfl hd rfl k) K
theorem ishl (h : At T m c below) (hx : p.tables.exec = Jvm.exec) (pc' : Nat) {x y : Int32} (hd : decode c.code pc = .ok (.ishl, 1)) (hp : pc + 1 = pc')
    (K : Goes p e below Post (T.setTop (mkF m pc' ls (.int (x <<< (y &&& 31)) :: st)))) : Goes p e below Post (T.setTop (mkF m pc ls (.int y :: .int x :: st))) := by
  subst hp; exact Goes.go (fun _ k => XT.ishl h hx rfl hd rfl k) K
theorem ishr (h : At T m c below) (hx : p.tables.exec = Jvm.exec) (pc' : Nat) {x y : Int32} (hd : decode c.code pc = .ok (.ishr, 1)) (hp : pc + 1 = pc')
    (K : Goes p e below Post (T.setTop (mkF m pc' ls (.int (x >>> (y &&& 31)) :: st)))) : Goes p e below Post (T.setTop (mkF m pc ls (.int y :: .int x :: st))) := by
  subst hp; exact Goes.go (fun _ k => XT.ishr h hx rfl hd rfl k) K
theorem iushr (h : At T m c below) (hx : p.tables.exec = Jvm.exec) (pc' : Nat) {x y : Int32} (hd : decode c.code pc = .ok (.iushr, 1)) (hp : pc + 1 = pc')
    (K : Goes p e below Post (T.setTop (mkF m pc' ls (.int (XT.ushr x y) :: st)))) : Goes p e below Post (T.setTop (mkF m pc ls (.int y :: .int x :: st))) := by
  subst hp; exact Goes.go (fun _ k => XT.iushr h hx rfl hd rfl k) K
theorem ladd (h : At T m c below) (hx : p.tables.exec = Jvm.exec) (pc' : Nat) {x y : Int64} (hd : decode c.code pc = .ok (.ladd, 1)) (hp : pc + 1 = pc')
    (K : Goes p e below Post (T.setTop (mkF m pc' ls (.long (x + y) :: st)))) : Goes p e below Post (T.setTop (mkF m pc ls (.long y :: .long x :: st))) := by
  subst hp; exact Goes.go (fun _ k => XT.ladd h hx rfl hd rfl k) K
theorem lsub (h : At T m c below) (hx : p.tables.exec = Jvm.exec) (pc' : Nat) {x y : Int64} (hd : decode c.code pc = .ok (.lsub, 1)) (hp : pc + 1 = pc')
    (K : Goes p e below Post (T.setTop (mkF m pc' ls (.long (x - y) :: st)))) : Goes p e below Post (T.setTop (mkF m pc ls (.long y :: .long x :: st))) := by
  subst hp; exact Goes.go (fun _ k => XT.lsub h hx rfl hd rfl k) K
theorem lmul (h : At T m c below) (hx : p.tables.exec = Jvm.exec) (pc' : Nat) {x y : Int64} (hd : decode c.code pc = .ok (.lmul, 1)) (hp : pc + 1 = pc')
    (K : Goes p e below Post (T.setTop (mkF m pc' ls (.long (x * y) :: st)))) : Goes p e below Post (T.setTop (mkF m pc ls (.long y :: .long x :: st))) := by
  subst hp; exact Goes.go (fun _ k => XT.lmul h hx rfl hd rfl k) K
theorem land (h : At T m c below) (hx : p.tables.exec = Jvm.exec) (pc' : Nat) {x y : Int64} (hd : decode c.code pc = .ok (.land, 1)) (hp : pc + 1 = pc')
    (K : Goes p e below Post (T.setTop (mkF m pc' ls (.long (x &&& y) :: st)))) : Goes p e below Post (T.setTop (mkF m pc ls (.long y :: .long x :: st))) := by
  subst hp; exact Goes.go (fun _ k => XT.land h hx rfl hd rfl k) K
theorem lor (h : At T m c below) (hx : p.tables.exec = Jvm.exec) (pc' : Nat) {x y : Int64} (hd : decode c.code pc = .ok (.lor, 1)) (hp : pc + 1 = pc')
    (K : Goes p e below Post (T.setTop (mkF m pc' ls (.long (x ||| y) :: st)))) : Goes p e below Post (T.setTop (mkF m pc ls (.long y :: .long x :: st))) := by
  subst hp; exact Goes.go (fun _ k => XT.lor h hx rfl hd rfl k) K
theorem lxor (h : At T m c below) (hx : p.tables.exec = Jvm.exec) (pc' : Nat) {x y : Int64} (hd : decode c.code pc = .ok (.lxor, 1)) (hp : pc + 1 = pc')
    (K : Goes p e below Post (T.setTop (mkF m pc' ls (.long (x ^^^ y) :: st)))) : Goes p e below Post (T.setTop (mkF m pc ls (.long y :: .long x :: st))) := by
  subst hp; exact Goes.go (fun _ k => XT.lxor h hx rfl hd rfl k) K
theorem lshl (h : At T m c below) (hx : p.tables.exec = Jvm.exec) (pc' : Nat) {x : Int64} {y : Int32} (hd : decode c.code pc = .ok (.lshl, 1)) (hp : pc + 1 = pc')
    (K : Goes p e below Post (T.setTop (mkF m pc' ls (.long (x <<< (y.toInt64 &&& 63)) :: st)))) : Goes p e below Post (T.setTop (mkF m pc ls (.int y :: .long x :: st))) := by
  subst hp; exact Goes.go (fun _ k => XT.lshl h hx rfl hd rfl k) K
theorem lshr (h : At T m c below) (hx : p.tables.exec = Jvm.exec) (pc' : Nat) {x : Int64} {y : Int32} (hd : decode c.code pc = .ok (.lshr, 1)) (hp : pc + 1 = pc')
    (K : Goes p e below Post (T.setTop (mkF m pc' ls (.long (x >>> (y.toInt64 &&& 63)) :: st)))) : Goes p e below Post (T.setTop (mkF m pc ls (.int y :: .long x :: st))) := by
  subst hp; exact Goes.go (fun _ k => XT.lshr h hx rfl hd rfl k) K
theorem lushr (h : At T m c below) (hx : p.tables.exec = Jvm.exec) (pc' : Nat) {x : Int64} {y : Int32} (hd : decode c.code pc = .ok (.lushr, 1)) (hp : pc + 1 = pc')
    (K : Goes p e below Post (T.setTop (mkF m pc' ls (.long (XT.ushrL x y) :: st)))) : Goes p e below Post (T.setTop (mkF m pc ls (.int y :: .long x :: st))) := by
  subst hp; exact Goes.go (fun _ k => XT.lushr h hx rfl hd rfl k) K
theorem lcmp (h : At T m c below) (hx : p.tables.exec = Jvm.exec) (pc' : Nat) {x y : Int64} (hd : decode c.code pc = .ok (.lcmp, 1)) (hp : pc + 1 = pc')
    (K : Goes p e below Post (T.setTop (mkF m pc' ls (.int (XT.cmpL x y) :: st)))) : Goes p e below Post (T.setTop (mkF m pc ls (.long y :: .long x :: st))) := by
  subst hp; exact Goes.go (fun _ k => XT.lcmp h hx rfl hd rfl k) K
theorem idiv (h : At T m c below) (hx : p.tables.exec = Jvm.exec) (pc' : Nat) {x y : Int32} (hd : decode c.code pc = .ok (.idiv, 1)) (hy : y ≠ 0) (hp : pc + 1 = pc')
    (K : Goes p e below Post (T.setTop (mkF m pc' ls (.int (x / y) :: st)))) : Goes p e below Post (T.setTop (mkF m pc ls (.int y :: .int x :: st))) := by
  subst hp; exact Goes.go (fun _ k => XS.idiv h hx rfl hd rfl hy k) K
theorem irem (h : At T m c below) (hx : p.tables.exec = Jvm.exec) (pc' : Nat) {x y : Int32} (hd : decode c.code pc = .ok (.irem, 1)) (hy : y ≠ 0) (hp : pc + 1 = pc')
    (K : Goes p e below Post (T.setTop (mkF m pc' ls (.int (x % y) :: st)))) : Goes p e below Post (T.setTop (mkF m pc ls (.int y :: .int x :: st))) := by
  subst hp; exact Goes.go (fun _ k => XS.irem h hx rfl hd rfl hy (by rw [irem_eq_mod]; exact k)) K
theorem ineg (h : At T m c below) (hx : p.tables.exec = Jvm.exec) (pc' : Nat) {x : Int32} (hd : decode c.code pc = .ok (.ineg, 1)) (hp : pc + 1 = pc')
    (K : Goes p e below Post (T.setTop (mkF m pc' ls (.int (-x) :: st)))) : Goes p e below Post (T.setTop (mkF m pc ls (.int x :: st))) := by
  subst hp; exact Goes.go (fun _ k => XS.ineg h hx rfl hd rfl k) K
theorem lneg (h : At T m c below) (hx : p.tables.exec = Jvm.exec) (pc' : Nat) {x : Int64} (hd : decode c.code pc = .ok (.lneg, 1)) (hp : pc + 1 = pc')
    (K : Goes p e below Post (T.setTop (mkF m pc' ls (.long (-x) :: st)))) : Goes p e below Post (T.setTop (mkF m pc ls (.long x :: st))) := by
  subst hp; exact Goes.go (fun _ k => XT.lneg h hx rfl hd rfl k) K
theorem i2l (h : At T m c below) (hx : p.tables.exec = Jvm.exec) (pc' : Nat) {x : Int32} (hd : decode c.code pc = .ok (.i2l, 1)) (hp : pc + 1 = pc')
    (K : Goes p e below Post (T.setTop (mkF m pc' ls (.long x.toInt64 :: st)))) : Goes p e below Post (T.setTop (mkF m pc ls (.int x :: st))) := by
  subst hp; exact Goes.go (fun _ k => XT.i2l h hx rfl hd rfl k) K
theorem l2i (h : At T m c below) (hx : p.tables.exec = Jvm.exec) (pc' : Nat) {x : Int64} (hd : decode c.code pc = .ok (.l2i, 1)) (hp : pc + 1 = pc')
    (K : Goes p e below Post (T.setTop (mkF m pc' ls (.int x.toInt32 :: st)))) : Goes p e below Post (T.setTop (mkF m pc ls (.long x :: st))) := by
  subst hp; exact Goes.go (fun _ k => XT.l2i h hx rfl hd rfl k) K
theorem i2b (h : At T m c below) (hx : p.tables.exec = Jvm.exec) (pc' : Nat) {x : Int32} (hd : decode c.code pc = .ok (.i2b, 1)) (hp : pc + 1 = pc')
    (K : Goes p e below Post (T.setTop (mkF m pc' ls (.int (OwnKit.i2b x) :: st)))) : Goes p e below Post (T.setTop (mkF m pc ls (.int x :: st))) := by
  subst hp; exact Goes.go (fun _ k => XT.i2b h hx rfl hd rfl k) K
theorem i2c (h : At T m c below) (hx : p.tables.exec = Jvm.exec) (pc' : Nat) {x : Int32} (hd : decode c.code pc = .ok (.i2c, 1)) (hp : pc + 1 = pc')
    (K : Goes p e below Post (T.setTop (mkF m pc' ls (.int (OwnKit.i2c x) :: st)))) : Goes p e below Post (T.setTop (mkF m pc ls (.int x :: st))) := by
  subst hp; exact Goes.go (fun _ k => XT.i2c h hx rfl hd rfl k) K
theorem dup (h : At T m c below) (hx : p.tables.exec = Jvm.exec) (pc' : Nat) {x : Value} (hd : decode c.code pc = .ok (.dup, 1)) (hc : x.category = 1) (hp : pc + 1 = pc')
    (K : Goes p e below Post (T.setTop (mkF m pc' ls (x :: x :: st)))) : Goes p e below Post (T.setTop (mkF m pc ls (x :: st))) := by
  subst hp; exact Goes.go (fun _ k => XS.dup h hx rfl hd rfl hc k) K
theorem pop (h : At T m c below) (hx : p.tables.exec = Jvm.exec) (pc' : Nat) {x : Value} (hd : decode c.code pc = .ok (.pop, 1)) (hc : x.category = 1) (hp : pc + 1 = pc')
    (K : Goes p e below Post (T.setTop (mkF m pc' ls st))) : Goes p e below Post (T.setTop (mkF m pc ls (x :: st))) := by
  subst hp; exact Goes.go (fun _ k => XT.pop h hx rfl hd rfl hc k) K
theorem dupX1 (h : At T m c below) (hx : p.tables.exec = Jvm.exec) (pc' : Nat) {x y : Value} (hd : decode c.code pc = .ok (.dup_x1, 1)) (hc : x.category = 1) (hc' : y.category = 1) (hp : pc + 1 = pc')
    (K : Goes p e below Post (T.setTop (mkF m pc' ls (x :: y :: x :: st)))) : Goes p e below Post (T.setTop (mkF m pc ls (x :: y :: st))) := by
  subst hp; exact Goes.go (fun _ k => XT.dupX1 h hx rfl hd rfl hc hc' k) K
theorem dup2 (h : At T m c below) (hx : p.tables.exec = Jvm.exec) (pc' : Nat) {x y : Value} (hd : decode c.code pc = .ok (.dup2, 1)) (hc : x.category = 1) (hc' : y.category = 1) (hp : pc + 1 = pc')
    (K : Goes p e below Post (T.setTop (mkF m pc' ls (x :: y :: x :: y :: st)))) : Goes p e below Post (T.setTop (mkF m pc ls (x :: y :: st))) := by
  subst hp; exact Goes.go (fun _ k => XT.dup2 h hx rfl hd rfl hc hc' k) K
theorem iaddF (h : At T m c below) (hx : p.tables.exec = Jvm.exec) (pc' : Nat) (z : Int32) {x y : Int32} (hd : decode c.code pc = .ok (.iadd, 1)) (hz : x + y = z) (hp : pc + 1 = pc')
    (K : Goes p e below Post (T.setTop (mkF m pc' ls (.int z :: st)))) : Goes p e below Post (T.setTop (mkF m pc ls (.int y :: .int x :: st))) := by
  subst hz; exact iadd h hx pc' hd hp K
theorem isubF (h : At T m c below) (hx : p.tables.exec = Jvm.exec) (pc' : Nat) (z : Int32) {x y : Int32} (hd : decode c.code pc = .ok (.isub, 1)) (hz : x - y = z) (hp : pc + 1 = pc')
    (K : Goes p e below Post (T.setTop (mkF m pc' ls (.int z :: st)))) : Goes p e below Post (T.setTop (mkF m pc ls (.int y :: .int x :: st))) := by
  subst hz; exact isub h hx pc' hd hp K
theorem imulF (h : At T m c below) (hx : p.tables.exec = Jvm.exec) (pc' : Nat) (z : Int32) {x y : Int32} (hd : decode c.code pc = .ok (.imul, 1)) (hz : x * y = z) (hp : pc + 1 = pc')
    (K : Goes p e below Post (T.setTop (mkF m pc' ls (.int z :: st)))) : Goes p e below Post (T.setTop (mkF m pc ls (.int y :: .int x :: st))) := by
  subst hz; exact imul h hx pc' hd hp K
theorem iandF (h : At T m c below) (hx : p.tables.exec = Jvm.exec) (pc' : Nat) (z : Int32) {x y : Int32} (hd : decode c.code pc = .ok (.iand, 1)) (hz : x &&& y = z) (hp : pc + 1 = pc')
    (K : Goes p e below Post (T.setTop (mkF m pc' ls (.int z :: st)))) : Goes p e below Post (T.setTop (mkF m pc ls (.int y :: .int x :: st))) := by
  subst hz; exact iand h hx pc' hd hp K
theorem iorF (h : At T m c below) (hx : p.tables.exec = Jvm.exec) (pc' : Nat) (z : Int32) {x y : Int32} (hd : decode c.code pc = .ok (.ior, 1)) (hz : x ||| y = z) (hp : pc + 1 = pc')
    (K : Goes p e below Post (T.setTop (mkF m pc' ls (.int z :: st)))) : Goes p e below Post (T.setTop (mkF m pc ls (.int y :: .int x :: st))) := by
  subst hz; exact ior h hx pc' hd hp K
theorem ixorF (h : At T m c below) (hx : p.tables.exec = Jvm.exec) (pc' : Nat) (z : Int32) {x y : Int32} (hd : decode c.code pc = .ok (.ixor, 1)) (hz : x ^^^ y = z) (hp : pc + 1 = pc')
    (K : Goes p e below Post (T.setTop (mkF m pc' ls (.int z :: st)))) : Goes p e below Post (T.setTop (mkF m pc ls (.int y :: .int x :: st))) := by
  subst hz; exact ixor h hx pc' hd hp K
theorem ishlF (h : At T m c below) (hx : p.tables.exec = Jvm.exec) (pc' : Nat) (z : Int32) {x y : Int32} (hd : decode c.code pc = .ok (.ishl, 1)) (hz : x <<< (y &&& 31) = z) (hp : pc + 1 = pc')
    (K : Goes p e below Post (T.setTop (mkF m pc' ls (.int z :: st)))) : Goes p e below Post (T.setTop (mkF m pc ls (.int y :: .int x :: st))) := by
  subst hz; exact ishl h hx pc' hd hp K
theorem ishrF (h : At T m c below) (hx : p.tables.exec = Jvm.exec) (pc' : Nat) (z : Int32) {x y : Int32} (hd : decode c.code pc = .ok (.ishr, 1)) (hz : x >>> (y &&& 31) = z) (hp : pc + 1 = pc')
    (K : Goes p e below Post (T.setTop (mkF m pc' ls (.int z :: st)))) : Goes p e below Post (T.setTop (mkF m pc ls (.int y :: .int x :: st))) := by
  subst hz; exact ishr h hx pc' hd hp K
theorem iushrF (h : At T m c below) (hx : p.tables.exec = Jvm.exec) (pc' : Nat) (z : Int32) {x y : Int32} (hd : decode c.code pc = .ok (.iushr, 1)) (hz : XT.ushr x y = z) (hp : pc + 1 = pc')
    (K : Goes p e below Post (T.setTop (mkF m pc' ls (.int z :: st)))) : Goes p e below Post (T.setTop (mkF m pc ls (.int y :: .int x :: st))) := by
  subst hz; exact iushr h hx pc' hd hp K
theorem inegF (h : At T m c below) (hx : p.tables.exec = Jvm.exec) (pc' : Nat) (z : Int32) {x : Int32} (hd : decode c.code pc = .ok (.ineg, 1)) (hz : -x = z) (hp : pc + 1 = pc')
    (K : Goes p e below Post (T.setTop (mkF m pc' ls (.int z :: st)))) : Goes p e below Post (T.setTop (mkF m pc ls (.int x :: st))) := by
  subst hz; exact ineg h hx pc' hd hp K
theorem istore (h : At T m c below) (hx : p.tables.exec = Jvm.exec) (pc' : Nat) (l' : Int32 → Array Slot) {k : Nat} {x : Int32} (hd : decode c.code pc = .ok (.istore k, 2)) (hl : ∀ v, storeLocals ls k (.int v) = some (l' v)) (hp : pc + 2 = pc')
    (K : ∀ v, v = x → Goes p e below Post (T.setTop (mkF m pc' (l' v) st))) : Goes p e below Post (T.setTop (mkF m pc ls (.int x :: st))) := by
  subst hp; exact Goes.go (fun _ k => XS.istore h hx rfl hd rfl (hl x) k) (K x rfl)
theorem istoreN (h : At T m c below) (hx : p.tables.exec = Jvm.exec) (pc' : Nat) (l' : Int32 → Array Slot) {k : Fin 4} {x : Int32} (hd : decode c.code pc = .ok (.istore_n k, 1)) (hl : ∀ v, storeLocals ls k.val (.int v) = some (l' v)) (hp : pc + 1 = pc')
    (K : ∀ v, v = x → Goes p e below Post (T.setTop (mkF m pc' (l' v) st))) : Goes p e below Post (T.setTop (mkF m pc ls (.int x :: st))) := by
  subst hp; exact Goes.go (fun _ k => XS.istoreN h hx rfl hd rfl (hl x) k) (K x rfl)
theorem lstore (h : At T m c below) (hx : p.tables.exec = Jvm.exec) (pc' : Nat) (l' : Int64 → Array Slot) {k : Nat} {x : Int64} (hd : decode c.code pc = .ok (.lstore k, 2)) (hl : ∀ v, storeLocals ls k (.long v) = some (l' v)) (hp : pc + 2 = pc')
    (K : ∀ v, v = x → Goes p e below Post (T.setTop (mkF m pc' (l' v) st))) : Goes p e below Post (T.setTop (mkF m pc ls (.long x :: st))) := by
  subst hp; exact Goes.go (fun _ k => XT.lstore h hx rfl hd rfl (hl x) k) (K x rfl)
theorem lstoreN (h : At T m c below) (hx : p.tables.exec = Jvm.exec) (pc' : Nat) (l' : Int64 → Array Slot) {k : Fin 4} {x : Int64} (hd : decode c.code pc = .ok (.lstore_n k, 1)) (hl : ∀ v, storeLocals ls k.val (.long v) = some (l' v)) (hp : pc + 1 = pc')
    (K : ∀ v, v = x → Goes p e below Post (T.setTop (mkF m pc' (l' v) st))) : Goes p e below Post (T.setTop (mkF m pc ls (.long x :: st))) := by
  subst hp; exact Goes.go (fun _ k => XT.lstoreN h hx rfl hd rfl (hl x) k) (K x rfl)
theorem istoreX (h : At T m c below) (hx : p.tables.exec = Jvm.exec) (pc' : Nat) (l' : Array Slot) {k : Nat} {x : Int32} (hd : decode c.code pc = .ok (.istore k, 2)) (hl : storeLocals ls k (.int x) = some l') (hp : pc + 2 = pc')
    (K : Goes p e below Post (T.setTop (mkF m pc' l' st))) : Goes p e below Post (T.setTop (mkF m pc ls (.int x :: st))) := by
  subst hp; exact Goes.go (fun _ k => XS.istore h hx rfl hd rfl hl k) K
theorem istoreNX (h : At T m c below) (hx : p.tables.exec = Jvm.exec) (pc' : Nat) (l' : Array Slot) {k : Fin 4} {x : Int32} (hd : decode c.code pc = .ok (.istore_n k, 1)) (hl : storeLocals ls k.val (.int x) = some l') (hp : pc + 1 = pc')
    (K : Goes p e below Post (T.setTop (mkF m pc' l' st))) : Goes p e below Post (T.setTop (mkF m pc ls (.int x :: st))) := by
  subst hp; exact Goes.go (fun _ k => XS.istoreN h hx rfl hd rfl hl k) K
theorem lstoreX (h : At T m c below) (hx : p.tables.exec = Jvm.exec) (pc' : Nat) (l' : Array Slot) {k : Nat} {x : Int64} (hd : decode c.code pc = .ok (.lstore k, 2)) (hl : storeLocals ls k (.long x) = some l') (hp : pc + 2 = pc')
    (K : Goes p e below Post (T.setTop (mkF m pc' l' st))) : Goes p e below Post (T.setTop (mkF m pc ls (.long x :: st))) := by
  subst hp; exact Goes.go (fun _ k => XT.lstore h hx rfl hd rfl hl k) K
theorem lstoreNX (h : At T m c below) (hx : p.tables.exec = Jvm.exec) (pc' : Nat) (l' : Array Slot) {k : Fin 4} {x : Int64} (hd : decode c.code pc = .ok (.lstore_n k, 1)) (hl : storeLocals ls k.val (.long x) = some l') (hp : pc + 1 = pc')
    (K : Goes p e below Post (T.setTop (mkF m pc' l' st))) : Goes p e below Post (T.setTop (mkF m pc ls (.long x :: st))) := by
  subst hp; exact Goes.go (fun _ k => XT.lstoreN h hx rfl hd rfl hl k) K
theorem iincX (h : At T m c below) (hx : p.tables.exec = Jvm.exec) (pc' : Nat) (l' : Array Slot) {k : Nat} {cst : Int} {x : Int32} (hd : decode c.code pc = .ok (.iinc k cst, 3)) (hg : ls[k]? = some (.val (.int x))) (z : Int32) (hz : Int32.ofInt cst = z) (hl : storeLocals ls k (.int (x + z)) = some l') (hp : pc + 3 = pc')
    (K : Goes p e below Post (T.setTop (mkF m pc' l' st))) : Goes p e below Post (T.setTop (mkF m pc ls st)) := by
  subst hp hz; exact Goes.go (fun _ k => XS.iinc h hx rfl hd hg hl k) K
theorem astore (h : At T m c below) (hx : p.tables.exec = Jvm.exec) (pc' : Nat) (l' : Array Slot) {k : Nat} {x : Value} (hd : decode c.code pc = .ok (.astore k, 2)) (hv : x.isRef = true) (hl : storeLocals ls k x = some l') (hp : pc + 2 = pc')
    (K : Goes p e below Post (T.setTop (mkF m pc' l' st))) : Goes p e below Post (T.setTop (mkF m pc ls (x :: st))) := by
  subst hp; exact Goes.go (fun _ k => XS.astore h hx rfl hd rfl hv hl k) K
theorem astoreN (h : At T m c below) (hx : p.tables.exec = Jvm.exec) (pc' : Nat) (l' : Array Slot) {k : Fin 4} {x : Value} (hd : decode c.code pc = .ok (.astore_n k, 1)) (hv : x.isRef = true) (hl : storeLocals ls k.val x = some l') (hp : pc + 1 = pc')
    (K : Goes p e below Post (T.setTop (mkF m pc' l' st))) : Goes p e below Post (T.setTop (mkF m pc ls (x :: st))) := by
  subst hp; exact Goes.go (fun _ k => XS.astoreN h hx rfl hd rfl hv hl k) K
theorem iinc (h : At T m c below) (hx : p.tables.exec = Jvm.exec) (pc' : Nat) (l' : Int32 → Array Slot) {k : Nat} {cst : Int} {x : Int32} (hd : decode c.code pc = .ok (.iinc k cst, 3)) (hg : ls[k]? = some (.val (.int x))) (z : Int32) (hz : Int32.ofInt cst = z) (hl : ∀ v, storeLocals ls k (.int v) = some (l' v)) (hp : pc + 3 = pc')
    (K : ∀ v, v = x + z → Goes p e below Post (T.setTop (mkF m pc' (l' v) st))) : Goes p e below Post (T.setTop (mkF m pc ls st)) := by
  subst hp hz; exact Goes.go (fun _ k => XS.iinc h hx rfl hd hg (hl _) k) (K _ rfl)
theorem goto (h : At T m c below) (hx : p.tables.exec = Jvm.exec) (pc' : Nat) {o : Int} (hd : decode c.code pc = .ok (.goto o, 3)) (ho : 0 ≤ (pc : Int) + o) (hp : ((pc : Int) + o).toNat = pc')
    (K : Goes p e below Post (T.setTop (mkF m pc' ls st))) : Goes p e below Post (T.setTop (mkF m pc ls st)) := Goes.go (fun _ k => XS.goto h hx rfl (pc0 := pc) rfl hd ho hp k) K
theorem ifY (h : At T m c below) (hx : p.tables.exec = Jvm.exec) (pc' : Nat) {cd : ClassFile.Cond} {x : Int32} {o : Int} (hd : decode c.code pc = .ok (.ifCond cd o, 3)) (hc : ifCond.holds cd x = true) (ho : 0 ≤ (pc : Int) + o) (hp : ((pc : Int) + o).toNat = pc')
    (K : Goes p e below Post (T.setTop (mkF m pc' ls st))) : Goes p e below Post (T.setTop (mkF m pc ls (.int x :: st))) := Goes.go (fun _ k => XS.ifYes h hx rfl (pc0 := pc) rfl hd rfl hc ho hp k) K
theorem ifN (h : At T m c below) (hx : p.tables.exec = Jvm.exec) (pc' : Nat) {cd : ClassFile.Cond} {x : Int32} {o : Int} (hd : decode c.code pc = .ok (.ifCond cd o, 3)) (hc : ifCond.holds cd x = false) (hp : pc + 3 = pc')
    (K : Goes p e below Post (T.setTop (mkF m pc' ls st))) : Goes p e below Post (T.setTop (mkF m pc ls (.int x :: st))) := by
  subst hp; exact Goes.go (fun _ k => XS.ifNo h hx rfl hd rfl hc k) K
theorem icmpY (h : At T m c below) (hx : p.tables.exec = Jvm.exec) (pc' : Nat) {cd : ClassFile.Cond} {x y : Int32} {o : Int} (hd : decode c.code pc = .ok (.if_icmp cd o, 3)) (hc : if_icmp.holds cd x y = true) (ho : 0 ≤ (pc : Int) + o) (hp : ((pc : Int) + o).toNat = pc')
    (K : Goes p e below Post (T.setTop (mkF m pc' ls st))) : Goes p e below Post (T.setTop (mkF m pc ls (.int y :: .int x :: st))) := Goes.go (fun _ k => XS.icmpYes h hx rfl (pc0 := pc) rfl hd rfl hc ho hp k) K
theorem icmpN (h : At T m c below) (hx : p.tables.exec = Jvm.exec) (pc' : Nat) {cd : ClassFile.Cond} {x y : Int32} {o : Int} (hd : decode c.code pc = .ok (.if_icmp cd o, 3)) (hc : if_icmp.holds cd x y = false) (hp : pc + 3 = pc')
    (K : Goes p e below Post (T.setTop (mkF m pc' ls st))) : Goes p e below Post (T.setTop (mkF m pc ls (.int y :: .int x :: st))) := by
  subst hp; exact Goes.go (fun _ k => XS.icmpNo h hx rfl hd rfl hc k) K
theorem ifnullY (h : At T m c below) (hx : p.tables.exec = Jvm.exec) (pc' : Nat) {o : Int} (hd : decode c.code pc = .ok (.ifnull o, 3)) (ho : 0 ≤ (pc : Int) + o) (hp : ((pc : Int) + o).toNat = pc')
    (K : Goes p e below Post (T.setTop (mkF m pc' ls st))) : Goes p e below Post (T.setTop (mkF m pc ls (.null :: st))) := Goes.go (fun _ k => XS.ifnullYes h hx rfl (pc0 := pc) rfl hd rfl ho hp k) K
theorem ifnullN (h : At T m c below) (hx : p.tables.exec = Jvm.exec) (pc' : Nat) {b : Addr} {o : Int} (hd : decode c.code pc = .ok (.ifnull o, 3)) (hp : pc + 3 = pc')
    (K : Goes p e below Post (T.setTop (mkF m pc' ls st))) : Goes p e below Post (T.setTop (mkF m pc ls (.ref b :: st))) := by
  subst hp; exact Goes.go (fun _ k => XS.ifnullNo h hx rfl hd rfl k) K
theorem ifnonnullY (h : At T m c below) (hx : p.tables.exec = Jvm.exec) (pc' : Nat) {b : Addr} {o : Int} (hd : decode c.code pc = .ok (.ifnonnull o, 3)) (ho : 0 ≤ (pc : Int) + o) (hp : ((pc : Int) + o).toNat = pc')
    (K : Goes p e below Post (T.setTop (mkF m pc' ls st))) : Goes p e below Post (T.setTop (mkF m pc ls (.ref b :: st))) := Goes.go (fun _ k => XT.ifnonnullYes h hx rfl (pc0 := pc) rfl hd rfl ho hp k) K
theorem ifnonnullN (h : At T m c below) (hx : p.tables.exec = Jvm.exec) (pc' : Nat) {o : Int} (hd : decode c.code pc = .ok (.ifnonnull o, 3)) (hp : pc + 3 = pc')
    (K : Goes p e below Post (T.setTop (mkF m pc' ls st))) : Goes p e below Post (T.setTop (mkF m pc ls (.null :: st))) := by
  subst hp; exact Goes.go (fun _ k => XT.ifnonnullNo h hx rfl hd rfl k) K
theorem acmpY (h : At T m c below) (hx : p.tables.exec = Jvm.exec) (pc' : Nat) {cd : ClassFile.ACond} {x y : Value} {o : Int} (hd : decode c.code pc = .ok (.if_acmp cd o, 3)) (h1 : x.isRef = true) (h2 : y.isRef = true) (hc : XT.acmp cd x y = true) (ho : 0 ≤ (pc : Int) + o) (hp : ((pc : Int) + o).toNat = pc')
    (K : Goes p e below Post (T.setTop (mkF m pc' ls st))) : Goes p e below Post (T.setTop (mkF m pc ls (y :: x :: st))) := Goes.go (fun _ k => XT.acmpYes h hx rfl (pc0 := pc) rfl hd rfl h1 h2 hc ho hp k) K
theorem acmpN (h : At T m c below) (hx : p.tables.exec = Jvm.exec) (pc' : Nat) {cd : ClassFile.ACond} {x y : Value} {o : Int} (hd : decode c.code pc = .ok (.if_acmp cd o, 3)) (h1 : x.isRef = true) (h2 : y.isRef = true) (hc : XT.acmp cd x y = false) (hp : pc + 3 = pc')
    (K : Goes p e below Post (T.setTop (mkF m pc' ls st))) : Goes p e below Post (T.setTop (mkF m pc ls (y :: x :: st))) := by
  subst hp; exact Goes.go (fun _ k => XT.acmpNo h hx rfl hd rfl h1 h2 hc k) K
theorem ifnullV (h : At T m c below) (hx : p.tables.exec = Jvm.exec) (pc' pn : Nat) {v : Value} (hv : v.isRef = true) {o : Int} (hd : decode c.code pc = .ok (.ifnull o, 3)) (ho : 0 ≤ (pc : Int) + o) (hp : ((pc : Int) + o).toNat = pc') (hq : pc + 3 = pn)
    (KY : v = .null → Goes p e below Post (T.setTop (mkF m pc' ls st))) (KN : ¬ v = .null → Goes p e below Post (T.setTop (mkF m pn ls st))) : Goes p e below Post (T.setTop (mkF m pc ls (v :: st))) := by
  subst hq
  rcases ref_cases hv with hv0 | ⟨b, hv0⟩
  · subst hv0; exact Goes.go (fun _ k => XS.ifnullYes h hx rfl (pc0 := pc) rfl hd rfl ho hp k) (KY rfl)
  · subst hv0; exact Goes.go (fun _ k => XS.ifnullNo h hx rfl hd rfl k) (KN (fun q => nomatch q))
theorem ifnonnullV (h : At T m c below) (hx : p.tables.exec = Jvm.exec) (pc' pn : Nat) {v : Value} (hv : v.isRef = true) {o : Int} (hd : decode c.code pc = .ok (.ifnonnull o, 3)) (ho : 0 ≤ (pc : Int) + o) (hp : ((pc : Int) + o).toNat = pc') (hq : pc + 3 = pn)
    (KY : ¬ v = .null → Goes p e below Post (T.setTop (mkF m pc' ls st))) (KN : v = .null → Goes p e below Post (T.setTop (mkF m pn ls st))) : Goes p e below Post (T.setTop (mkF m pc ls (v :: st))) := by
  subst hq
  rcases ref_cases hv with hv0 | ⟨b, hv0⟩
  · subst hv0; exact Goes.go (fun _ k => XT.ifnonnullNo h hx rfl hd rfl k) (KN rfl)
  · subst hv0; exact Goes.go (fun _ k => XT.ifnonnullYes h hx rfl (pc0 := pc) rfl hd rfl ho hp k) (KY (fun q => nomatch q))
end G
end Goes
end Jvm.OwnKit
namespace Jvm.OwnKit
open Sem ClassFile Op Lib Jvm.Stand Jvm.Free Jvm.LawKit Jvm.RoadKit
theorem ext_refl (h : Heap) : Ext h h := ⟨Nat.le_refl _, fun _ _ q => q⟩
theorem ext_trans {h h' h'' : Heap} (A : Ext h h') (B : Ext h' h'') : Ext h h'' := ⟨Nat.le_trans A.1 B.1, fun x c q => B.2 x c (A.2 x c q)⟩
theorem ext_keep {h h' : Heap} (E : Ext h h') (ws : List Addr) : Keep h h' ws := (Keep.refl h ws).ext E
theorem keep_ext {h h' : Heap} {ws : List Addr} (K : Keep h h' ws) (q : ∀ x ∈ ws, h.size ≤ x) : Ext h h' :=
  ⟨K.1, fun x c hx => K.2.1 x c hx fun z => absurd (Array.getElem?_eq_some_iff.mp hx).1 (Nat.not_lt.mpr (q x z))⟩
theorem keep_nil {h h' : Heap} (K : Keep h h' []) : Ext h h' := keep_ext K fun _ q => nomatch q
theorem keep_one {h h' : Heap} {a : Addr} (K : Keep h h' [a]) (q : h.size ≤ a) : Ext h h' := keep_ext K fun x hx => by cases List.mem_singleton.mp hx; exact q
/-- where the walk of a body stands: its start's heap h0, what it may write of it (ws), the tables' base vm0, the state, the heap -/
def Wk (p : Program) (l : Launch) (e : Env) (R : Room) (s : State) (m : MethodId) (args : Array Value) (below : List Frame) (meth : Method) (c : Code) (Z : State) (EL : List (String × Nat)) (h0 : Heap) (ws : List Addr) (vm0 : Vm) (T : State) (h : Heap) (cells slots : Nat) : Prop :=
  ∃ locs, Stand p l e R (s.setVm vm0) m args below meth c T locs cells slots ∧ Fr Z.heap.size locs ∧ T.heap = h ∧ Keep h0 h ws ∧ s.heap = h0 ∧ Ext Z.heap h0 ∧ (∀ x ∈ ws, Z.heap.size ≤ x) ∧ Z.Warmed39 vm0 ∧ (∃ k0, s.Since vm0 k0 ∧ k0 ≤ h.size) ∧ CHr Z EL s.vm h0 vm0 h
section Wk
variable {p : Program} {l : Launch} {e : Env} {R : Room} {s : State} {m : MethodId} {args : Array Value} {below : List Frame} {meth : Method} {c : Code} {Z : State} {EL : List (String × Nat)} {h0 : Heap} {ws : List Addr} {vm0 : Vm} {T : State} {h : Heap} {cells slots : Nat} {a0 : Array Value} {Post : Outcome → State → Prop} {pc : Nat} {ls : Array Slot} {st rest : List Value} {own : String}
theorem Wk.here (W : Wk p l e R s m args below meth c Z EL h0 ws vm0 T h cells slots) : At T m c below := by obtain ⟨_, X, _⟩ := W; exact X.here
theorem Wk.warm (W : Wk p l e R s m args below meth c Z EL h0 ws vm0 T h cells slots) : Z.Warmed39 vm0 := by obtain ⟨_, _, _, _, _, _, _, _, q, _⟩ := W; exact q
theorem Wk.alike (W : Wk p l e R s m args below meth c Z EL h0 ws vm0 T h cells slots) : Z.vm.Alike vm0 := W.warm.alike
theorem Wk.chr (W : Wk p l e R s m args below meth c Z EL h0 ws vm0 T h cells slots) : CHr Z EL s.vm h0 vm0 h := by obtain ⟨_, _, _, _, _, _, _, _, _, _, q⟩ := W; exact q
theorem Wk.ch (W : Wk p l e R s m args below meth c Z EL h0 ws vm0 T h cells slots) : CHv Z EL vm0 h := W.chr.1
theorem Wk.keeps (W : Wk p l e R s m args below meth c Z EL h0 ws vm0 T h cells slots) : Keep h0 h ws := by obtain ⟨_, _, _, _, q, _⟩ := W; exact q
theorem Wk.size (W : Wk p l e R s m args below meth c Z EL h0 ws vm0 T h cells slots) : h0.size ≤ h.size := W.keeps.1
theorem Wk.zsize (W : Wk p l e R s m args below meth c Z EL h0 ws vm0 T h cells slots) : Z.heap.size ≤ h0.size := by obtain ⟨_, _, _, _, _, _, q, _⟩ := W; exact q.1
theorem Wk.mono (W : Wk p l e R s m args below meth c Z EL h0 ws vm0 T h cells slots) {cells' slots' : Nat} (hc : cells ≤ cells') (hn : slots ≤ slots') : Wk p l e R s m args below meth c Z EL h0 ws vm0 T h cells' slots' := by
  obtain ⟨locs, X, r⟩ := W; exact ⟨locs, X.mono hc hn, r⟩
theorem Wk.old (W : Wk p l e R s m args below meth c Z EL h0 ws vm0 T h cells slots) : Ext Z.heap h := by
  obtain ⟨_, _, _, _, K, _, E, hws, _⟩ := W
  exact ⟨Nat.le_trans E.1 K.1, fun x cl q => K.2.1 x cl (E.2 x cl q) fun z => absurd (Array.getElem?_eq_some_iff.mp q).1 (Nat.not_lt.mpr (hws x z))⟩
theorem Wk.wown (W : Wk p l e R s m args below meth c Z EL h0 ws vm0 T h cells slots) (ho : Z.vm.findClass own = some m.cls) : (s.setVm vm0).vm.findClass own = some m.cls := by
  show vm0.findClass own = some m.cls
  rw [W.alike.findClass]; exact ho
theorem Wk.may (W : Wk p l e R s m args below meth c Z EL h0 ws vm0 T h cells slots) {a : Addr} (q : a ∈ ws ∨ h0.size ≤ a) : Z.heap.size ≤ a := by
  obtain ⟨_, _, _, _, _, _, E, hws, _⟩ := W
  exact q.elim (hws a) fun r => Nat.le_trans E.1 r
theorem Wk.grown (W : Wk p l e R s m args below meth c Z EL h0 ws vm0 T h cells slots) {T' : State} {h' : Heap} {k n : Nat} (X' : ∀ locs, Stand p l e R (s.setVm vm0) m args below meth c T locs cells slots → Stand p l e R (s.setVm vm0) m args below meth c T' locs k n) (e' : T'.heap = h') (E : Ext h h') : Wk p l e R s m args below meth c Z EL h0 ws vm0 T' h' k n := by
  obtain ⟨locs, X, N, eh, K, es, O, hws, hZ, ⟨k0, hS, hk⟩, C⟩ := W
  exact ⟨locs, X' locs X, N, e', K.ext E, es, O, hws, hZ, ⟨k0, hS, Nat.le_trans hk E.1⟩, C.trans (CHr.ext E C.1)⟩
theorem Wk.newO (W : Wk p l e R s m args below meth c Z EL h0 ws vm0 T h cells slots) (hx : p.tables.exec = Jvm.exec) (ho : Z.vm.findClass own = some m.cls) {C : String} {index n : Nat} (w : (Cond.classLink own index C).before a0 Z = true) (wi : (Cond.instantiable C n).before a0 Z = true) (wz : (Cond.initialized C).before a0 Z = true)
    (pc' : Nat) (hd : decode c.code pc = .ok (.new index, 3)) (hp : pc + 3 = pc') (hc : cells + 1 ≤ R.cells) (hl : slots + n ≤ R.slots)
    (K : ∀ (T' : State) (h' : Heap) (a : Addr), Wk p l e R s m args below meth c Z EL h0 ws vm0 T' h' (cells + 1) (slots + n) → Ext h h' → a = h.size → Exa Z h' a C → (∀ {O nm d : String} {ty : FieldType}, Laid Z a0 C O nm d → parseFieldDescriptor d = some ty → Fld Z h' a O nm d (defaultValue ty)) → Safe Z EL vm0 h' a → Goes p e below Post (T'.setTop (mkF m pc' ls (.ref a :: st)))) : Goes p e below Post (T.setTop (mkF m pc ls st)) := by
  subst hp
  have ho' := W.wown ho
  have W0 := W
  obtain ⟨locs, X, N, eh, K0, es, O, hws, hZ, ⟨k0, hS, hk⟩, C⟩ := W
  obtain ⟨T', h', X', e', E, A, D, -, stp⟩ := RoadKit.newO X hx hZ ho' w wi wz eh (g := mkF m pc ls st) rfl hd hc hl
  exact Goes.go stp (K T' h' _ ⟨locs, X', N, e', K0.ext E, es, O, hws, hZ, ⟨k0, hS, Nat.le_trans hk E.1⟩, C.trans (CHr.ext E C.1)⟩ E rfl A D fun B => Safe.new (Nat.le_refl _) ((C.1.step fun _ _ _ q => E.2 _ _ q).2 _ B))
theorem Wk.newP (W : Wk p l e R s m args below meth c Z EL h0 ws vm0 T h cells slots) (hx : p.tables.exec = Jvm.exec) {aty : ArrayType} (w : (Cond.arrayClass (newarray.typeOf aty)).before a0 Z = true)
    (pc' : Nat) (hd : decode c.code pc = .ok (.newarray aty, 2)) {n : Int32} (hn : ¬ n < 0) (cap : Nat) (hcap : n.toNatClampNeg ≤ cap) (hp : pc + 2 = pc') (hb : cap * 8 ≤ 536870912) (hc : cells + 1 ≤ R.cells) (hl : slots + cap ≤ R.slots)
    (K : ∀ (T' : State) (h' : Heap) (a : Addr) (k : ClassId), Wk p l e R s m args below meth c Z EL h0 ws vm0 T' h' (cells + 1) (slots + cap) → Ext h h' → a = h.size → Arv Z h' a k (newarray.typeOf aty) n (List.replicate cap (defaultValue (newarray.typeOf aty))) (defaultValue (newarray.typeOf aty)) → Safe Z EL vm0 h' a → Goes p e below Post (T'.setTop (mkF m pc' ls (.ref a :: st)))) : Goes p e below Post (T.setTop (mkF m pc ls (.int n :: st))) := by
  subst hp
  obtain ⟨locs, X, N, eh, K0, es, O, hws, hZ, ⟨k0, hS, hk⟩, C⟩ := W
  obtain ⟨T', h', cA, X', e', E, A, stp⟩ := RoadKit.newP X hx hZ w eh (g := mkF m pc ls (.int n :: st)) rfl hd rfl hn hcap hb hc hl
  exact Goes.go stp (K T' h' _ cA ⟨locs, X', N, e', K0.ext E, es, O, hws, hZ, ⟨k0, hS, Nat.le_trans hk E.1⟩, C.trans (CHr.ext E C.1)⟩ E rfl ((Arv.new A hn).pad (pad_rep [] _ cap)) fun B => Safe.new (Nat.le_refl _) ((C.1.step fun _ _ _ q => E.2 _ _ q).2 _ B))
theorem Wk.castore (W : Wk p l e R s m args below meth c Z EL h0 ws vm0 T h cells slots) (hx : p.tables.exec = Jvm.exec) {a : Addr} {k : ClassId} {n : Int32} {vs : List Value} {d : Value} (V : Arv Z h a k .char n vs d) (ha : a ∈ ws ∨ h0.size ≤ a) {j : Int32} {x : Int32} (x' : Int32) (hn : nar .char x = x') (i : Nat) (hj : j.toNatClampNeg = i) (hin : ¬ j < 0 ∧ j < n) (hi : i < vs.length)
    (pc' : Nat) (hd : decode c.code pc = .ok (.castore, 1)) (hp : pc + 1 = pc')
    (K : ∀ (T' : State) (h' : Heap), Wk p l e R s m args below meth c Z EL h0 ws vm0 T' h' cells slots → Keep h h' [a] → CHr Z EL vm0 h vm0 h' → Arv Z h' a k .char n (vs.set i (.int x')) d → Goes p e below Post (T'.setTop (mkF m pc' ls st))) : Goes p e below Post (T.setTop (mkF m pc ls (.int x :: .int j :: .ref a :: st))) := by
  subst hp
  have hza := W.may ha
  obtain ⟨locs, X, N, eh, K0, es, O, hws, hZ, ⟨k0, hS, hk⟩, C⟩ := W
  obtain ⟨cl, A, q1, S, q3, H, G⟩ := V
  obtain ⟨T', h', X', e', Wr', stp⟩ := RoadKit.stC X hx hZ eh A (j := j) (inb_of S hin) (g := mkF m pc ls (.int x :: .int j :: .ref a :: st)) rfl rfl hd
  rw [show nar .char x = x' from hn] at Wr'
  have C1 := CHr.wr Wr' (Safe.arr hZ.alike A (by intro q; cases q)) C.1
  exact Goes.go stp (K T' h' ⟨_, X', Fr.snoc X' N hza, e', K0.wr Wr' ha, es, O, hws, hZ, ⟨k0, hS, Nat.le_trans hk (Keep.of_wr Wr').1⟩, C.trans C1⟩ (Keep.of_wr Wr') C1 (Arv.set A q1 S q3 H G (by rw [← hn]; exact fits_nar_char _) Wr' i hj hi))
theorem Wk.iastore (W : Wk p l e R s m args below meth c Z EL h0 ws vm0 T h cells slots) (hx : p.tables.exec = Jvm.exec) {a : Addr} {k : ClassId} {n : Int32} {vs : List Value} {d : Value} (V : Arv Z h a k .int n vs d) (ha : a ∈ ws ∨ h0.size ≤ a) {j : Int32} {x : Int32} (x' : Int32) (hn : x = x') (i : Nat) (hj : j.toNatClampNeg = i) (hin : ¬ j < 0 ∧ j < n) (hi : i < vs.length)
    (pc' : Nat) (hd : decode c.code pc = .ok (.iastore, 1)) (hp : pc + 1 = pc')
    (K : ∀ (T' : State) (h' : Heap), Wk p l e R s m args below meth c Z EL h0 ws vm0 T' h' cells slots → Keep h h' [a] → CHr Z EL vm0 h vm0 h' → Arv Z h' a k .int n (vs.set i (.int x')) d → Goes p e below Post (T'.setTop (mkF m pc' ls st))) : Goes p e below Post (T.setTop (mkF m pc ls (.int x :: .int j :: .ref a :: st))) := by
  subst hp
  have hza := W.may ha
  obtain ⟨locs, X, N, eh, K0, es, O, hws, hZ, ⟨k0, hS, hk⟩, C⟩ := W
  obtain ⟨cl, A, q1, S, q3, H, G⟩ := V
  obtain ⟨T', h', X', e', Wr', stp⟩ := RoadKit.stI X hx hZ eh A (j := j) (inb_of S hin) (g := mkF m pc ls (.int x :: .int j :: .ref a :: st)) rfl rfl hd
  rw [show x = x' from hn] at Wr'
  have C1 := CHr.wr Wr' (Safe.arr hZ.alike A (by intro q; cases q)) C.1
  exact Goes.go stp (K T' h' ⟨_, X', Fr.snoc X' N hza, e', K0.wr Wr' ha, es, O, hws, hZ, ⟨k0, hS, Nat.le_trans hk (Keep.of_wr Wr').1⟩, C.trans C1⟩ (Keep.of_wr Wr') C1 (Arv.set A q1 S q3 H G (rfl) Wr' i hj hi))
theorem Wk.lastore (W : Wk p l e R s m args below meth c Z EL h0 ws vm0 T h cells slots) (hx : p.tables.exec = Jvm.exec) {a : Addr} {k : ClassId} {n : Int32} {vs : List Value} {d : Value} (V : Arv Z h a k .long n vs d) (ha : a ∈ ws ∨ h0.size ≤ a) {j : Int32} {x : Int64} (x' : Int64) (hn : x = x') (i : Nat) (hj : j.toNatClampNeg = i) (hin : ¬ j < 0 ∧ j < n) (hi : i < vs.length)
    (pc' : Nat) (hd : decode c.code pc = .ok (.lastore, 1)) (hp : pc + 1 = pc')
    (K : ∀ (T' : State) (h' : Heap), Wk p l e R s m args below meth c Z EL h0 ws vm0 T' h' cells slots → Keep h h' [a] → CHr Z EL vm0 h vm0 h' → Arv Z h' a k .long n (vs.set i (.long x')) d → Goes p e below Post (T'.setTop (mkF m pc' ls st))) : Goes p e below Post (T.setTop (mkF m pc ls (.long x :: .int j :: .ref a :: st))) := by
  subst hp
  have hza := W.may ha
  obtain ⟨locs, X, N, eh, K0, es, O, hws, hZ, ⟨k0, hS, hk⟩, C⟩ := W
  obtain ⟨cl, A, q1, S, q3, H, G⟩ := V
  obtain ⟨T', h', X', e', Wr', stp⟩ := RoadKit.stJ X hx hZ eh A (j := j) (inb_of S hin) (g := mkF m pc ls (.long x :: .int j :: .ref a :: st)) rfl rfl hd
  rw [show x = x' from hn] at Wr'
  have C1 := CHr.wr Wr' (Safe.arr hZ.alike A (by intro q; cases q)) C.1
  exact Goes.go stp (K T' h' ⟨_, X', Fr.snoc X' N hza, e', K0.wr Wr' ha, es, O, hws, hZ, ⟨k0, hS, Nat.le_trans hk (Keep.of_wr Wr').1⟩, C.trans C1⟩ (Keep.of_wr Wr') C1 (Arv.set A q1 S q3 H G (rfl) Wr' i hj hi))
theorem Wk.bastore (W : Wk p l e R s m args below meth c Z EL h0 ws vm0 T h cells slots) (hx : p.tables.exec = Jvm.exec) {a : Addr} {k : ClassId} {n : Int32} {vs : List Value} {d : Value} (V : Arv Z h a k .byte n vs d) (ha : a ∈ ws ∨ h0.size ≤ a) (sf : Safe Z EL vm0 h a) {j : Int32} {x : Int32} (x' : Int32) (hn : nar .byte x = x') (i : Nat) (hj : j.toNatClampNeg = i) (hin : ¬ j < 0 ∧ j < n) (hi : i < vs.length)
    (pc' : Nat) (hd : decode c.code pc = .ok (.bastore, 1)) (hp : pc + 1 = pc')
    (K : ∀ (T' : State) (h' : Heap), Wk p l e R s m args below meth c Z EL h0 ws vm0 T' h' cells slots → Keep h h' [a] → CHr Z EL vm0 h vm0 h' → Arv Z h' a k .byte n (vs.set i (.int x')) d → Goes p e below Post (T'.setTop (mkF m pc' ls st))) : Goes p e below Post (T.setTop (mkF m pc ls (.int x :: .int j :: .ref a :: st))) := by
  subst hp
  have hza := W.may ha
  obtain ⟨locs, X, N, eh, K0, es, O, hws, hZ, ⟨k0, hS, hk⟩, C⟩ := W
  obtain ⟨cl, A, q1, S, q3, H, G⟩ := V
  obtain ⟨T', h', X', e', Wr', stp⟩ := RoadKit.stB X hx hZ eh A (j := j) (inb_of S hin) (g := mkF m pc ls (.int x :: .int j :: .ref a :: st)) rfl rfl hd
  rw [show nar .byte x = x' from hn] at Wr'
  have C1 := CHr.wr Wr' sf C.1
  exact Goes.go stp (K T' h' ⟨_, X', Fr.snoc X' N hza, e', K0.wr Wr' ha, es, O, hws, hZ, ⟨k0, hS, Nat.le_trans hk (Keep.of_wr Wr').1⟩, C.trans C1⟩ (Keep.of_wr Wr') C1 (Arv.set A q1 S q3 H G (by rw [← hn]; exact fits_nar_byte _) Wr' i hj hi))
theorem Wk.caload (W : Wk p l e R s m args below meth c Z EL h0 ws vm0 T h cells slots) (hx : p.tables.exec = Jvm.exec) {a : Addr} {k : ClassId} {n : Int32} {vs : List Value} {d : Value} (V : Arv Z h a k .char n vs d) {j : Int32} (hin : ¬ j < 0 ∧ j < n) (v : Value) (hv : vs.getD j.toNatClampNeg d = v)
    (pc' : Nat) (hd : decode c.code pc = .ok (.caload, 1)) (hp : pc + 1 = pc') (K : Goes p e below Post (T.setTop (mkF m pc' ls (v :: st)))) : Goes p e below Post (T.setTop (mkF m pc ls (.int j :: .ref a :: st))) := by
  subst hp
  obtain ⟨locs, X, N, eh, K0, es, O, hws, hZ, -, C⟩ := W
  obtain ⟨cl, A, q1, S, q3, H, G⟩ := V
  exact Goes.go (fun tg k => X.caload hx (j := j) (v := v) (by rw [eh]; exact A.1) (State.isArrayOf_alike hZ.alike A.2.1) A.2.2 (inb_of S hin) (H.at (inb_of S hin) hv) (g := mkF m pc ls (.int j :: .ref a :: st)) rfl rfl hd tg k) K
theorem Wk.iaload (W : Wk p l e R s m args below meth c Z EL h0 ws vm0 T h cells slots) (hx : p.tables.exec = Jvm.exec) {a : Addr} {k : ClassId} {n : Int32} {vs : List Value} {d : Value} (V : Arv Z h a k .int n vs d) {j : Int32} (hin : ¬ j < 0 ∧ j < n) (v : Value) (hv : vs.getD j.toNatClampNeg d = v)
    (pc' : Nat) (hd : decode c.code pc = .ok (.iaload, 1)) (hp : pc + 1 = pc') (K : Goes p e below Post (T.setTop (mkF m pc' ls (v :: st)))) : Goes p e below Post (T.setTop (mkF m pc ls (.int j :: .ref a :: st))) := by
  subst hp
  obtain ⟨locs, X, N, eh, K0, es, O, hws, hZ, -, C⟩ := W
  obtain ⟨cl, A, q1, S, q3, H, G⟩ := V
  exact Goes.go (fun tg k => X.iaload hx (j := j) (v := v) (by rw [eh]; exact A.1) (State.isArrayOf_alike hZ.alike A.2.1) A.2.2 (inb_of S hin) (H.at (inb_of S hin) hv) (g := mkF m pc ls (.int j :: .ref a :: st)) rfl rfl hd tg k) K
theorem Wk.laload (W : Wk p l e R s m args below meth c Z EL h0 ws vm0 T h cells slots) (hx : p.tables.exec = Jvm.exec) {a : Addr} {k : ClassId} {n : Int32} {vs : List Value} {d : Value} (V : Arv Z h a k .long n vs d) {j : Int32} (hin : ¬ j < 0 ∧ j < n) (v : Value) (hv : vs.getD j.toNatClampNeg d = v)
    (pc' : Nat) (hd : decode c.code pc = .ok (.laload, 1)) (hp : pc + 1 = pc') (K : Goes p e below Post (T.setTop (mkF m pc' ls (v :: st)))) : Goes p e below Post (T.setTop (mkF m pc ls (.int j :: .ref a :: st))) := by
  subst hp
  obtain ⟨locs, X, N, eh, K0, es, O, hws, hZ, -, C⟩ := W
  obtain ⟨cl, A, q1, S, q3, H, G⟩ := V
  exact Goes.go (fun tg k => X.laload hx (j := j) (v := v) (by rw [eh]; exact A.1) (State.isArrayOf_alike hZ.alike A.2.1) A.2.2 (inb_of S hin) (H.at (inb_of S hin) hv) (g := mkF m pc ls (.int j :: .ref a :: st)) rfl rfl hd tg k) K
theorem Wk.baload (W : Wk p l e R s m args below meth c Z EL h0 ws vm0 T h cells slots) (hx : p.tables.exec = Jvm.exec) {a : Addr} {k : ClassId} {n : Int32} {vs : List Value} {d : Value} (V : Arv Z h a k .byte n vs d) {j : Int32} (hin : ¬ j < 0 ∧ j < n) (v : Value) (hv : vs.getD j.toNatClampNeg d = v)
    (pc' : Nat) (hd : decode c.code pc = .ok (.baload, 1)) (hp : pc + 1 = pc') (K : Goes p e below Post (T.setTop (mkF m pc' ls (v :: st)))) : Goes p e below Post (T.setTop (mkF m pc ls (.int j :: .ref a :: st))) := by
  subst hp
  obtain ⟨locs, X, N, eh, K0, es, O, hws, hZ, -, C⟩ := W
  obtain ⟨cl, A, q1, S, q3, H, G⟩ := V
  exact Goes.go (fun tg k => X.baloadBytes hx (j := j) (v := v) (by rw [eh]; exact A.1) (State.isArrayOf_alike hZ.alike A.2.1) A.2.2 (inb_of S hin) (H.at (inb_of S hin) hv) (g := mkF m pc ls (.int j :: .ref a :: st)) rfl rfl hd tg k) K
theorem Wk.arraylength (W : Wk p l e R s m args below meth c Z EL h0 ws vm0 T h cells slots) (hx : p.tables.exec = Jvm.exec) {a : Addr} {k : ClassId} {ty : FieldType} {n : Int32} {vs : List Value} {d : Value} (V : Arv Z h a k ty n vs d)
    (pc' : Nat) (hd : decode c.code pc = .ok (.arraylength, 1)) (hp : pc + 1 = pc') (K : Goes p e below Post (T.setTop (mkF m pc' ls (.int n :: st)))) : Goes p e below Post (T.setTop (mkF m pc ls (.ref a :: st))) := by
  subst hp
  obtain ⟨locs, X, N, eh, K0, es, O, hws, hZ, -, C⟩ := W
  obtain ⟨cl, A, q1, S, q3, H, G⟩ := V
  refine Goes.go (fun tg k => X.arraylength hx (by rw [eh]; exact A.1) (State.isArrayOf_alike hZ.alike A.2.1) (g := mkF m pc ls (.ref a :: st)) rfl rfl hd tg ?_) K
  rw [len_of S q3]; exact k
theorem Wk.getF (W : Wk p l e R s m args below meth c Z EL h0 ws vm0 T h cells slots) (hx : p.tables.exec = Jvm.exec) (ho : Z.vm.findClass own = some m.cls) {R0 O n d host : String} {index : Nat} (w : (Cond.fieldLink own index R0 n d).before a0 Z = true ∨ (Cond.fieldLinkNest own index R0 n d host).before a0 Z = true) (via : Via Z R0 O n d)
    {a : Addr} {v : Value} (F : Fld Z h a O n d v) (pc' : Nat) (hd : decode c.code pc = .ok (.getfield index, 3)) (hp : pc + 3 = pc')
    (K : ∀ (T' : State), Wk p l e R s m args below meth c Z EL h0 ws vm0 T' h cells slots → Goes p e below Post (T'.setTop (mkF m pc' ls (v :: st)))) : Goes p e below Post (T.setTop (mkF m pc ls (.ref a :: st))) := by
  subst hp
  have ho' := W.wown ho
  obtain ⟨locs, X, N, eh, r⟩ := W
  obtain ⟨hK0, hes, hO, hws, hZ, r2⟩ := r
  obtain ⟨T', X', e', stp⟩ := RoadKit.getF X hx hZ ho' w via eh F (g := mkF m pc ls (.ref a :: st)) rfl rfl hd
  exact Goes.go stp (K T' ⟨locs, X', N, e', hK0, hes, hO, hws, hZ, r2⟩)
theorem Wk.getS (W : Wk p l e R s m args below meth c Z EL h0 ws vm0 T h cells slots) (hx : p.tables.exec = Jvm.exec) (ho : Z.vm.findClass own = some m.cls) {R0 O n d : String} {index : Nat} (w : (Cond.fieldLink own index R0 n d).before a0 Z = true) (via : Via Z R0 O n d)
    {v : Value} (F : Sta Z h O n d v) (pc' : Nat) (hd : decode c.code pc = .ok (.getstatic index, 3)) (hp : pc + 3 = pc')
    (K : ∀ (T' : State), Wk p l e R s m args below meth c Z EL h0 ws vm0 T' h cells slots → Goes p e below Post (T'.setTop (mkF m pc' ls (v :: st)))) : Goes p e below Post (T.setTop (mkF m pc ls st)) := by
  subst hp
  have ho' := W.wown ho
  obtain ⟨locs, X, N, eh, r⟩ := W
  obtain ⟨hK0, hes, hO, hws, hZ, r2⟩ := r
  obtain ⟨T', X', e', stp⟩ := RoadKit.getS (host := "") X hx hZ ho' w via eh F (g := mkF m pc ls st) rfl hd
  exact Goes.go stp (K T' ⟨locs, X', N, e', hK0, hes, hO, hws, hZ, r2⟩)
theorem Wk.putF (W : Wk p l e R s m args below meth c Z EL h0 ws vm0 T h cells slots) (hx : p.tables.exec = Jvm.exec) (ho : Z.vm.findClass own = some m.cls) {R0 O n d C : String} {index kk : Nat} {ty : FieldType} (w : (Cond.fieldLink own index R0 n d).before a0 Z = true) (via : Via Z R0 O n d)
    {a : Addr} {v old : Value} (v' : Value) (F : Fld Z h a O n d old) (E : Exa Z h a C) (L : (Cond.lays C O n d).before a0 Z = true ∨ ((Cond.laysFinal C O n d).before a0 Z = true ∧ own = O ∧ meth.name = "<init>")) (wi : (Cond.instantiable C kk).before a0 Z = true)
    (hty : parseFieldDescriptor d = some ty) (hn : narrow ty v = v') (hf : fits ty v' = true) (ha : a ∈ ws ∨ h0.size ≤ a) (sf : Safe Z EL vm0 h a) (pc' : Nat) (hd : decode c.code pc = .ok (.putfield index, 3)) (hp : pc + 3 = pc')
    (K : ∀ (T' : State) (h' : Heap), Wk p l e R s m args below meth c Z EL h0 ws vm0 T' h' cells slots → Wr h h' a (RoadKit.slotOf Z O n d) v' → CHr Z EL vm0 h vm0 h' → Goes p e below Post (T'.setTop (mkF m pc' ls st))) : Goes p e below Post (T.setTop (mkF m pc ls (v :: .ref a :: st))) := by
  subst hp
  have hza := W.may ha
  have ho' := W.wown ho
  obtain ⟨locs, X, N, eh, K0, es, O', hws, hZ, ⟨k0, hS, hk⟩, C'⟩ := W
  obtain ⟨T', h', X', e', Wr', stp⟩ := RoadKit.putFN X hx hZ ho' w via eh F E L wi hty hn hf (g := mkF m pc ls (v :: .ref a :: st)) rfl rfl hd
  have C1 := CHr.wr Wr' sf C'.1
  exact Goes.go stp (K T' h' ⟨_, X', Fr.snoc X' N hza, e', K0.wr Wr' ha, es, O', hws, hZ, ⟨k0, hS, Nat.le_trans hk (Keep.of_wr Wr').1⟩, C'.trans C1⟩ Wr' C1)
theorem Wk.initO (W : Wk p l e R s m args below meth c Z EL h0 ws vm0 T h cells slots) (hx : p.tables.exec = Jvm.exec) (ho : Z.vm.findClass own = some m.cls) {index : Nat} (w1 : (Cond.methodLink own index Lib.objectInit).before a0 Z = true) (w2 : (Cond.instanceMethod Lib.objectInit).before a0 Z = true) (w3 : (Cond.code Lib.objectInit ⟨#[0xb1]⟩ 1 none).before a0 Z = true)
    (hsz : ls.size = c.maxLocals) {a : Addr} (pc' : Nat) (hd : decode c.code pc = .ok (.invokespecial index, 3)) (hp : pc + 3 = pc') (hf : 1 ≤ R.frames) (Wd : Nat) (hW : (st.map fun v => v.category).sum ≤ Wd) (hl : Wd + 12 ≤ R.locals)
    (K : ∀ (T' : State), Wk p l e R s m args below meth c Z EL h0 ws vm0 T' h cells slots → Goes p e below Post (T'.setTop (mkF m pc' ls st))) : Goes p e below Post (T.setTop (mkF m pc ls (.ref a :: st))) := by
  subst hp
  have ho' := W.wown ho
  obtain ⟨locs, X, N, eh, r⟩ := W
  obtain ⟨hK0, hes, hO, hws, hZ, r2⟩ := r
  obtain ⟨T', X', e', stp⟩ := RoadKit.initO X hx hZ ho' w1 w2 w3 eh (g := mkF m pc ls (.ref a :: st)) rfl hsz rfl hd hf (W := Wd) (by show 2 * 0 + _ ≤ _; omega) hl
  exact Goes.go stp (K T' ⟨locs, X', N, e', hK0, hes, hO, hws, hZ, r2⟩)
theorem Wk.ldcI (W : Wk p l e R s m args below meth c Z EL h0 ws vm0 T h cells slots) (hx : p.tables.exec = Jvm.exec) (ho : Z.vm.findClass own = some m.cls) {index : Nat} {v : Int32} (w : (Cond.constant own index v).before a0 Z = true)
    (pc' : Nat) (hd : decode c.code pc = .ok (.ldc index, 2)) (hp : pc + 2 = pc') (K : Goes p e below Post (T.setTop (mkF m pc' ls (.int v :: st)))) : Goes p e below Post (T.setTop (mkF m pc ls st)) := by
  subst hp
  have ho' := W.wown ho
  have hZ := W.warm
  obtain ⟨locs, X, r⟩ := W
  exact Goes.go (X.ldcInt hx ho' (mvT (s := s.setVm vm0) hZ w) (g := mkF m pc ls st) rfl hd) K
theorem Wk.ldc2 (W : Wk p l e R s m args below meth c Z EL h0 ws vm0 T h cells slots) (hx : p.tables.exec = Jvm.exec) (ho : Z.vm.findClass own = some m.cls) {index : Nat} {v : Int64} (w : (Cond.constantLong own index v).before a0 Z = true)
    (pc' : Nat) (hd : decode c.code pc = .ok (.ldc2_w index, 3)) (hp : pc + 3 = pc') (K : Goes p e below Post (T.setTop (mkF m pc' ls (.long v :: st)))) : Goes p e below Post (T.setTop (mkF m pc ls st)) := by
  subst hp
  have ho' := W.wown ho
  have hZ := W.warm
  obtain ⟨locs, X, r⟩ := W
  exact Goes.go (X.ldc2Long hx ho' (mvT (s := s.setVm vm0) hZ w) (g := mkF m pc ls st) rfl hd) K
theorem Wk.castY (W : Wk p l e R s m args below meth c Z EL h0 ws vm0 T h cells slots) (hx : p.tables.exec = Jvm.exec) (ho : Z.vm.findClass own = some m.cls) {C : String} {index : Nat} (w : (Cond.classLink own index C).before a0 Z = true) {a : Addr} (F : Ins Z h a C true)
    (pc' : Nat) (hd : decode c.code pc = .ok (.checkcast index, 3)) (hp : pc + 3 = pc') (K : ∀ (T' : State), Wk p l e R s m args below meth c Z EL h0 ws vm0 T' h cells slots → Goes p e below Post (T'.setTop (mkF m pc' ls (.ref a :: st)))) : Goes p e below Post (T.setTop (mkF m pc ls (.ref a :: st))) := by
  subst hp
  have ho' := W.wown ho
  obtain ⟨locs, X, N, eh, r⟩ := W
  obtain ⟨hK0, hes, hO, hws, hZ, r2⟩ := r
  obtain ⟨T', X', e', stp⟩ := RoadKit.castY X hx hZ ho' w eh F (g := mkF m pc ls (.ref a :: st)) rfl rfl hd
  exact Goes.go stp (K T' ⟨locs, X', N, e', hK0, hes, hO, hws, hZ, r2⟩)
theorem Wk.instY (W : Wk p l e R s m args below meth c Z EL h0 ws vm0 T h cells slots) (hx : p.tables.exec = Jvm.exec) (ho : Z.vm.findClass own = some m.cls) {C : String} {index : Nat} (w : (Cond.classLink own index C).before a0 Z = true) {a : Addr} (F : Ins Z h a C true)
    (pc' : Nat) (hd : decode c.code pc = .ok (.instanceof index, 3)) (hp : pc + 3 = pc') (K : ∀ (T' : State), Wk p l e R s m args below meth c Z EL h0 ws vm0 T' h cells slots → Goes p e below Post (T'.setTop (mkF m pc' ls (.int 1 :: st)))) : Goes p e below Post (T.setTop (mkF m pc ls (.ref a :: st))) := by
  subst hp
  have ho' := W.wown ho
  obtain ⟨locs, X, N, eh, r⟩ := W
  obtain ⟨hK0, hes, hO, hws, hZ, r2⟩ := r
  obtain ⟨T', X', e', stp⟩ := RoadKit.instY X hx hZ ho' w eh F (g := mkF m pc ls (.ref a :: st)) rfl rfl hd
  exact Goes.go stp (K T' ⟨locs, X', N, e', hK0, hes, hO, hws, hZ, r2⟩)
theorem Wk.castNull (W : Wk p l e R s m args below meth c Z EL h0 ws vm0 T h cells slots) (hx : p.tables.exec = Jvm.exec) {index : Nat} (pc' : Nat) (hd : decode c.code pc = .ok (.checkcast index, 3)) (hp : pc + 3 = pc') (K : Goes p e below Post (T.setTop (mkF m pc' ls (.null :: st)))) : Goes p e below Post (T.setTop (mkF m pc ls (.null :: st))) := by
  subst hp
  obtain ⟨locs, X, r⟩ := W
  exact Goes.go (X.checkcastNull hx (g := mkF m pc ls (.null :: st)) rfl rfl hd) K
theorem Wk.instNull (W : Wk p l e R s m args below meth c Z EL h0 ws vm0 T h cells slots) (hx : p.tables.exec = Jvm.exec) {index : Nat} (pc' : Nat) (hd : decode c.code pc = .ok (.instanceof index, 3)) (hp : pc + 3 = pc') (K : Goes p e below Post (T.setTop (mkF m pc' ls (.int 0 :: st)))) : Goes p e below Post (T.setTop (mkF m pc ls (.null :: st))) := by
  subst hp
  obtain ⟨locs, X, r⟩ := W
  exact Goes.go (X.instanceofNull hx (g := mkF m pc ls (.null :: st)) rfl rfl hd) K
theorem Wk.instNo (W : Wk p l e R s m args below meth c Z EL h0 ws vm0 T h cells slots) (hx : p.tables.exec = Jvm.exec) (ho : Z.vm.findClass own = some m.cls) {C D : String} {index : Nat} (w : (Cond.classLink own index D).before a0 Z = true) {a : Addr} (E : Exa Z h a C) (F : ∃ c t, Z.vm.findClass C = some c ∧ Z.vm.findClass D = some t ∧ Z.vm.assignable c t = false)
    (pc' : Nat) (hd : decode c.code pc = .ok (.instanceof index, 3)) (hp : pc + 3 = pc') (K : ∀ (T' : State), Wk p l e R s m args below meth c Z EL h0 ws vm0 T' h cells slots → Goes p e below Post (T'.setTop (mkF m pc' ls (.int 0 :: st)))) : Goes p e below Post (T.setTop (mkF m pc ls (.ref a :: st))) := by
  subst hp
  have ho' := W.wown ho
  obtain ⟨locs, X, N, eh, r⟩ := W
  obtain ⟨hK0, hes, hO, hws, hZ, r2⟩ := r
  obtain ⟨T', X', e', stp⟩ := RoadKit.instNo X hx hZ ho' w eh E F (g := mkF m pc ls (.ref a :: st)) rfl rfl hd
  exact Goes.go stp (K T' ⟨locs, X', N, e', hK0, hes, hO, hws, hZ, r2⟩)
theorem Wk.newR (W : Wk p l e R s m args below meth c Z EL h0 ws vm0 T h cells slots) (hx : p.tables.exec = Jvm.exec) (ho : Z.vm.findClass own = some m.cls) {C : String} {index : Nat} (w1 : (Cond.classLink own index C).before a0 Z = true) (w2 : (Cond.arrayOver (.object C)).before a0 Z = true)
    (pc' : Nat) (hd : decode c.code pc = .ok (.anewarray index, 3)) {n : Int32} (hn : ¬ n < 0) (cap : Nat) (hcap : n.toNatClampNeg ≤ cap) (hp : pc + 3 = pc') (hb : cap * 8 ≤ 536870912) (hc : cells + 1 ≤ R.cells) (hl : slots + cap ≤ R.slots)
    (K : ∀ (T' : State) (h' : Heap) (a : Addr) (k : ClassId), Wk p l e R s m args below meth c Z EL h0 ws vm0 T' h' (cells + 1) (slots + cap) → Ext h h' → a = h.size → Arv Z h' a k (.object C) n (List.replicate cap .null) .null → Ovr Z k C → Safe Z EL vm0 h' a → Goes p e below Post (T'.setTop (mkF m pc' ls (.ref a :: st)))) : Goes p e below Post (T.setTop (mkF m pc ls (.int n :: st))) := by
  subst hp
  have ho' := W.wown ho
  obtain ⟨locs, X, N, eh, K0, es, O, hws, hZ, ⟨k0, hS, hk⟩, C'⟩ := W
  obtain ⟨T', h', cA, X', e', E, A, Ov, stp⟩ := RoadKit.newR X hx hZ ho' w1 w2 eh (g := mkF m pc ls (.int n :: st)) rfl hd rfl hn hcap hb hc hl
  exact Goes.go stp (K T' h' _ cA ⟨locs, X', N, e', K0.ext E, es, O, hws, hZ, ⟨k0, hS, Nat.le_trans hk E.1⟩, C'.trans (CHr.ext E C'.1)⟩ E rfl ((Arv.new A hn).pad (pad_rep [] _ cap)) Ov fun B => Safe.new (Nat.le_refl _) ((C'.1.step fun _ _ _ q => E.2 _ _ q).2 _ B))
theorem Wk.aastore (W : Wk p l e R s m args below meth c Z EL h0 ws vm0 T h cells slots) (hx : p.tables.exec = Jvm.exec) {a : Addr} {k : ClassId} {n : Int32} {vs : List Value} {d : Value} {C : String} (V : Arv Z h a k (.object C) n vs d) (ha : a ∈ ws ∨ h0.size ≤ a) {j : Int32} {x : Value} (hxr : x.isRef = true) (hst : ∀ cl : Cell, Arr Z h a cl (.object C) → cl.cls = k → Sto Z h a x) (i : Nat) (hj : j.toNatClampNeg = i) (hin : ¬ j < 0 ∧ j < n) (hi : i < vs.length)
    (pc' : Nat) (hd : decode c.code pc = .ok (.aastore, 1)) (hp : pc + 1 = pc')
    (K : ∀ (T' : State) (h' : Heap), Wk p l e R s m args below meth c Z EL h0 ws vm0 T' h' cells slots → Keep h h' [a] → CHr Z EL vm0 h vm0 h' → Arv Z h' a k (.object C) n (vs.set i x) d → Goes p e below Post (T'.setTop (mkF m pc' ls st))) : Goes p e below Post (T.setTop (mkF m pc ls (x :: .int j :: .ref a :: st))) := by
  subst hp
  have hza := W.may ha
  obtain ⟨locs, X, N, eh, K0, es, O, hws, hZ, ⟨k0, hS, hk⟩, C'⟩ := W
  obtain ⟨cl, A, q1, S, q3, H, G⟩ := V
  obtain ⟨T', h', X', e', Wr', stp⟩ := RoadKit.stR X hx hZ eh A (j := j) (inb_of S hin) rfl (hst cl A q1) (g := mkF m pc ls (x :: .int j :: .ref a :: st)) rfl rfl hd
  have C1 := CHr.wr Wr' (Safe.arr hZ.alike A (by intro q; cases q)) C'.1
  exact Goes.go stp (K T' h' ⟨_, X', Fr.snoc X' N hza, e', K0.wr Wr' ha, es, O, hws, hZ, ⟨k0, hS, Nat.le_trans hk (Keep.of_wr Wr').1⟩, C'.trans C1⟩ (Keep.of_wr Wr') C1 (Arv.set A q1 S q3 H G (by cases x <;> simp [Value.isRef] at hxr <;> rfl) Wr' i hj hi))
theorem Wk.arraycopy (W : Wk p l e R s m args below meth c Z EL h0 ws vm0 T h cells slots) (hx : p.tables.exec = Jvm.exec) (ho : Z.vm.findClass own = some m.cls) {index : Nat} (w1 : (Cond.methodLink own index Jvm.Stand.acN).before a0 Z = true) (w2 : (Cond.native Jvm.Stand.acN).before a0 Z = true) (w3 : (Cond.static Jvm.Stand.acN).before a0 Z = true) (w4 : (Cond.initialized "java/lang/System").before a0 Z = true)
    {a b : Addr} {k k' : ClassId} {ty : FieldType} {z z' sp dp nn : Int32} {vs vd : List Value} {dv dd : Value} (us : List Value) (V : Arv Z h a k ty z vs dv) (B : Arv Z h b k' ty z' vd dd) (hty : refKind ty = false) (h1 : ¬ sp < 0) (h2 : ¬ dp < 0) (h3 : ¬ nn < 0) (h4 : sp.toNatClampNeg + nn.toNatClampNeg ≤ z.toNatClampNeg) (h5 : dp.toNatClampNeg + nn.toNatClampNeg ≤ z'.toNatClampNeg)
    (hus : us = (List.range nn.toNatClampNeg).map fun i => vs.getD (sp.toNatClampNeg + i) dv) (hl : dp.toNatClampNeg + nn.toNatClampNeg ≤ vd.length) (hb : b ∈ ws ∨ h0.size ≤ b) (sf : Safe Z EL vm0 h b) (hsz : ls.size = c.maxLocals) (pc' : Nat) (hd : decode c.code pc = .ok (.invokestatic index, 3)) (hp : pc + 3 = pc') (hf : 1 ≤ R.frames) (Wd : Nat) (hW : (st.map fun v => v.category).sum ≤ Wd) (hlo : Wd + (nativeFrameWords "java/lang/System" "arraycopy" 5 + 11) ≤ R.locals)
    (K : ∀ (T' : State) (h' : Heap), Wk p l e R s m args below meth c Z EL h0 ws vm0 T' h' cells slots → Keep h h' [b] → CHr Z EL vm0 h vm0 h' → Arv Z h' b k' ty z' (vd.take dp.toNatClampNeg ++ us ++ vd.drop (dp.toNatClampNeg + nn.toNatClampNeg)) dd → Goes p e below Post (T'.setTop (mkF m pc' ls st))) : Goes p e below Post (T.setTop (mkF m pc ls (.int nn :: .int dp :: .ref b :: .int sp :: .ref a :: st))) := by
  subst hp
  have hzb := W.may hb
  have ho' := W.wown ho
  obtain ⟨locs, X, N, eh, K0, es, O, hws, hZ, ⟨k0, hS, hk⟩, C⟩ := W
  obtain ⟨T', h', L, X', e', N', K', B', stp⟩ := cpA X hx hZ ho' w1 w2 w3 w4 eh V B (Or.inl ⟨rfl, hty⟩) h1 h2 h3 h4 h5 hus hl N hzb (g := mkF m pc ls (.int nn :: .int dp :: .ref b :: .int sp :: .ref a :: st)) rfl hsz rfl hd hf (W := Wd) (by show 2 * 0 + _ ≤ _; omega) hlo
  have C1 := CHr.keep K' (fun x hx => by cases List.mem_singleton.mp hx; exact sf) C.1
  exact Goes.go stp (K T' h' ⟨L, X', N', e', K0.trans K' (fun x hx => by cases List.mem_singleton.mp hx; exact hb), es, O, hws, hZ, ⟨k0, hS, Nat.le_trans hk K'.1⟩, C.trans C1⟩ K' C1 B')
end Wk
/-- what a callee asks of the point and of its arguments; what it leaves -/
abbrev PreB (R : Room) (as' : Array Value) (h : Heap) (mc ms : Nat) : Pt → Array Value → Prop := fun A a => a = as' ∧ A.U.heap = h ∧ A.cells + mc ≤ R.cells ∧ A.slots + ms ≤ R.slots
abbrev PostB (Z : State) (h : Heap) (ws : List Addr) (Q : Option Value → Heap → Prop) (mc ms : Nat) : Pt → Array Value → Option Value → Pt → Prop := fun A _ v B => ∃ L, (Fr Z.heap.size L ∧ Keep h B.U.heap ws ∧ Q v B.U.heap) ∧ B.locs = A.locs ++ L ∧ B.cells = A.cells + mc ∧ B.slots = A.slots + ms
abbrev PostBW (Z : State) (EL : List (String × Nat)) (vm0 : Vm) (h : Heap) (ws : List Addr) (Q : Option Value → Heap → Prop) (mc ms : Nat) : Pt → Array Value → Option Value → Pt → Prop := fun A _ v B => ∃ L, (Fr Z.heap.size L ∧ Keep h B.U.heap ws ∧ Q v B.U.heap) ∧ B.locs = A.locs ++ L ∧ B.cells = A.cells + mc ∧ B.slots = A.slots + ms ∧ CHr Z EL vm0 h B.U.vm B.U.heap
/-- the end of a body that interns nothing -/
def PostN (s Z : State) (h0 : Heap) (ws : List Addr) (Q : Option Value → Heap → Prop) (mc ms : Nat) (o : Outcome) (U : State) : Prop :=
  ∃ v L, o = .returned v ∧ (Fr Z.heap.size L ∧ Keep h0 U.heap ws ∧ Q v U.heap) ∧ FrameEnd s o U L mc ms
/-- the end of a body that may intern -/
def PostW (s Z : State) (EL : List (String × Nat)) (h0 : Heap) (ws : List Addr) (Q : Option Value → Heap → Prop) (mc ms : Nat) (o : Outcome) (U : State) : Prop :=
  ∃ v L, o = .returned v ∧ (Fr Z.heap.size L ∧ Keep h0 U.heap ws ∧ Q v U.heap) ∧ CHr Z EL s.vm h0 U.vm U.heap ∧ ReturnedEndW s o U L mc ms
/-- the contract of a body that interns nothing -/
def CN (wl : List Cond) (l : Launch) (Z : State) (y : MethodName) (bytes : ByteArray) (ml : Nat) (ret : Option FieldType) (rm : Room) (as' : Array Value) (h0 : Heap) (ws : List Addr) (Q : Option Value → Heap → Prop) : Prop :=
  MetFree l y (head1 (Cond.code y bytes ml ret :: wl) rm) (fun a U => a = as' ∧ Z.Warmed39 U.vm ∧ U.heap = h0) (fun _ _ _ _ _ => True) (fun _ U o U' => PostN U Z h0 ws Q rm.cells rm.slots o U')
/-- the contract of a body that may intern -/
def CW (wl : List Cond) (l : Launch) (Z : State) (EL : List (String × Nat)) (y : MethodName) (bytes : ByteArray) (ml : Nat) (ret : Option FieldType) (rm : Room) (as' : Array Value) (h0 : Heap) (ws : List Addr) (Q : Option Value → Heap → Prop) : Prop :=
  MetFree l y (head1 (Cond.code y bytes ml ret :: wl) rm) (fun a U => a = as' ∧ Z.Warmed39 U.vm ∧ U.heap = h0 ∧ CHv Z EL U.vm h0 ∧ ∀ x ∈ ws, Safe Z EL U.vm h0 x) (fun _ _ _ _ _ => True) (fun _ U o U' => PostW U Z EL h0 ws Q rm.cells rm.slots o U')
section Calls
variable {p : Program} {l : Launch} {e : Env} {R : Room} {s : State} {m : MethodId} {args : Array Value} {below : List Frame} {meth : Method} {c : Code} {Z : State} {EL : List (String × Nat)} {h0 : Heap} {ws : List Addr} {vm0 : Vm} {T : State} {h : Heap} {cells slots : Nat} {a0 : Array Value} {Post : Outcome → State → Prop} {pc : Nat} {ls : Array Slot} {st rest : List Value} {own : String}
theorem CN.back {y : MethodName} {bytes : ByteArray} {ml : Nat} {ret : Option FieldType} {rm : Room} {as' : Array Value} {len Wd : Nat} {Q : Option Value → Heap → Prop} (hM : CN [] l Z y bytes ml ret rm as' h ws Q) (hZ : Z.Warmed39 vm0) (wc : (Cond.code y bytes ml ret).before a0 Z = true) (wz : (Cond.initialized y.cls).before a0 Z = true) (hf : rm.frames + 1 ≤ R.frames) (hl : Wd + (ml + 11) + rm.locals ≤ R.locals) :
    Back l R p e below (s.setVm vm0) args y len Wd (PreB R as' h rm.cells rm.slots) (PostB Z h ws Q rm.cells rm.slots) :=
  backOf (s := s.setVm vm0) (Q := fun v h' L => Fr Z.heap.size L ∧ Keep h h' ws ∧ Q v h') hM hZ wc wz hf hl
theorem CW.back {y : MethodName} {bytes : ByteArray} {ml : Nat} {ret : Option FieldType} {rm : Room} {as' : Array Value} {len Wd : Nat} {Q : Option Value → Heap → Prop} (hM : CW [] l Z EL y bytes ml ret rm as' h ws Q) (hZ : Z.Warmed39 vm0) (wc : (Cond.code y bytes ml ret).before a0 Z = true) (wz : (Cond.initialized y.cls).before a0 Z = true) (hf : rm.frames + 1 ≤ R.frames) (hl : Wd + (ml + 11) + rm.locals ≤ R.locals)
    (hEL : EW Z a0 EL) (H : CHv Z EL vm0 h) (hlt : ∀ x ∈ ws, x < h.size) (hsf : ∀ x ∈ ws, Safe Z EL vm0 h x) :
    BackS l R p e below (s.setVm vm0) args y len Wd (PreB R as' h rm.cells rm.slots) (PostBW Z EL vm0 h ws Q rm.cells rm.slots) :=
  BackS.of_freeW (bytes := bytes) (maxL := ml) (ret := ret) (E := fun _ first o t L k n => k = rm.cells ∧ n = rm.slots ∧ (∃ v, o = .returned v ∧ (Fr Z.heap.size L ∧ Keep h t.heap ws ∧ Q v t.heap)) ∧ CHr Z EL first.vm h t.vm t.heap) hM hf hl
    (fun m meth c A a Y hp => have hU : Z.Warmed39 A.U.vm := wtrans (s := s.setVm vm0) hZ Y.warmed
      ⟨by show (Cond.and _ .tt).before a A.U = true; rw [Cond.before_and, mv hU wc]; rfl, mv hU wc, mv hU wz, hp.2.2.1, hp.2.2.2⟩)
    (fun m meth c A a g mk Y hp => ⟨hp.1, wtrans (s := s.setVm vm0) hZ Y.warmed, hp.2.1, (CHv.at Y hZ hEL H).1, fun x hx => (CHv.at Y hZ hEL H).safe (hlt x hx) (hsf x hx)⟩) (fun _ _ _ _ _ _ _ _ _ => trivial)
    (fun _ _ _ _ ⟨v, L, h1, h2, h3, h4⟩ => ⟨L, _, _, h4, rfl, rfl, ⟨v, h1, h2⟩, h3⟩)
    (fun m meth c A a g mk v t L k n Y hp _ _ ⟨e1, e2, ⟨v', e3, e4⟩, e5⟩ => by
      cases e3; subst e1 e2
      exact ⟨L, e4, rfl, rfl, rfl, (CHv.at Y hZ hEL H).trans e5⟩)
theorem Wk.callS (W : Wk p l e R s m args below meth c Z EL h0 ws vm0 T h cells slots) (hx : p.tables.exec = Jvm.exec) (ho : Z.vm.findClass own = some m.cls) {index : Nat} {y : MethodName} {bytes : ByteArray} {ml : Nat} {ret : Option FieldType} (w1 : (Cond.methodLink own index y).before a0 Z = true) (w2 : (Cond.static y).before a0 Z = true) (w3 : (Cond.initialized y.cls).before a0 Z = true) (w4 : (Cond.code y bytes ml ret).before a0 Z = true) (hy : y.cls ≠ "java/lang/invoke/MethodHandle" ∧ y.cls ≠ "java/lang/invoke/VarHandle")
    {Wd mc ms : Nat} {as' : Array Value} {ws' : List Addr} {Q : Option Value → Heap → Prop} (hK : Back l R p e below (s.setVm vm0) args y 3 Wd (PreB R as' h mc ms) (PostB Z h ws' Q mc ms)) (hsz : ls.size = c.maxLocals) (argsL rest : List Value) (hlen : ∀ sig, parseMethodDescriptor y.desc = some sig → argsL.length = sig.parameters.length) (hst : st = argsL.reverse ++ rest) (has : argsL.toArray = as') (hW : (rest.map fun v => v.category).sum ≤ Wd) (pc' : Nat) (hd : decode c.code pc = .ok (.invokestatic index, 3)) (hp : pc + 3 = pc') (hc : cells + mc ≤ R.cells) (hs : slots + ms ≤ R.slots) (hws' : ∀ x ∈ ws', (x ∈ ws ∨ h0.size ≤ x) ∧ Safe Z EL vm0 h x)
    (K : ∀ (v : Option Value) (T' : State) (h' : Heap), Wk p l e R s m args below meth c Z EL h0 ws vm0 T' h' (cells + mc) (slots + ms) → Keep h h' ws' → CHr Z EL vm0 h vm0 h' → Q v h' → Goes p e below Post (T'.setTop (mkF m pc' ls (v.toList ++ rest)))) : Goes p e below Post (T.setTop (mkF m pc ls st)) := by
  subst hp hst
  have ho' := W.wown ho
  obtain ⟨locs, X, N, eh, K0, es, O, hws, hZ, ⟨k0, hS, hk⟩, C⟩ := W
  obtain ⟨v, _, ⟨T1, L1', k1, n1⟩, -, X1, ⟨L1, ⟨q1, q2, q3⟩, l1, y1, z1⟩, stp⟩ := Jvm.LawKit.callS X hx ho' (mvT (s := s.setVm vm0) hZ w1) (mvT (s := s.setVm vm0) hZ w2) (mvT (s := s.setVm vm0) hZ w3) (mvT (s := s.setVm vm0) hZ w4) hy hK (g := mkF m pc ls (argsL.reverse ++ rest)) rfl hsz hlen rfl (by show 2 * 0 + _ ≤ _; omega) hd (fun _ _ => ⟨has, eh, hc, hs⟩)
  dsimp only [Pt.U, Pt.locs, Pt.cells, Pt.slots] at X1 l1 y1 z1 stp q1 q2 q3
  subst l1 y1 z1
  have C1 := CHr.keep q2 (fun x hx => (hws' x hx).2) C.1
  exact Goes.go stp (K v T1 T1.heap ⟨_, X1, N.app q1, rfl, K0.trans q2 (fun x hx => (hws' x hx).1), es, O, hws, hZ, ⟨k0, hS, Nat.le_trans hk q2.1⟩, C.trans C1⟩ q2 C1 q3)
theorem Wk.special (W : Wk p l e R s m args below meth c Z EL h0 ws vm0 T h cells slots) (hx : p.tables.exec = Jvm.exec) (ho : Z.vm.findClass own = some m.cls) {index : Nat} {y : MethodName} (hy1 : y.name = "<init>") {bytes : ByteArray} {ml : Nat} (w1 : (Cond.methodLink own index y).before a0 Z = true) (w2 : (Cond.instanceMethod y).before a0 Z = true) (w4 : (Cond.code y bytes ml none).before a0 Z = true) (hy : y.cls ≠ "java/lang/invoke/MethodHandle" ∧ y.cls ≠ "java/lang/invoke/VarHandle")
    {Wd mc ms : Nat} {as' : Array Value} {ws' : List Addr} {Q : Option Value → Heap → Prop} (hK : Back l R p e below (s.setVm vm0) args y 3 Wd (PreB R as' h mc ms) (PostB Z h ws' Q mc ms)) (a : Addr) (hsz : ls.size = c.maxLocals) (argsL rest : List Value) (hlen : ∀ sig, parseMethodDescriptor y.desc = some sig → argsL.length = sig.parameters.length) (hst : st = argsL.reverse ++ .ref a :: rest) (has : (Value.ref a :: argsL).toArray = as') (hW : (rest.map fun v => v.category).sum ≤ Wd) (pc' : Nat) (hd : decode c.code pc = .ok (.invokespecial index, 3)) (hp : pc + 3 = pc') (hc : cells + mc ≤ R.cells) (hs : slots + ms ≤ R.slots) (hws' : ∀ x ∈ ws', (x ∈ ws ∨ h0.size ≤ x) ∧ Safe Z EL vm0 h x)
    (K : ∀ (v : Option Value) (T' : State) (h' : Heap), Wk p l e R s m args below meth c Z EL h0 ws vm0 T' h' (cells + mc) (slots + ms) → Keep h h' ws' → CHr Z EL vm0 h vm0 h' → Q v h' → Goes p e below Post (T'.setTop (mkF m pc' ls (v.toList ++ rest)))) : Goes p e below Post (T.setTop (mkF m pc ls st)) := by
  subst hp hst
  have ho' := W.wown ho
  obtain ⟨locs, X, N, eh, K0, es, O, hws, hZ, ⟨k0, hS, hk⟩, C⟩ := W
  obtain ⟨v, _, ⟨T1, L1', k1, n1⟩, -, X1, ⟨L1, ⟨q1, q2, q3⟩, l1, y1, z1⟩, stp⟩ := X.specialBack hx hy1 ho' (mvT (s := s.setVm vm0) hZ w1) (mvT (s := s.setVm vm0) hZ w2) (mvT (s := s.setVm vm0) hZ w4) hy hK (g := mkF m pc ls (argsL.reverse ++ .ref a :: rest)) rfl hsz (Steps.refl _) hlen rfl (by show 2 * 0 + _ ≤ _; omega) hd (fun _ _ => ⟨has, eh, hc, hs⟩)
  dsimp only [Pt.U, Pt.locs, Pt.cells, Pt.slots] at X1 l1 y1 z1 stp q1 q2 q3
  subst l1 y1 z1
  have C1 := CHr.keep q2 (fun x hx => (hws' x hx).2) C.1
  exact Goes.run stp (K v T1 T1.heap ⟨_, X1, N.app q1, rfl, K0.trans q2 (fun x hx => (hws' x hx).1), es, O, hws, hZ, ⟨k0, hS, Nat.le_trans hk q2.1⟩, C.trans C1⟩ q2 C1 q3)
theorem Wk.virtual (W : Wk p l e R s m args below meth c Z EL h0 ws vm0 T h cells slots) (hx : p.tables.exec = Jvm.exec) (ho : Z.vm.findClass own = some m.cls) {index : Nat} {C' : String} {y z : MethodName} (w1 : (Cond.methodLink own index y).before a0 Z = true) (w2 : (Cond.declares y).before a0 Z = true) (w3 : (Cond.selects C' y z).before a0 Z = true) (w4 : (Cond.instanceMethod z).before a0 Z = true) (nf : NotFace (s.setVm vm0) y) (hy : y.cls ≠ "java/lang/invoke/MethodHandle" ∧ y.cls ≠ "java/lang/invoke/VarHandle")
    {Wd mc ms : Nat} {as' : Array Value} {ws' : List Addr} {Q : Option Value → Heap → Prop} (hK : Back l R p e below (s.setVm vm0) args z 3 Wd (PreB R as' h mc ms) (PostB Z h ws' Q mc ms)) {a : Addr} (E : Exa Z h a C') (hsz : ls.size = c.maxLocals) (argsL rest : List Value) (hlen : ∀ sig, parseMethodDescriptor y.desc = some sig → argsL.length = sig.parameters.length) (hst : st = argsL.reverse ++ .ref a :: rest) (has : (Value.ref a :: argsL).toArray = as') (hW : (rest.map fun v => v.category).sum ≤ Wd) (pc' : Nat) (hd : decode c.code pc = .ok (.invokevirtual index, 3)) (hp : pc + 3 = pc') (hc : cells + mc ≤ R.cells) (hs : slots + ms ≤ R.slots) (hws' : ∀ x ∈ ws', (x ∈ ws ∨ h0.size ≤ x) ∧ Safe Z EL vm0 h x)
    (K : ∀ (v : Option Value) (T' : State) (h' : Heap), Wk p l e R s m args below meth c Z EL h0 ws vm0 T' h' (cells + mc) (slots + ms) → Keep h h' ws' → CHr Z EL vm0 h vm0 h' → Q v h' → Goes p e below Post (T'.setTop (mkF m pc' ls (v.toList ++ rest)))) : Goes p e below Post (T.setTop (mkF m pc ls st)) := by
  subst hp hst
  have ho' := W.wown ho
  obtain ⟨locs, X, N, eh, K0, es, O, hws, hZ, ⟨k0, hS, hk⟩, C⟩ := W
  obtain ⟨cq, kq, qa, qb, qc⟩ := isOf (s := s.setVm vm0) hZ eh E
  obtain ⟨v, _, ⟨T1, L1', k1, n1⟩, -, X1, ⟨L1, ⟨q1, q2, q3⟩, l1, y1, z1⟩, stp⟩ := X.virtualBack hx ho' (mvT (s := s.setVm vm0) hZ w1) (mvT (s := s.setVm vm0) hZ w2) nf (mvT (s := s.setVm vm0) hZ w3) (mvT (s := s.setVm vm0) hZ w4) hy hK qa qc (g := mkF m pc ls (argsL.reverse ++ .ref a :: rest)) rfl hsz (Steps.refl _) hlen rfl (by show 2 * 0 + _ ≤ _; omega) hd (fun _ _ => ⟨has, eh, hc, hs⟩)
  dsimp only [Pt.U, Pt.locs, Pt.cells, Pt.slots] at X1 l1 y1 z1 stp q1 q2 q3
  subst l1 y1 z1
  have C1 := CHr.keep q2 (fun x hx => (hws' x hx).2) C.1
  exact Goes.run stp (K v T1 T1.heap ⟨_, X1, N.app q1, rfl, K0.trans q2 (fun x hx => (hws' x hx).1), es, O, hws, hZ, ⟨k0, hS, Nat.le_trans hk q2.1⟩, C.trans C1⟩ q2 C1 q3)
theorem Wk.priv (W : Wk p l e R s m args below meth c Z EL h0 ws vm0 T h cells slots) (hx : p.tables.exec = Jvm.exec) (ho : Z.vm.findClass own = some m.cls) {index : Nat} {y : MethodName} {bytes : ByteArray} {ml : Nat} {ret : Option FieldType} (w1 : (Cond.methodLink own index y).before a0 Z = true) (w2 : (Cond.instanceMethod y).before a0 Z = true) (w3 : (Cond.selects y.cls y y).before a0 Z = true) (w5 : (Cond.privateMethod y).before a0 Z = true) (w4 : (Cond.code y bytes ml ret).before a0 Z = true) (hy : y.cls ≠ "java/lang/invoke/MethodHandle" ∧ y.cls ≠ "java/lang/invoke/VarHandle")
    {Wd mc ms : Nat} {as' : Array Value} {ws' : List Addr} {Q : Option Value → Heap → Prop} (hK : Back l R p e below (s.setVm vm0) args y 3 Wd (PreB R as' h mc ms) (PostB Z h ws' Q mc ms)) {a : Addr} {C' : String} (E : Exa Z h a C') (hsz : ls.size = c.maxLocals) (argsL rest : List Value) (hlen : ∀ sig, parseMethodDescriptor y.desc = some sig → argsL.length = sig.parameters.length) (hst : st = argsL.reverse ++ .ref a :: rest) (has : (Value.ref a :: argsL).toArray = as') (hW : (rest.map fun v => v.category).sum ≤ Wd) (pc' : Nat) (hd : decode c.code pc = .ok (.invokevirtual index, 3)) (hp : pc + 3 = pc') (hc : cells + mc ≤ R.cells) (hs : slots + ms ≤ R.slots) (hws' : ∀ x ∈ ws', (x ∈ ws ∨ h0.size ≤ x) ∧ Safe Z EL vm0 h x)
    (K : ∀ (v : Option Value) (T' : State) (h' : Heap), Wk p l e R s m args below meth c Z EL h0 ws vm0 T' h' (cells + mc) (slots + ms) → Keep h h' ws' → CHr Z EL vm0 h vm0 h' → Q v h' → Goes p e below Post (T'.setTop (mkF m pc' ls (v.toList ++ rest)))) : Goes p e below Post (T.setTop (mkF m pc ls st)) := by
  subst hp hst
  have ho' := W.wown ho
  obtain ⟨locs, X, N, eh, K0, es, O, hws, hZ, ⟨k0, hS, hk⟩, C⟩ := W
  obtain ⟨cq, hcq, hcv⟩ := E.cell
  obtain ⟨v, _, ⟨T1, L1', k1, n1⟩, -, X1, ⟨L1, ⟨q1, q2, q3⟩, l1, y1, z1⟩, stp⟩ := X.privateBack hx ho' (mvT (s := s.setVm vm0) hZ w1) (mvT (s := s.setVm vm0) hZ w2) (mvT (s := s.setVm vm0) hZ w3) (Cond.privateMethod_at (mvP (s := s.setVm vm0) hZ w5 (args := #[]))) (mvT (s := s.setVm vm0) hZ w4) hy hK (g := mkF m pc ls (argsL.reverse ++ .ref a :: rest)) rfl hsz (Steps.refl _) (by rw [eh]; exact hcq) hcv hlen rfl (by show 2 * 0 + _ ≤ _; omega) hd (fun _ _ => ⟨has, eh, hc, hs⟩)
  dsimp only [Pt.U, Pt.locs, Pt.cells, Pt.slots] at X1 l1 y1 z1 stp q1 q2 q3
  subst l1 y1 z1
  have C1 := CHr.keep q2 (fun x hx => (hws' x hx).2) C.1
  exact Goes.run stp (K v T1 T1.heap ⟨_, X1, N.app q1, rfl, K0.trans q2 (fun x hx => (hws' x hx).1), es, O, hws, hZ, ⟨k0, hS, Nat.le_trans hk q2.1⟩, C.trans C1⟩ q2 C1 q3)
theorem Wk.iface (W : Wk p l e R s m args below meth c Z EL h0 ws vm0 T h cells slots) (hx : p.tables.exec = Jvm.exec) (ho : Z.vm.findClass own = some m.cls) {index count : Nat} {C' : String} {y z : MethodName} (w1 : (Cond.methodLink own index y).before a0 Z = true) (w2 : (Cond.declares y).before a0 Z = true) (w3 : (Cond.interfaceMethod y.cls y.cls y.name y.desc).before a0 Z = true) (w4 : (Cond.selects C' y z).before a0 Z = true) (w5 : (Cond.instanceMethod z).before a0 Z = true) (w6 : (Cond.publicMethod z).before a0 Z = true) (w7 : (Cond.unhidden C' y.name y.desc).before a0 Z = true) (w8 : (Cond.castable C' y.cls).before a0 Z = true) (hI : ((Cond.interfaceMethod y.cls y.cls y.name y.desc).onTables && (Cond.interfaceMethod y.cls y.cls y.name y.desc).keepsFace) = true) (hy : y.cls ≠ "java/lang/invoke/MethodHandle" ∧ y.cls ≠ "java/lang/invoke/VarHandle")
    {Wd mc ms : Nat} {as' : Array Value} {ws' : List Addr} {Q : Option Value → Heap → Prop} (hK : Back l R p e below (s.setVm vm0) args z 5 Wd (PreB R as' h mc ms) (PostB Z h ws' Q mc ms)) {a : Addr} (E : Exa Z h a C') (hsz : ls.size = c.maxLocals) (argsL rest : List Value) (hlen : ∀ sig, parseMethodDescriptor y.desc = some sig → argsL.length = sig.parameters.length) (hst : st = argsL.reverse ++ .ref a :: rest) (has : (Value.ref a :: argsL).toArray = as') (hW : (rest.map fun v => v.category).sum ≤ Wd) (pc' : Nat) (hd : decode c.code pc = .ok (.invokeinterface index count, 5)) (hp : pc + 5 = pc') (hc : cells + mc ≤ R.cells) (hs : slots + ms ≤ R.slots) (hws' : ∀ x ∈ ws', (x ∈ ws ∨ h0.size ≤ x) ∧ Safe Z EL vm0 h x)
    (K : ∀ (v : Option Value) (T' : State) (h' : Heap), Wk p l e R s m args below meth c Z EL h0 ws vm0 T' h' (cells + mc) (slots + ms) → Keep h h' ws' → CHr Z EL vm0 h vm0 h' → Q v h' → Goes p e below Post (T'.setTop (mkF m pc' ls (v.toList ++ rest)))) : Goes p e below Post (T.setTop (mkF m pc ls st)) := by
  subst hp hst
  have ho' := W.wown ho
  obtain ⟨locs, X, N, eh, K0, es, O, hws, hZ, ⟨k0, hS, hk⟩, C⟩ := W
  obtain ⟨cq, kq, qa, qb, qc⟩ := isOf (s := s.setVm vm0) hZ eh E
  obtain ⟨v, _, ⟨T1, L1', k1, n1⟩, -, X1, ⟨L1, ⟨q1, q2, q3⟩, l1, y1, z1⟩, stp⟩ := X.interfaceBack hx ho' (mvT (s := s.setVm vm0) hZ w1) (mvT (s := s.setVm vm0) hZ w2) (mvT (s := s.setVm vm0) hZ w3 hI) (mvT (s := s.setVm vm0) hZ w4) (mvT (s := s.setVm vm0) hZ w5) (mvT (s := s.setVm vm0) hZ w6) (mvT (s := s.setVm vm0) hZ w7) (mvT (s := s.setVm vm0) hZ w8) hy hK qa qb qc (g := mkF m pc ls (argsL.reverse ++ .ref a :: rest)) rfl hsz (Steps.refl _) hlen rfl (by show 2 * 0 + _ ≤ _; omega) hd (fun _ _ => ⟨has, eh, hc, hs⟩)
  dsimp only [Pt.U, Pt.locs, Pt.cells, Pt.slots] at X1 l1 y1 z1 stp q1 q2 q3
  subst l1 y1 z1
  have C1 := CHr.keep q2 (fun x hx => (hws' x hx).2) C.1
  exact Goes.run stp (K v T1 T1.heap ⟨_, X1, N.app q1, rfl, K0.trans q2 (fun x hx => (hws' x hx).1), es, O, hws, hZ, ⟨k0, hS, Nat.le_trans hk q2.1⟩, C.trans C1⟩ q2 C1 q3)
theorem Wk.callSW (W : Wk p l e R s m args below meth c Z EL h0 ws vm0 T h cells slots) (hx : p.tables.exec = Jvm.exec) (ho : Z.vm.findClass own = some m.cls) {index : Nat} {y : MethodName} {bytes : ByteArray} {ml : Nat} {ret : Option FieldType} (w1 : (Cond.methodLink own index y).before a0 Z = true) (w2 : (Cond.static y).before a0 Z = true) (w3 : (Cond.initialized y.cls).before a0 Z = true) (w4 : (Cond.code y bytes ml ret).before a0 Z = true) (hy : y.cls ≠ "java/lang/invoke/MethodHandle" ∧ y.cls ≠ "java/lang/invoke/VarHandle")
    {Wd mc ms : Nat} {as' : Array Value} {ws' : List Addr} {Q : Option Value → Heap → Prop} (hK : BackS l R p e below (s.setVm vm0) args y 3 Wd (PreB R as' h mc ms) (PostBW Z EL vm0 h ws' Q mc ms)) (hsz : ls.size = c.maxLocals) (argsL rest : List Value) (hlen : ∀ sig, parseMethodDescriptor y.desc = some sig → argsL.length = sig.parameters.length) (hst : st = argsL.reverse ++ rest) (has : argsL.toArray = as') (hW : (rest.map fun v => v.category).sum ≤ Wd) (pc' : Nat) (hd : decode c.code pc = .ok (.invokestatic index, 3)) (hp : pc + 3 = pc') (hc : cells + mc ≤ R.cells) (hs : slots + ms ≤ R.slots) (hws' : ∀ x ∈ ws', (x ∈ ws ∨ h0.size ≤ x) ∧ Safe Z EL vm0 h x)
    (K : ∀ (v : Option Value) (vm1 : Vm) (T' : State) (h' : Heap), Wk p l e R s m args below meth c Z EL h0 ws vm1 T' h' (cells + mc) (slots + ms) → Keep h h' ws' → CHr Z EL vm0 h vm1 h' → Q v h' → Goes p e below Post (T'.setTop (mkF m pc' ls (v.toList ++ rest)))) : Goes p e below Post (T.setTop (mkF m pc ls st)) := by
  subst hp hst
  have ho' := W.wown ho
  obtain ⟨locs, X, N, eh, K0, es, O, hws, hZ, ⟨k0, hS, hk⟩, C⟩ := W
  obtain ⟨v, _, ⟨T1, L1', k1, n1⟩, -, X1, hS1, hg1, ⟨L1, ⟨q1, q2, q3⟩, l1, y1, z1, C1⟩, stp⟩ := callSS X hx ho' (mvT (s := s.setVm vm0) hZ w1) (mvT (s := s.setVm vm0) hZ w2) (mvT (s := s.setVm vm0) hZ w3) (mvT (s := s.setVm vm0) hZ w4) hy hK (g := mkF m pc ls (argsL.reverse ++ rest)) rfl hsz hlen rfl (by show 2 * 0 + _ ≤ _; omega) hd (fun _ _ => ⟨has, eh, hc, hs⟩)
  dsimp only [Pt.U, Pt.locs, Pt.cells, Pt.slots] at X1 l1 y1 z1 stp q1 q2 q3 hS1 hg1 C1
  subst l1 y1 z1
  exact Goes.run stp (K v T1.vm T1 T1.heap ⟨_, X1, N.app q1, rfl, K0.trans q2 (fun x hx => (hws' x hx).1), es, O, hws, State.Warmed39.trans (t := s.setVm vm0) hZ hS1.1, ⟨_, hS.trans hS1 (Nat.le_trans hk (by rw [← eh]; exact hg1)), Nat.le_refl _⟩, C.trans C1⟩ q2 C1 q3)
theorem Wk.specialW (W : Wk p l e R s m args below meth c Z EL h0 ws vm0 T h cells slots) (hx : p.tables.exec = Jvm.exec) (ho : Z.vm.findClass own = some m.cls) {index : Nat} {y : MethodName} (hy1 : y.name = "<init>") {bytes : ByteArray} {ml : Nat} (w1 : (Cond.methodLink own index y).before a0 Z = true) (w2 : (Cond.instanceMethod y).before a0 Z = true) (w4 : (Cond.code y bytes ml none).before a0 Z = true) (hy : y.cls ≠ "java/lang/invoke/MethodHandle" ∧ y.cls ≠ "java/lang/invoke/VarHandle")
    {Wd mc ms : Nat} {as' : Array Value} {ws' : List Addr} {Q : Option Value → Heap → Prop} (hK : BackS l R p e below (s.setVm vm0) args y 3 Wd (PreB R as' h mc ms) (PostBW Z EL vm0 h ws' Q mc ms)) (a : Addr) (hsz : ls.size = c.maxLocals) (argsL rest : List Value) (hlen : ∀ sig, parseMethodDescriptor y.desc = some sig → argsL.length = sig.parameters.length) (hst : st = argsL.reverse ++ .ref a :: rest) (has : (Value.ref a :: argsL).toArray = as') (hW : (rest.map fun v => v.category).sum ≤ Wd) (pc' : Nat) (hd : decode c.code pc = .ok (.invokespecial index, 3)) (hp : pc + 3 = pc') (hc : cells + mc ≤ R.cells) (hs : slots + ms ≤ R.slots) (hws' : ∀ x ∈ ws', (x ∈ ws ∨ h0.size ≤ x) ∧ Safe Z EL vm0 h x)
    (K : ∀ (v : Option Value) (vm1 : Vm) (T' : State) (h' : Heap), Wk p l e R s m args below meth c Z EL h0 ws vm1 T' h' (cells + mc) (slots + ms) → Keep h h' ws' → CHr Z EL vm0 h vm1 h' → Q v h' → Goes p e below Post (T'.setTop (mkF m pc' ls (v.toList ++ rest)))) : Goes p e below Post (T.setTop (mkF m pc ls st)) := by
  subst hp hst
  have ho' := W.wown ho
  obtain ⟨locs, X, N, eh, K0, es, O, hws, hZ, ⟨k0, hS, hk⟩, C⟩ := W
  obtain ⟨v, _, ⟨T1, L1', k1, n1⟩, -, X1, hS1, hg1, ⟨L1, ⟨q1, q2, q3⟩, l1, y1, z1, C1⟩, stp⟩ := X.specialBackS hx hy1 ho' (mvT (s := s.setVm vm0) hZ w1) (mvT (s := s.setVm vm0) hZ w2) (mvT (s := s.setVm vm0) hZ w4) hy hK (g := mkF m pc ls (argsL.reverse ++ .ref a :: rest)) rfl hsz (Steps.refl _) hlen rfl (by show 2 * 0 + _ ≤ _; omega) hd (fun _ _ => ⟨has, eh, hc, hs⟩)
  dsimp only [Pt.U, Pt.locs, Pt.cells, Pt.slots] at X1 l1 y1 z1 stp q1 q2 q3 hS1 hg1 C1
  subst l1 y1 z1
  exact Goes.run stp (K v T1.vm T1 T1.heap ⟨_, X1, N.app q1, rfl, K0.trans q2 (fun x hx => (hws' x hx).1), es, O, hws, State.Warmed39.trans (t := s.setVm vm0) hZ hS1.1, ⟨_, hS.trans hS1 (Nat.le_trans hk (by rw [← eh]; exact hg1)), Nat.le_refl _⟩, C.trans C1⟩ q2 C1 q3)
theorem Wk.virtualW (W : Wk p l e R s m args below meth c Z EL h0 ws vm0 T h cells slots) (hx : p.tables.exec = Jvm.exec) (ho : Z.vm.findClass own = some m.cls) {index : Nat} {C' : String} {y z : MethodName} (w1 : (Cond.methodLink own index y).before a0 Z = true) (w2 : (Cond.declares y).before a0 Z = true) (w3 : (Cond.selects C' y z).before a0 Z = true) (w4 : (Cond.instanceMethod z).before a0 Z = true) (nf : NotFace (s.setVm vm0) y) (hy : y.cls ≠ "java/lang/invoke/MethodHandle" ∧ y.cls ≠ "java/lang/invoke/VarHandle")
    {Wd mc ms : Nat} {as' : Array Value} {ws' : List Addr} {Q : Option Value → Heap → Prop} (hK : BackS l R p e below (s.setVm vm0) args z 3 Wd (PreB R as' h mc ms) (PostBW Z EL vm0 h ws' Q mc ms)) {a : Addr} (E : Exa Z h a C') (hsz : ls.size = c.maxLocals) (argsL rest : List Value) (hlen : ∀ sig, parseMethodDescriptor y.desc = some sig → argsL.length = sig.parameters.length) (hst : st = argsL.reverse ++ .ref a :: rest) (has : (Value.ref a :: argsL).toArray = as') (hW : (rest.map fun v => v.category).sum ≤ Wd) (pc' : Nat) (hd : decode c.code pc = .ok (.invokevirtual index, 3)) (hp : pc + 3 = pc') (hc : cells + mc ≤ R.cells) (hs : slots + ms ≤ R.slots) (hws' : ∀ x ∈ ws', (x ∈ ws ∨ h0.size ≤ x) ∧ Safe Z EL vm0 h x)
    (K : ∀ (v : Option Value) (vm1 : Vm) (T' : State) (h' : Heap), Wk p l e R s m args below meth c Z EL h0 ws vm1 T' h' (cells + mc) (slots + ms) → Keep h h' ws' → CHr Z EL vm0 h vm1 h' → Q v h' → Goes p e below Post (T'.setTop (mkF m pc' ls (v.toList ++ rest)))) : Goes p e below Post (T.setTop (mkF m pc ls st)) := by
  subst hp hst
  have ho' := W.wown ho
  obtain ⟨locs, X, N, eh, K0, es, O, hws, hZ, ⟨k0, hS, hk⟩, C⟩ := W
  obtain ⟨cq, kq, qa, qb, qc⟩ := isOf (s := s.setVm vm0) hZ eh E
  obtain ⟨v, _, ⟨T1, L1', k1, n1⟩, -, X1, hS1, hg1, ⟨L1, ⟨q1, q2, q3⟩, l1, y1, z1, C1⟩, stp⟩ := X.virtualBackS hx ho' (mvT (s := s.setVm vm0) hZ w1) (mvT (s := s.setVm vm0) hZ w2) nf (mvT (s := s.setVm vm0) hZ w3) (mvT (s := s.setVm vm0) hZ w4) hy hK qa qc (g := mkF m pc ls (argsL.reverse ++ .ref a :: rest)) rfl hsz (Steps.refl _) hlen rfl (by show 2 * 0 + _ ≤ _; omega) hd (fun _ _ => ⟨has, eh, hc, hs⟩)
  dsimp only [Pt.U, Pt.locs, Pt.cells, Pt.slots] at X1 l1 y1 z1 stp q1 q2 q3 hS1 hg1 C1
  subst l1 y1 z1
  exact Goes.run stp (K v T1.vm T1 T1.heap ⟨_, X1, N.app q1, rfl, K0.trans q2 (fun x hx => (hws' x hx).1), es, O, hws, State.Warmed39.trans (t := s.setVm vm0) hZ hS1.1, ⟨_, hS.trans hS1 (Nat.le_trans hk (by rw [← eh]; exact hg1)), Nat.le_refl _⟩, C.trans C1⟩ q2 C1 q3)
theorem Wk.privW (W : Wk p l e R s m args below meth c Z EL h0 ws vm0 T h cells slots) (hx : p.tables.exec = Jvm.exec) (ho : Z.vm.findClass own = some m.cls) {index : Nat} {y : MethodName} {bytes : ByteArray} {ml : Nat} {ret : Option FieldType} (w1 : (Cond.methodLink own index y).before a0 Z = true) (w2 : (Cond.instanceMethod y).before a0 Z = true) (w3 : (Cond.selects y.cls y y).before a0 Z = true) (w5 : (Cond.privateMethod y).before a0 Z = true) (w4 : (Cond.code y bytes ml ret).before a0 Z = true) (hy : y.cls ≠ "java/lang/invoke/MethodHandle" ∧ y.cls ≠ "java/lang/invoke/VarHandle")
    {Wd mc ms : Nat} {as' : Array Value} {ws' : List Addr} {Q : Option Value → Heap → Prop} (hK : BackS l R p e below (s.setVm vm0) args y 3 Wd (PreB R as' h mc ms) (PostBW Z EL vm0 h ws' Q mc ms)) {a : Addr} {C' : String} (E : Exa Z h a C') (hsz : ls.size = c.maxLocals) (argsL rest : List Value) (hlen : ∀ sig, parseMethodDescriptor y.desc = some sig → argsL.length = sig.parameters.length) (hst : st = argsL.reverse ++ .ref a :: rest) (has : (Value.ref a :: argsL).toArray = as') (hW : (rest.map fun v => v.category).sum ≤ Wd) (pc' : Nat) (hd : decode c.code pc = .ok (.invokevirtual index, 3)) (hp : pc + 3 = pc') (hc : cells + mc ≤ R.cells) (hs : slots + ms ≤ R.slots) (hws' : ∀ x ∈ ws', (x ∈ ws ∨ h0.size ≤ x) ∧ Safe Z EL vm0 h x)
    (K : ∀ (v : Option Value) (vm1 : Vm) (T' : State) (h' : Heap), Wk p l e R s m args below meth c Z EL h0 ws vm1 T' h' (cells + mc) (slots + ms) → Keep h h' ws' → CHr Z EL vm0 h vm1 h' → Q v h' → Goes p e below Post (T'.setTop (mkF m pc' ls (v.toList ++ rest)))) : Goes p e below Post (T.setTop (mkF m pc ls st)) := by
  subst hp hst
  have ho' := W.wown ho
  obtain ⟨locs, X, N, eh, K0, es, O, hws, hZ, ⟨k0, hS, hk⟩, C⟩ := W
  obtain ⟨cq, hcq, hcv⟩ := E.cell
  obtain ⟨v, _, ⟨T1, L1', k1, n1⟩, -, X1, hS1, hg1, ⟨L1, ⟨q1, q2, q3⟩, l1, y1, z1, C1⟩, stp⟩ := X.privateBackS hx ho' (mvT (s := s.setVm vm0) hZ w1) (mvT (s := s.setVm vm0) hZ w2) (mvT (s := s.setVm vm0) hZ w3) (Cond.privateMethod_at (mvP (s := s.setVm vm0) hZ w5 (args := #[]))) (mvT (s := s.setVm vm0) hZ w4) hy hK (g := mkF m pc ls (argsL.reverse ++ .ref a :: rest)) rfl hsz (Steps.refl _) (by rw [eh]; exact hcq) hcv hlen rfl (by show 2 * 0 + _ ≤ _; omega) hd (fun _ _ => ⟨has, eh, hc, hs⟩)
  dsimp only [Pt.U, Pt.locs, Pt.cells, Pt.slots] at X1 l1 y1 z1 stp q1 q2 q3 hS1 hg1 C1
  subst l1 y1 z1
  exact Goes.run stp (K v T1.vm T1 T1.heap ⟨_, X1, N.app q1, rfl, K0.trans q2 (fun x hx => (hws' x hx).1), es, O, hws, State.Warmed39.trans (t := s.setVm vm0) hZ hS1.1, ⟨_, hS.trans hS1 (Nat.le_trans hk (by rw [← eh]; exact hg1)), Nat.le_refl _⟩, C.trans C1⟩ q2 C1 q3)
theorem Wk.ifaceW (W : Wk p l e R s m args below meth c Z EL h0 ws vm0 T h cells slots) (hx : p.tables.exec = Jvm.exec) (ho : Z.vm.findClass own = some m.cls) {index count : Nat} {C' : String} {y z : MethodName} (w1 : (Cond.methodLink own index y).before a0 Z = true) (w2 : (Cond.declares y).before a0 Z = true) (w3 : (Cond.interfaceMethod y.cls y.cls y.name y.desc).before a0 Z = true) (w4 : (Cond.selects C' y z).before a0 Z = true) (w5 : (Cond.instanceMethod z).before a0 Z = true) (w6 : (Cond.publicMethod z).before a0 Z = true) (w7 : (Cond.unhidden C' y.name y.desc).before a0 Z = true) (w8 : (Cond.castable C' y.cls).before a0 Z = true) (hI : ((Cond.interfaceMethod y.cls y.cls y.name y.desc).onTables && (Cond.interfaceMethod y.cls y.cls y.name y.desc).keepsFace) = true) (hy : y.cls ≠ "java/lang/invoke/MethodHandle" ∧ y.cls ≠ "java/lang/invoke/VarHandle")
    {Wd mc ms : Nat} {as' : Array Value} {ws' : List Addr} {Q : Option Value → Heap → Prop} (hK : BackS l R p e below (s.setVm vm0) args z 5 Wd (PreB R as' h mc ms) (PostBW Z EL vm0 h ws' Q mc ms)) {a : Addr} (E : Exa Z h a C') (hsz : ls.size = c.maxLocals) (argsL rest : List Value) (hlen : ∀ sig, parseMethodDescriptor y.desc = some sig → argsL.length = sig.parameters.length) (hst : st = argsL.reverse ++ .ref a :: rest) (has : (Value.ref a :: argsL).toArray = as') (hW : (rest.map fun v => v.category).sum ≤ Wd) (pc' : Nat) (hd : decode c.code pc = .ok (.invokeinterface index count, 5)) (hp : pc + 5 = pc') (hc : cells + mc ≤ R.cells) (hs : slots + ms ≤ R.slots) (hws' : ∀ x ∈ ws', (x ∈ ws ∨ h0.size ≤ x) ∧ Safe Z EL vm0 h x)
    (K : ∀ (v : Option Value) (vm1 : Vm) (T' : State) (h' : Heap), Wk p l e R s m args below meth c Z EL h0 ws vm1 T' h' (cells + mc) (slots + ms) → Keep h h' ws' → CHr Z EL vm0 h vm1 h' → Q v h' → Goes p e below Post (T'.setTop (mkF m pc' ls (v.toList ++ rest)))) : Goes p e below Post (T.setTop (mkF m pc ls st)) := by
  subst hp hst
  have ho' := W.wown ho
  obtain ⟨locs, X, N, eh, K0, es, O, hws, hZ, ⟨k0, hS, hk⟩, C⟩ := W
  obtain ⟨cq, kq, qa, qb, qc⟩ := isOf (s := s.setVm vm0) hZ eh E
  obtain ⟨v, _, ⟨T1, L1', k1, n1⟩, -, X1, hS1, hg1, ⟨L1, ⟨q1, q2, q3⟩, l1, y1, z1, C1⟩, stp⟩ := X.interfaceBackS hx ho' (mvT (s := s.setVm vm0) hZ w1) (mvT (s := s.setVm vm0) hZ w2) (mvT (s := s.setVm vm0) hZ w3 hI) (mvT (s := s.setVm vm0) hZ w4) (mvT (s := s.setVm vm0) hZ w5) (mvT (s := s.setVm vm0) hZ w6) (mvT (s := s.setVm vm0) hZ w7) (mvT (s := s.setVm vm0) hZ w8) hy hK qa qb qc (g := mkF m pc ls (argsL.reverse ++ .ref a :: rest)) rfl hsz (Steps.refl _) hlen rfl (by show 2 * 0 + _ ≤ _; omega) hd (fun _ _ => ⟨has, eh, hc, hs⟩)
  dsimp only [Pt.U, Pt.locs, Pt.cells, Pt.slots] at X1 l1 y1 z1 stp q1 q2 q3 hS1 hg1 C1
  subst l1 y1 z1
  exact Goes.run stp (K v T1.vm T1 T1.heap ⟨_, X1, N.app q1, rfl, K0.trans q2 (fun x hx => (hws' x hx).1), es, O, hws, State.Warmed39.trans (t := s.setVm vm0) hZ hS1.1, ⟨_, hS.trans hS1 (Nat.le_trans hk (by rw [← eh]; exact hg1)), Nat.le_refl _⟩, C.trans C1⟩ q2 C1 q3)
theorem Wk.nf (W : Wk p l e R s m args below meth c Z EL h0 ws vm0 T h cells slots) {C' : String} {y : MethodName} (w3 : (Cond.selects C' y y).before a0 Z = true) : NotFace (s.setVm vm0) y := notFace_of_selects (args := #[]) (mvT (s := s.setVm vm0) W.warm w3)
end Calls
section Ends
variable {p : Program} {l : Launch} {e : Env} {R : Room} {s : State} {m : MethodId} {args : Array Value} {below : List Frame} {meth : Method} {c : Code} {Z : State} {EL : List (String × Nat)} {h0 : Heap} {ws : List Addr} {vm0 : Vm} {T : State} {h : Heap} {cells slots : Nat} {a0 : Array Value} {pc : Nat} {ls : Array Slot} {rest : List Value} {own : String} {mc ms : Nat} {Q : Option Value → Heap → Prop}
theorem CN.of_walk {wl : List Cond} {y : MethodName} {bytes : ByteArray} {ml : Nat} {ret : Option FieldType} {rm : Room} {as' : Array Value} (hpl : plainFor y = true) (O : Ext Z.heap h0) (hws : ∀ x ∈ ws, Z.heap.size ≤ x)
    (body : ∀ (p : Program) (e : Env) (s : State) (m : MethodId) (below : List Frame) (meth : Method) (c : Code) (T : State), Wk p l e rm s m as' below meth c Z [] h0 ws s.vm T h0 0 0 → p.tables.exec = Jvm.exec → c.code = bytes → c.maxLocals = ml → Z.vm.findClass y.cls = some m.cls → meth.name = y.name → meth.sig.returnType = ret → meth.locks = false →
      Goes p e below (PostN s Z h0 ws Q rm.cells rm.slots) (T.setTop (entryFrame m as' ml))) : CN wl l Z y bytes ml ret rm as' h0 ws Q := by
  refine MetFree.of_bodySF hpl hisR ?_
  intro p e s m args below meth c s₁ Bd hml hP hK
  obtain ⟨rfl, hZ, hh⟩ := hP
  have X0 : Stand p l e rm s m args below meth c s₁ [] 0 0 := Stand.of_body Bd
  have e0 : s₁.heap = h0 := by rw [← hh, Bd.state]; rfl
  have hfc := findClass_of_methodNamed Bd.named
  obtain ⟨s₂, o, h1, h2, h3, h4⟩ := body p e s m below meth c s₁ ⟨[], X0, Fr.nil _, e0, Keep.refl _ _, hh, O, hws, hZ, ⟨_, (State.WarmedH.refl s).since 0, Nat.zero_le _⟩, CHr.refl (fun p hp => by cases hp)⟩ Bd.exec Bd.bytes hml (by rw [← hZ.alike.findClass]; exact hfc) (name_of_methodNamed Bd.named Bd.method).1 Bd.returns Bd.notSynchronized
  exact ⟨s₂, o, h1, h2, h3, h4⟩
theorem CW.of_walk {wl : List Cond} {y : MethodName} {bytes : ByteArray} {ml : Nat} {ret : Option FieldType} {rm : Room} {as' : Array Value} (hpl : plainFor y = true) (O : Ext Z.heap h0) (hws : ∀ x ∈ ws, Z.heap.size ≤ x)
    (body : ∀ (p : Program) (e : Env) (s : State) (m : MethodId) (below : List Frame) (meth : Method) (c : Code) (T : State), Wk p l e rm s m as' below meth c Z EL h0 ws s.vm T h0 0 0 → (∀ x ∈ ws, Safe Z EL s.vm h0 x) → p.tables.exec = Jvm.exec → c.code = bytes → c.maxLocals = ml → Z.vm.findClass y.cls = some m.cls → meth.name = y.name → meth.sig.returnType = ret → meth.locks = false →
      Goes p e below (PostW s Z EL h0 ws Q rm.cells rm.slots) (T.setTop (entryFrame m as' ml))) : CW wl l Z EL y bytes ml ret rm as' h0 ws Q := by
  refine MetFree.of_bodySF hpl hisR ?_
  intro p e s m args below meth c s₁ Bd hml hP hK
  obtain ⟨rfl, hZ, hh, hC, hsf⟩ := hP
  have X0 : Stand p l e rm s m args below meth c s₁ [] 0 0 := Stand.of_body Bd
  have e0 : s₁.heap = h0 := by rw [← hh, Bd.state]; rfl
  have hfc := findClass_of_methodNamed Bd.named
  obtain ⟨s₂, o, h1, h2, h3, h4⟩ := body p e s m below meth c s₁ ⟨[], X0, Fr.nil _, e0, Keep.refl _ _, hh, O, hws, hZ, ⟨_, (State.WarmedH.refl s).since 0, Nat.zero_le _⟩, CHr.refl hC⟩ hsf Bd.exec Bd.bytes hml (by rw [← hZ.alike.findClass]; exact hfc) (name_of_methodNamed Bd.named Bd.method).1 Bd.returns Bd.notSynchronized
  exact ⟨s₂, o, h1, h2, h3, h4⟩
theorem Wk.retI (W : Wk p l e R s m args below meth c Z EL h0 ws s.vm T h cells slots) (hx : p.tables.exec = Jvm.exec) {z : Int32} (hret : meth.sig.returnType = some .int) (hlk : meth.locks = false) (hd : decode c.code pc = .ok (.ireturn, 1)) (hc : cells ≤ mc) (hs : slots ≤ ms) (q : Q (some (.int z)) h) : Goes p e below (PostN s Z h0 ws Q mc ms) (T.setTop (mkF m pc ls ((.int z) :: rest))) := by
  obtain ⟨locs, X, N, eh, K0, -⟩ := W
  have X : Stand p l e R s m args below meth c T locs cells slots := X
  obtain ⟨fs, hr, hrun, hended, hW, hsame⟩ := X.leave (v := some (.int z)) (fun q => by rw [hret] at q; cases q) hlk
  exact ⟨_, _, retOut X hx hret rfl (Or.inl ⟨rfl, Or.inl rfl, _, rfl⟩) hd hr, hrun, hended, _, _, rfl, ⟨N, by show Keep h0 T.heap ws; rw [eh]; exact K0, by show Q _ T.heap; rw [eh]; exact q⟩, ⟨_, rfl⟩, hW, hsame.mono hc hs⟩
theorem Wk.retIW (W : Wk p l e R s m args below meth c Z EL h0 ws vm0 T h cells slots) (hx : p.tables.exec = Jvm.exec) (hEL : EW Z a0 EL) {z : Int32} (hret : meth.sig.returnType = some .int) (hlk : meth.locks = false) (hd : decode c.code pc = .ok (.ireturn, 1)) (hc : cells ≤ mc) (hs : slots ≤ ms) (q : Q (some (.int z)) h) : Goes p e below (PostW s Z EL h0 ws Q mc ms) (T.setTop (mkF m pc ls ((.int z) :: rest))) := by
  have W0 := W.mono hc hs
  obtain ⟨locs, X, N, eh, K0, es, -, -, hZ, ⟨k0, hS, hk⟩, C⟩ := W0
  obtain ⟨fs, hr, hrun, hended, hRE⟩ := X.leaveW hS (by rw [eh]; exact hk) (v := some (.int z)) (fun q => by rw [hret] at q; cases q) hlk
  exact ⟨_, _, retOut X hx hret rfl (Or.inl ⟨rfl, Or.inl rfl, _, rfl⟩) hd hr, hrun, hended, _, _, rfl, ⟨N, by show Keep h0 T.heap ws; rw [eh]; exact K0, by show Q _ T.heap; rw [eh]; exact q⟩, by show CHr Z EL s.vm h0 T.vm T.heap; rw [eh]; exact C.trans (CHv.at X hZ hEL C.1), hRE⟩
theorem Wk.retJ (W : Wk p l e R s m args below meth c Z EL h0 ws s.vm T h cells slots) (hx : p.tables.exec = Jvm.exec) {z : Int64} (hret : meth.sig.returnType = some .long) (hlk : meth.locks = false) (hd : decode c.code pc = .ok (.lreturn, 1)) (hc : cells ≤ mc) (hs : slots ≤ ms) (q : Q (some (.long z)) h) : Goes p e below (PostN s Z h0 ws Q mc ms) (T.setTop (mkF m pc ls ((.long z) :: rest))) := by
  obtain ⟨locs, X, N, eh, K0, -⟩ := W
  have X : Stand p l e R s m args below meth c T locs cells slots := X
  obtain ⟨fs, hr, hrun, hended, hW, hsame⟩ := X.leave (v := some (.long z)) (fun q => by rw [hret] at q; cases q) hlk
  exact ⟨_, _, retOut X hx hret rfl (Or.inr (Or.inl ⟨rfl, rfl, _, rfl⟩)) hd hr, hrun, hended, _, _, rfl, ⟨N, by show Keep h0 T.heap ws; rw [eh]; exact K0, by show Q _ T.heap; rw [eh]; exact q⟩, ⟨_, rfl⟩, hW, hsame.mono hc hs⟩
theorem Wk.retJW (W : Wk p l e R s m args below meth c Z EL h0 ws vm0 T h cells slots) (hx : p.tables.exec = Jvm.exec) (hEL : EW Z a0 EL) {z : Int64} (hret : meth.sig.returnType = some .long) (hlk : meth.locks = false) (hd : decode c.code pc = .ok (.lreturn, 1)) (hc : cells ≤ mc) (hs : slots ≤ ms) (q : Q (some (.long z)) h) : Goes p e below (PostW s Z EL h0 ws Q mc ms) (T.setTop (mkF m pc ls ((.long z) :: rest))) := by
  have W0 := W.mono hc hs
  obtain ⟨locs, X, N, eh, K0, es, -, -, hZ, ⟨k0, hS, hk⟩, C⟩ := W0
  obtain ⟨fs, hr, hrun, hended, hRE⟩ := X.leaveW hS (by rw [eh]; exact hk) (v := some (.long z)) (fun q => by rw [hret] at q; cases q) hlk
  exact ⟨_, _, retOut X hx hret rfl (Or.inr (Or.inl ⟨rfl, rfl, _, rfl⟩)) hd hr, hrun, hended, _, _, rfl, ⟨N, by show Keep h0 T.heap ws; rw [eh]; exact K0, by show Q _ T.heap; rw [eh]; exact q⟩, by show CHr Z EL s.vm h0 T.vm T.heap; rw [eh]; exact C.trans (CHv.at X hZ hEL C.1), hRE⟩
theorem Wk.retA (W : Wk p l e R s m args below meth c Z EL h0 ws s.vm T h cells slots) (hx : p.tables.exec = Jvm.exec) {t : FieldType} {z : Value} (ht : t.isReference = true) (hz : z.isRef = true) (hret : meth.sig.returnType = some t) (hlk : meth.locks = false) (hd : decode c.code pc = .ok (.areturn, 1)) (hc : cells ≤ mc) (hs : slots ≤ ms) (q : Q (some z) h) : Goes p e below (PostN s Z h0 ws Q mc ms) (T.setTop (mkF m pc ls (z :: rest))) := by
  obtain ⟨locs, X, N, eh, K0, -⟩ := W
  have X : Stand p l e R s m args below meth c T locs cells slots := X
  obtain ⟨fs, hr, hrun, hended, hW, hsame⟩ := X.leave (v := some z) (fun q => by rw [hret] at q; cases q) hlk
  exact ⟨_, _, retOut X hx hret (by cases t <;> simp [FieldType.isReference] at ht <;> cases z <;> simp [Value.isRef] at hz <;> rfl) (Or.inr (Or.inr (Or.inr (Or.inr ⟨rfl, ht, hz⟩)))) hd hr, hrun, hended, _, _, rfl, ⟨N, by show Keep h0 T.heap ws; rw [eh]; exact K0, by show Q _ T.heap; rw [eh]; exact q⟩, ⟨_, rfl⟩, hW, hsame.mono hc hs⟩
theorem Wk.retAW (W : Wk p l e R s m args below meth c Z EL h0 ws vm0 T h cells slots) (hx : p.tables.exec = Jvm.exec) (hEL : EW Z a0 EL) {t : FieldType} {z : Value} (ht : t.isReference = true) (hz : z.isRef = true) (hret : meth.sig.returnType = some t) (hlk : meth.locks = false) (hd : decode c.code pc = .ok (.areturn, 1)) (hc : cells ≤ mc) (hs : slots ≤ ms) (q : Q (some z) h) : Goes p e below (PostW s Z EL h0 ws Q mc ms) (T.setTop (mkF m pc ls (z :: rest))) := by
  have W0 := W.mono hc hs
  obtain ⟨locs, X, N, eh, K0, es, -, -, hZ, ⟨k0, hS, hk⟩, C⟩ := W0
  obtain ⟨fs, hr, hrun, hended, hRE⟩ := X.leaveW hS (by rw [eh]; exact hk) (v := some z) (fun q => by rw [hret] at q; cases q) hlk
  exact ⟨_, _, retOut X hx hret (by cases t <;> simp [FieldType.isReference] at ht <;> cases z <;> simp [Value.isRef] at hz <;> rfl) (Or.inr (Or.inr (Or.inr (Or.inr ⟨rfl, ht, hz⟩)))) hd hr, hrun, hended, _, _, rfl, ⟨N, by show Keep h0 T.heap ws; rw [eh]; exact K0, by show Q _ T.heap; rw [eh]; exact q⟩, by show CHr Z EL s.vm h0 T.vm T.heap; rw [eh]; exact C.trans (CHv.at X hZ hEL C.1), hRE⟩
theorem Wk.retN (W : Wk p l e R s m args below meth c Z EL h0 ws s.vm T h cells slots) (hx : p.tables.exec = Jvm.exec) {z : Int32} (z' : Int32) {t : FieldType} (hn : nar t z = z') (ht : t = .boolean ∨ t = .byte ∨ t = .char ∨ t = .short) (hret : meth.sig.returnType = some t) (hlk : meth.locks = false) (hd : decode c.code pc = .ok (.ireturn, 1)) (hc : cells ≤ mc) (hs : slots ≤ ms) (q : Q (some (.int z')) h) : Goes p e below (PostN s Z h0 ws Q mc ms) (T.setTop (mkF m pc ls (.int z :: rest))) := by
  subst hn
  obtain ⟨locs, X, N, eh, K0, -⟩ := W
  have X : Stand p l e R s m args below meth c T locs cells slots := X
  obtain ⟨fs, hr, hrun, hended, hW, hsame⟩ := X.leave (v := some (.int (nar t z))) (fun q => by rw [hret] at q; cases q) hlk
  exact ⟨_, _, RoadKit.retN X hx hret ht hd hr, hrun, hended, _, _, rfl, ⟨N, by show Keep h0 T.heap ws; rw [eh]; exact K0, by show Q _ T.heap; rw [eh]; exact q⟩, ⟨_, rfl⟩, hW, hsame.mono hc hs⟩
theorem Wk.retNW (W : Wk p l e R s m args below meth c Z EL h0 ws vm0 T h cells slots) (hx : p.tables.exec = Jvm.exec) (hEL : EW Z a0 EL) {z : Int32} (z' : Int32) {t : FieldType} (hn : nar t z = z') (ht : t = .boolean ∨ t = .byte ∨ t = .char ∨ t = .short) (hret : meth.sig.returnType = some t) (hlk : meth.locks = false) (hd : decode c.code pc = .ok (.ireturn, 1)) (hc : cells ≤ mc) (hs : slots ≤ ms) (q : Q (some (.int z')) h) : Goes p e below (PostW s Z EL h0 ws Q mc ms) (T.setTop (mkF m pc ls (.int z :: rest))) := by
  subst hn
  have W0 := W.mono hc hs
  obtain ⟨locs, X, N, eh, K0, es, -, -, hZ, ⟨k0, hS, hk⟩, C⟩ := W0
  obtain ⟨fs, hr, hrun, hended, hRE⟩ := X.leaveW hS (by rw [eh]; exact hk) (v := some (.int (nar t z))) (fun q => by rw [hret] at q; cases q) hlk
  exact ⟨_, _, RoadKit.retN X hx hret ht hd hr, hrun, hended, _, _, rfl, ⟨N, by show Keep h0 T.heap ws; rw [eh]; exact K0, by show Q _ T.heap; rw [eh]; exact q⟩, by show CHr Z EL s.vm h0 T.vm T.heap; rw [eh]; exact C.trans (CHv.at X hZ hEL C.1), hRE⟩
theorem Wk.retV (W : Wk p l e R s m args below meth c Z EL h0 ws s.vm T h cells slots) (hx : p.tables.exec = Jvm.exec) (hret : meth.sig.returnType = none) (hlk : meth.locks = false) (hd : decode c.code pc = .ok (.return_, 1)) (hc : cells ≤ mc) (hs : slots ≤ ms) (q : Q none h) : Goes p e below (PostN s Z h0 ws Q mc ms) (T.setTop (mkF m pc ls [])) := by
  obtain ⟨locs, X, N, eh, K0, -⟩ := W
  have X : Stand p l e R s m args below meth c T locs cells slots := X
  obtain ⟨fs, hr, hrun, hended, hW, hsame⟩ := X.leave (v := none) (fun _ => rfl) hlk
  exact ⟨_, _, X.returnOut hx hret hd hr, hrun, hended, _, _, rfl, ⟨N, by show Keep h0 T.heap ws; rw [eh]; exact K0, by show Q _ T.heap; rw [eh]; exact q⟩, ⟨_, rfl⟩, hW, hsame.mono hc hs⟩
theorem Wk.retVW (W : Wk p l e R s m args below meth c Z EL h0 ws vm0 T h cells slots) (hx : p.tables.exec = Jvm.exec) (hEL : EW Z a0 EL) (hret : meth.sig.returnType = none) (hlk : meth.locks = false) (hd : decode c.code pc = .ok (.return_, 1)) (hc : cells ≤ mc) (hs : slots ≤ ms) (q : Q none h) : Goes p e below (PostW s Z EL h0 ws Q mc ms) (T.setTop (mkF m pc ls [])) := by
  have W0 := W.mono hc hs
  obtain ⟨locs, X, N, eh, K0, es, -, -, hZ, ⟨k0, hS, hk⟩, C⟩ := W0
  obtain ⟨fs, hr, hrun, hended, hRE⟩ := X.leaveW hS (by rw [eh]; exact hk) (v := none) (fun _ => rfl) hlk
  exact ⟨_, _, X.returnOut hx hret hd hr, hrun, hended, _, _, rfl, ⟨N, by show Keep h0 T.heap ws; rw [eh]; exact K0, by show Q _ T.heap; rw [eh]; exact q⟩, by show CHr Z EL s.vm h0 T.vm T.heap; rw [eh]; exact C.trans (CHv.at X hZ hEL C.1), hRE⟩
end Ends
end Jvm.OwnKit
namespace Jvm.OwnKit
open Sem ClassFile Op Lib Jvm.Stand Jvm.Free Jvm.LawKit Jvm.RoadKit
theorem neA {x y : Addr} (h : @LT.lt Nat _ x y ∨ @LT.lt Nat _ y x) : x ≠ y := h.elim (fun q => Nat.ne_of_lt q) (fun q => Nat.ne_of_gt q)
theorem ltN {a : Addr} {n : Nat} (h : a < n) : @LT.lt Nat _ a n := h
theorem ltA {a : Addr} {n : Nat} (h : @LT.lt Nat _ a n) : a < n := h
theorem all1 {a : Addr} {n : Nat} (h : @LT.lt Nat _ a n) : ∀ x ∈ [a], x < n := fun x hx => by cases List.mem_singleton.mp hx; exact h
theorem neN {x y : Addr} (h : x ≠ y) : @LT.lt Nat _ x y ∨ @LT.lt Nat _ y x := Nat.lt_or_gt_of_ne h
theorem cat_int (x : Int32) : (Value.int x).category = 1 := rfl
theorem cat_long (x : Int64) : (Value.long x).category = 2 := rfl
theorem cat_refv (x : Addr) : (Value.ref x).category = 1 := rfl
theorem cat_null : Value.null.category = 1 := rfl
theorem ref_nar {t : FieldType} {v : Value} (ht : t.isReference = true) (hv : v.isRef = true) : narrow t v = v ∧ fits t v = true := by
  cases t <;> simp [FieldType.isReference] at ht <;> cases v <;> simp [Value.isRef] at hv <;> exact ⟨rfl, rfl⟩
theorem bool_nar {x : Int32} (h : x = 0 ∨ x = 1) : narrow .boolean (.int x) = .int x ∧ fits .boolean (.int x) = true := by rcases h with rfl | rfl <;> exact ⟨rfl, rfl⟩
theorem cat_ref {v : Value} (h : v.isRef = true) : v.category = 1 := by cases v <;> simp [Value.isRef] at h <;> rfl
theorem one_ref {v : Value} (h : v.isRef = true) : Slot.val v = .unset ∨ ∃ w, Slot.val v = .val w ∧ w.category = 1 := Or.inr ⟨v, rfl, cat_ref h⟩
/-- an int of Java's type char, below 256 -/
def C8 (x : Int32) : Prop := ¬ x < 0 ∧ ¬ (255 : Int32) < x
/-- an int of Java's type char -/
def C16 (x : Int32) : Prop := ¬ x < 0 ∧ ¬ (65535 : Int32) < x
theorem i32lt {x y : Int32} : x < y ↔ x.toInt < y.toInt := Int32.lt_iff_toInt_lt
theorem i32nat {y : Int32} (h : y.toBitVec.toNat < 2 ^ 31) : y.toInt = (y.toBitVec.toNat : Int) := by
  have : y.toInt = y.toBitVec.toInt := rfl
  rw [this, BitVec.toInt_eq_toNat_cond, if_pos (by omega)]
theorem C16.nat {x : Int32} (h : C16 x) : x.toBitVec.toNat < 65536 := by
  obtain ⟨h1, h2⟩ := h
  rw [i32lt] at h1 h2
  have e0 : (0 : Int32).toInt = 0 := rfl
  have e1 : (65535 : Int32).toInt = 65535 := rfl
  have : x.toInt = x.toBitVec.toInt := rfl
  have hb := x.toBitVec.isLt
  rw [this, BitVec.toInt_eq_toNat_cond] at h1 h2
  by_cases hc : 2 * x.toBitVec.toNat < 2 ^ 32
  · rw [if_pos hc] at h2; omega
  · rw [if_neg hc] at h1; omega
theorem C16.of {x : Int32} (h : x.toBitVec.toNat < 65536) : C16 x := by
  have e := i32nat (y := x) (by omega)
  constructor
  · rw [i32lt, e]; have e0 : (0 : Int32).toInt = 0 := rfl
    omega
  · rw [i32lt, e]; have e1 : (65535 : Int32).toInt = 65535 := rfl
    omega
theorem C8.of {x : Int32} (h : x.toBitVec.toNat < 256) : C8 x := by
  have e := i32nat (y := x) (by omega)
  constructor
  · rw [i32lt, e]; have e0 : (0 : Int32).toInt = 0 := rfl
    omega
  · rw [i32lt, e]; have e1 : (255 : Int32).toInt = 255 := rfl
    omega
theorem C8.up {x : Int32} (h : C8 x) : C16 x := ⟨h.1, fun q => h.2 (by rw [i32lt] at q ⊢; have e1 : (65535 : Int32).toInt = 65535 := rfl; have e2 : (255 : Int32).toInt = 255 := rfl; omega)⟩
theorem i2c_nat (x : Int32) : (i2c x).toBitVec.toNat = x.toBitVec.toNat % 65536 := by
  have h : (i2c x).toBitVec = (x.toBitVec.setWidth 16).setWidth 32 := rfl
  rw [h, BitVec.toNat_setWidth, BitVec.toNat_setWidth]
  omega
theorem i2c_c16 (x : Int32) : C16 (i2c x) := C16.of (by rw [i2c_nat]; omega)
theorem i2c_id {x : Int32} (h : C16 x) : i2c x = x := by
  apply Int32.toBitVec_inj.mp
  apply BitVec.eq_of_toNat_eq
  rw [i2c_nat]
  have := h.nat
  omega
theorem nar_c16 {x : Int32} (h : C16 x) : nar .char x = x := i2c_id h
theorem and_nat (x : Int32) (k : Nat) (hk : k < 2 ^ 31) : (x &&& Int32.ofNat k).toBitVec.toNat ≤ k := by
  have e : (x &&& Int32.ofNat k).toBitVec.toNat = x.toBitVec.toNat &&& (Int32.ofNat k).toBitVec.toNat := by simp [Int32.toBitVec_and, BitVec.toNat_and]
  have e2 : (Int32.ofNat k).toBitVec.toNat = k := by
    show (BitVec.ofNat 32 k).toNat = k
    rw [BitVec.toNat_ofNat]; omega
  rw [e, e2]; exact Nat.and_le_right
theorem and255 (x : Int32) : C8 (x &&& 255) := C8.of (Nat.lt_of_le_of_lt (and_nat x 255 (by decide)) (by decide))
theorem i2c_255 (x : Int32) : i2c (x &&& 255) = x &&& 255 := i2c_id (and255 x).up
theorem i2c_c8 (x : Int32) : C8 (i2c (x &&& 255)) := by rw [i2c_255]; exact and255 x
theorem ala {α : Type} {P : α → Prop} {y : α} {L : List α} (q : P y) (r : ∀ x ∈ L, P x) : ∀ x ∈ y :: L, P x := fun x z => (List.mem_cons.mp z).elim (fun u => u ▸ q) (r x)
theorem ala0 {α : Type} {P : α → Prop} : ∀ x ∈ ([] : List α), P x := fun _ q => nomatch q
/-- x holds no byte[] -/
def NB (Z : State) (h : Heap) (x : Addr) : Prop := ∀ c : Cell, ¬ Arr Z h x c .byte
theorem NB.exa {Z : State} {h : Heap} {x : Addr} {C : String} {n : Nat} {a0 : Array Value} (E : Exa Z h x C) (w : (Cond.instantiable C n).before a0 Z = true) : NB Z h x := fun c A => RoadKit.ne_arr E w A rfl
theorem NB.arr {Z : State} {h : Heap} {x : Addr} {cl : Cell} {ty : FieldType} (A : Arr Z h x cl ty) (ht : ty ≠ .byte) : NB Z h x := fun c B => by
  cases A.1.symm.trans B.1
  obtain ⟨-, k, h1, comp, h2⟩ := A.2.1
  obtain ⟨-, k', g1, comp', g2⟩ := B.2.1
  cases h1.symm.trans g1
  rw [h2] at g2
  injection g2 with _ e
  exact ht e
theorem NB.arv {Z : State} {h : Heap} {x : Addr} {k : ClassId} {ty : FieldType} {n : Int32} {vs : List Value} {d : Value} (V : Arv Z h x k ty n vs d) (ht : ty ≠ .byte) : NB Z h x := by
  obtain ⟨c, A, -⟩ := V; exact NB.arr A ht
end Jvm.OwnKit
namespace Jvm.OwnKit
open Sem ClassFile Op Lib Jvm.Stand Jvm.Free Jvm.LawKit Jvm.RoadKit
theorem safe0 {Z : State} {vm : Vm} {h : Heap} {x : Addr} : Safe Z [] vm h x := fun B => by obtain ⟨p, hp, -⟩ := B; cases hp
theorem inr1 {a : Addr} {n : Nat} (h : @LE.le Nat _ n a) {ws : List Addr} : ∀ x ∈ [a], x ∈ ws ∨ @LE.le Nat _ n x := fun x hx => by cases List.mem_singleton.mp hx; exact Or.inr h
theorem hws1 {Z : State} {EL : List (String × Nat)} {vm : Vm} {h : Heap} {a : Addr} {n : Nat} {ws : List Addr} (q : a ∈ ws ∨ @LE.le Nat _ n a) (S : Safe Z EL vm h a) : ∀ x ∈ [a], (x ∈ ws ∨ @LE.le Nat _ n x) ∧ Safe Z EL vm h x := fun x hx => by cases List.mem_singleton.mp hx; exact ⟨q, S⟩
theorem i2b_i2b (x : Int32) : nar .byte (i2b x) = i2b x := by
  show ((x.toInt8.toInt32).toInt8).toInt32 = x.toInt8.toInt32
  rw [Int8.toInt8_toInt32]
end Jvm.OwnKit
namespace Jvm.OwnKit
open Sem ClassFile Op Lib Jvm.Stand Jvm.Free Jvm.LawKit Jvm.RoadKit
/-- a class right under the root is no subclass of a class that can be made an object of -/
theorem not_sub {Z : State} {a0 : Array Value} {C O K : String} {n : Nat} (w : (Cond.superclass C O).before a0 Z = true) (wo : (Cond.noSuperclass O).before a0 Z = true) (wi : (Cond.instantiable K n).before a0 Z = true) (h1 : C ≠ K) (h2 : O ≠ K) : ∃ c t, Z.vm.findClass C = some c ∧ Z.vm.findClass K = some t ∧ Z.vm.assignable c t = false := by
  obtain ⟨t, kt, g1, g2, g3, g4, -⟩ := Cond.instantiable_spec wi
  obtain ⟨o, ko, o1, o2, o3, -, -⟩ := Cond.noSuperclass_spec wo
  have neO := ids_ne o1 g1 h2
  have N0 : NS Z O K := by
    refine ⟨o, t, o1, g1, fun fuel => ?_⟩
    cases fuel with
    | zero => rfl
    | succ f => simp [Vm.isSubclassAux, neO, o2, o3]
  obtain ⟨c, t', c1, c2, c3⟩ := NS.step w N0 h1
  cases g1.symm.trans c2
  obtain ⟨p, k, kp, q1, q2, q3, q4, q5, -, q7⟩ := Cond.superclass_spec c1 w
  have ne := ids_ne c1 g1 h1
  have hi : kt.isInterface = false := by
    cases hq : kt.isInterface with
    | false => rfl
    | true => rw [hq] at g4; cases g4
  refine ⟨c, t, c1, g1, ?_⟩
  show Z.vm.assignableAux (255 + 1) c t = false
  simp [Vm.assignableAux, ne, q2, g2, q5, g3, hi, Vm.isSubclass, c3]
end Jvm.OwnKit
namespace Jvm.OwnKit
open Sem ClassFile Op Lib Jvm.Stand Jvm.Free Jvm.LawKit Jvm.RoadKit
section Lits
variable {p : Program} {l : Launch} {e : Env} {R : Room} {s : State} {m : MethodId} {args : Array Value} {below : List Frame} {meth : Method} {c : Code} {Z : State} {EL : List (String × Nat)} {h0 : Heap} {ws : List Addr} {vm0 : Vm} {T : State} {h : Heap} {cells slots : Nat} {a0 : Array Value} {Post : Outcome → State → Prop} {pc : Nat} {ls : Array Slot} {st rest : List Value} {own : String}
/-- ldc of a String constant, its text read -/
theorem Wk.ldcE (W : Wk p l e R s m args below meth c Z EL h0 ws vm0 T h cells slots) (hx : p.tables.exec = Jvm.exec) (ho : Z.vm.findClass own = some m.cls) {index : Nat} {text : String} (w : (Cond.stringLink own index text).before a0 Z = true) (wS : ∀ a ∈ Bundle.stringAtoms, a.before a0 Z = true) (hEL : EW Z a0 EL) (hmem : (own, index) ∈ EL)
    {vs : List Value} {z : Int32} (ht : (∀ c ∈ text.toList, c.toNat < 256) ∧ text.toList.map (fun c => Value.int (Jvm.Lit.byteI c.toNat.toUInt16)) = vs) (hz : ¬ z < 0) (hl : z.toNatClampNeg = vs.length)
    (pc' : Nat) (hd : decode c.code pc = .ok (.ldc index, 2)) (hp : pc + 2 = pc') (n : Nat) (hn : 4 * text.toList.length ≤ n) (hbig : n ≤ 536870912) (hc : cells + 2 ≤ R.cells) (hl' : slots + (n + 4) ≤ R.slots)
    (K : ∀ (vm1 : Vm) (T' : State) (h' : Heap) (a b : Addr) (k : ClassId), Wk p l e R s m args below meth c Z EL h0 ws vm1 T' h' (cells + 2) (slots + (n + 4)) → Ext h h' → CHr Z EL vm0 h vm1 h' → Exa Z h' a "java/lang/String" → Fld Z h' a "java/lang/String" "coder" "B" (.int 0) → Fld Z h' a "java/lang/String" "value" "[B" (.ref b) → Arv Z h' b k .byte z vs (.int 0) → (∀ x, Safe Z EL vm1 h' x → x ≠ a ∧ x ≠ b) → Goes p e below Post (T'.setTop (mkF m pc' ls (.ref a :: st)))) : Goes p e below Post (T.setTop (mkF m pc ls st)) := by
  subst hp
  have ho' := W.wown ho
  obtain ⟨locs, X, N, eh, K0, es, O, hws, hZ, ⟨k0, hS, hk⟩, C⟩ := W
  obtain ⟨a, T', h', k1, b, k, X', e', E, hS', hk', hZ', -, F1, F2, F3, F4, -, -, C', -, hsep, stp⟩ := ldcCH X hx hZ ho' w wS eh hS hk hEL hmem C.1 ht hz hl (g := mkF m pc ls st) rfl hd hn hbig hc hl'
  exact Goes.go stp (K T'.vm T' h' a b k ⟨locs, X', N, e', K0.ext E, es, O, hws, hZ', ⟨k1, hS', hk'⟩, C.trans C'⟩ E C' F1 F2 F3 F4 hsep)
end Lits
end Jvm.OwnKit
namespace Jvm.OwnKit
open Sem ClassFile Op Lib Jvm.Stand Jvm.Free Jvm.LawKit Jvm.RoadKit
theorem ofn {i : Nat} (h : i ≤ 4000) : (Int32.ofNat i).toInt = (i : Int) := Int32.toInt_ofNat_of_lt (by omega)
theorem ofn_lt {i L : Nat} (hl : L ≤ 4000) (h : i < L) : Int32.ofNat i < Int32.ofNat L := by rw [i32lt, ofn (by omega), ofn hl]; omega
theorem ofn_nlt {i L : Nat} (hl : i ≤ 4000) (h : L ≤ i) : ¬ Int32.ofNat i < Int32.ofNat L := by rw [i32lt, ofn hl, ofn (by omega)]; omega
theorem ofn_n0 {i : Nat} (hl : i ≤ 4000) : ¬ Int32.ofNat i < 0 := by
  rw [i32lt, ofn hl]; have e : (0 : Int32).toInt = 0 := rfl
  omega
theorem ofn_clamp {i : Nat} (hl : i ≤ 4000) : (Int32.ofNat i).toNatClampNeg = i := by
  show (Int32.ofNat i).toInt.toNat = i
  rw [ofn hl]; rfl
theorem lt_of_ofn {i L : Nat} (hi : i ≤ 4000) (hl : L ≤ 4000) (h : Int32.ofNat i < Int32.ofNat L) : i < L := by
  rw [i32lt, ofn hi, ofn hl] at h; omega
theorem ofn_succ (i : Nat) : (Int32.ofNat i) + (1 : Int32) = Int32.ofNat (i + 1) := (Int32.ofNat_add i 1).symm
theorem ofn_snoc (L : List Int32) (c : Int32) : Int32.ofNat L.length + (1 : Int32) = Int32.ofNat (L ++ [c]).length := by
  rw [ofn_succ]; simp
theorem ofn_snoc2 (L : List Int32) (c d : Int32) : Int32.ofNat L.length + (2 : Int32) = Int32.ofNat ((L ++ [c]) ++ [d]).length := by
  rw [show (2 : Int32) = Int32.ofNat 2 from rfl, ← Int32.ofNat_add]; simp
theorem ofn_pos {L : Nat} (hl : L ≤ 4000) (h : ¬ (0 : Int32) < Int32.ofNat L) : L = 0 := by
  rw [i32lt, ofn hl] at h; have e : (0 : Int32).toInt = 0 := rfl
  omega
theorem map_get {bs : List Int32} {i : Nat} (hl : bs.length ≤ 4000) (h : i < bs.length) : (bs.map Value.int).getD (Int32.ofNat i).toNatClampNeg (.int 0) = .int (bs.getD i 0) := by
  rw [ofn_clamp (by omega)]
  simp [List.getD_eq_getElem?_getD, h]
theorem nall0 {P : Nat → Prop} : ∀ i, i < 0 → P i := fun _ q => absurd q (Nat.not_lt_zero _)
theorem nallS {P : Nat → Prop} {k : Nat} (h : ∀ i, i < k → P i) (q : P k) : ∀ i, i < k + 1 → P i := fun i hi => by
  rcases Nat.lt_succ_iff_lt_or_eq.mp hi with r | r
  · exact h i r
  · exact r ▸ q
theorem c8_nat {x : Int32} (h : C8 x) : x.toBitVec.toNat < 256 := by
  obtain ⟨h1, h2⟩ := h
  rw [i32lt] at h1 h2
  have e0 : (0 : Int32).toInt = 0 := rfl
  have e1 : (255 : Int32).toInt = 255 := rfl
  have : x.toInt = x.toBitVec.toInt := rfl
  have hb := x.toBitVec.isLt
  rw [this, BitVec.toInt_eq_toNat_cond] at h1 h2
  by_cases hc : 2 * x.toBitVec.toNat < 2 ^ 32
  · rw [if_pos hc] at h2; omega
  · rw [if_neg hc] at h1; omega
theorem i2b_inj {x y : Int32} (hx : C8 x) (hy : C8 y) (h : i2b x = i2b y) : x = y := by
  have h' : x.toInt8 = y.toInt8 := by
    have q := congrArg Int32.toInt8 h
    simpa [i2b] using q
  have q : (x.toBitVec.signExtend 8) = (y.toBitVec.signExtend 8) := congrArg Int8.toBitVec h'
  have q2 := congrArg BitVec.toNat q
  have ex : ∀ z : BitVec 32, (z.signExtend 8).toNat = z.toNat % 256 := fun z => by
    rw [BitVec.signExtend_eq_setWidth_of_le _ (by decide), BitVec.toNat_setWidth]
  rw [ex, ex] at q2
  have h1 := c8_nat hx
  have h2 := c8_nat hy
  apply Int32.toBitVec_inj.mp
  apply BitVec.eq_of_toNat_eq
  omega
theorem getD_map_i2b (cs : List Int32) (i : Nat) : (cs.map i2b).getD i 0 = i2b (cs.getD i 0) := by
  simp only [List.getD_eq_getElem?_getD, List.getElem?_map]
  cases cs[i]? <;> rfl
theorem c8_getD {cs : List Int32} (h8 : ∀ c ∈ cs, C8 c) (i : Nat) : C8 (cs.getD i 0) := by
  rw [List.getD_eq_getElem?_getD]
  cases q : cs[i]? with
  | none => exact C8.of (by decide)
  | some c => exact h8 c (List.mem_of_getElem? q)
/-- the same elements, told otherwise -/
theorem arv_as {Z : State} {h : Heap} {a : Addr} {k : ClassId} {ty : FieldType} {n : Int32} {vs ws : List Value} {d : Value} (V : Arv Z h a k ty n vs d) (q : ∀ i, i < n.toNatClampNeg → vs.getD i d = ws.getD i d) : Arv Z h a k ty n ws d := by
  obtain ⟨c, A, q1, S, q3, H, G⟩ := V
  refine ⟨c, A, q1, S, q3, fun j hj => ?_, fun j hj => ?_⟩
  · rw [← q j (S ▸ hj)]; exact H j hj
  · rw [← q j (S ▸ hj)]; exact G j hj
theorem arv_cp {Z : State} {h : Heap} {a : Addr} {k : ClassId} {ty : FieldType} {n : Int32} {us X Y : List Value} {d : Value} (V : Arv Z h a k ty n (X.take (0 : Int32).toNatClampNeg ++ us ++ Y) d) (hu : us.length = n.toNatClampNeg) : Arv Z h a k ty n us d := by
  refine arv_as V fun i hi => ?_
  have e : (0 : Int32).toNatClampNeg = 0 := rfl
  have hl : i < us.length := by omega
  simp [e, List.getD_eq_getElem?_getD, List.getElem?_append, hl]
theorem fts (f t : Int32) : f + (t - f) = t := by rw [Int32.add_comm, Int32.sub_add_cancel]
end Jvm.OwnKit
namespace Jvm.OwnKit
open Sem ClassFile Op Lib Jvm.Stand Jvm.Free Jvm.LawKit Jvm.RoadKit
/-- a class that declares the method and is no interface: the word that a call of the superclass's method asks -/
theorem same_of {Z : State} {a0 : Array Value} {C : String} {y y' : MethodName} (wS : (Cond.selects C y' y').before a0 Z = true) (hc : y'.cls = y.cls) (w3 : (Cond.instanceMethod y).before a0 Z = true) (hx : y.cls ≠ "java/lang/invoke/MethodHandle" ∧ y.cls ≠ "java/lang/invoke/VarHandle") : (Cond.sameMethod y.cls y.cls y.name y.desc).before a0 Z = true := by
  obtain ⟨m, meth, hn, -, -, -⟩ := Cond.instanceMethod_spec w3
  have hf := State.methodFound?_of_named hn hx
  have hcl := findClass_of_methodNamed hn
  obtain ⟨c2, r2, m2, q1, q2, q3, q4, kP, hkP, hkPi⟩ := Cond.selects_spec wS
  have h2 := findClass_of_methodNamed q3
  rw [hc, hcl] at h2
  have h3 := Option.some.inj h2
  rw [← h3] at hkP
  have hn' : Z.methodNamed? ⟨y.cls, y.name, y.desc⟩ = some m := hn
  simp [Cond.before, Cond.holds, Cond.value, hcl, hf, hn', hkP, hkPi]
theorem decl_of {Z : State} {a0 : Array Value} {y : MethodName} {bytes : ByteArray} {ml : Nat} {ret : Option FieldType} (w2 : (Cond.instanceMethod y).before a0 Z = true) (w4 : (Cond.code y bytes ml ret).before a0 Z = true) : (Cond.declares y).before a0 Z = true := by
  obtain ⟨m, meth, hn, hm, hs, -⟩ := Cond.instanceMethod_spec w2
  obtain ⟨m2, cM, q1, -, -, -, -, -, -, hsig⟩ := Cond.code_spec hn w4
  cases hm.symm.trans q1
  simp [Cond.before, Cond.holds, Cond.value, hn, hm, hs, hsig]
theorem inr2 {a b : Addr} {n : Nat} (h : @LE.le Nat _ n a) (h' : @LE.le Nat _ n b) {ws : List Addr} : ∀ x ∈ [a, b], x ∈ ws ∨ @LE.le Nat _ n x := fun x hx => by
  rcases List.mem_cons.mp hx with q | q
  · exact Or.inr (q ▸ h)
  · exact Or.inr (List.mem_singleton.mp q ▸ h')
theorem hws2 {Z : State} {EL : List (String × Nat)} {vm : Vm} {h : Heap} {a b : Addr} {n : Nat} {ws : List Addr} (q : a ∈ ws ∨ @LE.le Nat _ n a) (S : Safe Z EL vm h a) (q' : b ∈ ws ∨ @LE.le Nat _ n b) (S' : Safe Z EL vm h b) : ∀ x ∈ [a, b], (x ∈ ws ∨ @LE.le Nat _ n x) ∧ Safe Z EL vm h x := fun x hx => by
  rcases List.mem_cons.mp hx with r | r
  · exact r ▸ ⟨q, S⟩
  · exact List.mem_singleton.mp r ▸ ⟨q', S'⟩
section Super
variable {p : Program} {l : Launch} {e : Env} {R : Room} {s : State} {m : MethodId} {args : Array Value} {below : List Frame} {meth : Method} {c : Code} {Z : State} {EL : List (String × Nat)} {h0 : Heap} {ws : List Addr} {vm0 : Vm} {T : State} {h : Heap} {cells slots : Nat} {a0 : Array Value} {Post : Outcome → State → Prop} {pc : Nat} {ls : Array Slot} {st rest : List Value} {own : String}
theorem Wk.super (W : Wk p l e R s m args below meth c Z EL h0 ws vm0 T h cells slots) (hx : p.tables.exec = Jvm.exec) (ho : Z.vm.findClass own = some m.cls) {index : Nat} {y : MethodName} {KC : String} {bytes : ByteArray} {ml : Nat} {ret : Option FieldType} (w1 : (Cond.methodLink own index y).before a0 Z = true) (w2 : (Cond.sameMethod y.cls y.cls y.name y.desc).before a0 Z = true) (w3 : (Cond.instanceMethod y).before a0 Z = true) (w4 : (Cond.superclass own y.cls).before a0 Z = true) (hy1 : y.name ≠ "<init>") (wc : (Cond.code y bytes ml ret).before a0 Z = true)
    {Wd mc ms : Nat} {as' : Array Value} {ws' : List Addr} {Q : Option Value → Heap → Prop} (hK : Back l R p e below (s.setVm vm0) args y 3 Wd (PreB R as' h mc ms) (PostB Z h ws' Q mc ms)) {a : Addr} (F : Ins Z h a KC true) (hsz : ls.size = c.maxLocals) (argsL rest : List Value) (hlen : ∀ sig, parseMethodDescriptor y.desc = some sig → argsL.length = sig.parameters.length) (hst : st = argsL.reverse ++ .ref a :: rest) (has : (Value.ref a :: argsL).toArray = as') (hW : (rest.map fun v => v.category).sum ≤ Wd) (pc' : Nat) (hd : decode c.code pc = .ok (.invokespecial index, 3)) (hp : pc + 3 = pc') (hc : cells + mc ≤ R.cells) (hs : slots + ms ≤ R.slots) (hws' : ∀ x ∈ ws', (x ∈ ws ∨ h0.size ≤ x) ∧ Safe Z EL vm0 h x)
    (K : ∀ (v : Option Value) (T' : State) (h' : Heap), Wk p l e R s m args below meth c Z EL h0 ws vm0 T' h' (cells + mc) (slots + ms) → Keep h h' ws' → CHr Z EL vm0 h vm0 h' → Q v h' → Goes p e below Post (T'.setTop (mkF m pc' ls (v.toList ++ rest)))) : Goes p e below Post (T.setTop (mkF m pc ls st)) := by
  subst hp hst
  have ho' := W.wown ho
  obtain ⟨locs, X, N, eh, K0, es, O, hws, hZ, ⟨k0, hS, hk⟩, C⟩ := W
  obtain ⟨v, _, ⟨T1, L1', k1, n1⟩, -, X1, ⟨L1, ⟨q1, q2, q3⟩, l1, y1, z1⟩, stp⟩ := superBack X hx hZ ho' w1 w2 w3 w4 hy1 hK eh F (g := mkF m pc ls (argsL.reverse ++ .ref a :: rest)) rfl hsz wc hlen rfl (by show 2 * 0 + _ ≤ _; omega) hd (fun _ _ => ⟨has, eh, hc, hs⟩)
  dsimp only [Pt.U, Pt.locs, Pt.cells, Pt.slots] at X1 l1 y1 z1 stp q1 q2 q3
  subst l1 y1 z1
  have C1 := CHr.keep q2 (fun x hx => (hws' x hx).2) C.1
  exact Goes.run stp (K v T1 T1.heap ⟨_, X1, N.app q1, rfl, K0.trans q2 (fun x hx => (hws' x hx).1), es, O, hws, hZ, ⟨k0, hS, Nat.le_trans hk q2.1⟩, C.trans C1⟩ q2 C1 q3)
theorem Wk.nfo (W : Wk p l e R s m args below meth c Z EL h0 ws vm0 T h cells slots) {C' : String} {y y' : MethodName} (w3 : (Cond.selects C' y' y').before a0 Z = true) (hc : y'.cls = y.cls) : NotFace (s.setVm vm0) y := fun r0 h0' => by
  have w := mvT (s := s.setVm vm0) (args := #[]) W.warm w3
  obtain ⟨c2, r2, m2, q1, q2, q3, q4, kP, hkP, hkPi⟩ := Cond.selects_spec w
  have e1 := findClass_of_methodNamed q3
  have e2 := findClass_of_methodNamed h0'
  rw [hc, e2] at e1
  have e3 := Option.some.inj e1
  rw [← e3] at hkP
  exact ⟨kP, hkP, hkPi⟩
end Super
end Jvm.OwnKit
/- laws to paste: Road.backV, Road.lenW, Road.chN, Road.codOf (cut by pick.py; bodies as the Statement names them) -/
namespace Jvm.Pilot.@@N@@
namespace StrChars
open Jvm Sem ClassFile Op Lib Jvm.Stand Jvm.Free.XT Jvm.Free.ALB Jvm.Free.JM Jvm.Free
open Jvm.Lib.Cold (StaticIs)
/-- a char array whose places are chars -/
def Ch (a : Addr) (A : Cell) (U : State) : Prop := Arr .char a A U ∧ Typed .char A
theorem Ch.mv {a : Addr} {A : Cell} {U U' : State} (h : Ch a A U) (hal : U.vm.Alike U'.vm) (hh : U'.heap = U.heap) : Ch a A U' := ⟨h.1.mv hal hh, h.2⟩
theorem Ch.keep {a : Addr} {A : Cell} {U U' : State} (h : Ch a A U) (hal : U.vm.Alike U'.vm) (hk : U'.heap[a]? = some A) : Ch a A U' := ⟨h.1.keep hal hk, h.2⟩
/-- what place i of a char[]'s cell holds -/
def cv (A : Cell) (i : Nat) : Int32 := match A.slots[i]? with | some (.int x) => x | _ => 0
theorem Ch.get {a : Addr} {A : Cell} {U : State} (h : Ch a A U) {i : Nat} (hi : i < A.slots.size) : A.slots[i]? = some (.int (cv A i)) := by
  have e := Array.getElem?_eq_getElem hi
  have f := h.2 i _ e
  unfold cv; rw [e]
  generalize A.slots[i] = v at f
  cases v <;> simp [fits] at f ⊢
/-- the byte that i2b leaves of a char -/
def lo8 (x : Int32) : Int32 := x.toInt8.toInt32
theorem fits_lo8 (y : Int32) : fits .byte (.int (lo8 y)) = true := by
  have h1 := y.toInt8.le_toInt
  have h2 := y.toInt8.toInt_lt
  simp only [lo8, fits, Bool.and_eq_true, decide_eq_true_eq, Int32.le_iff_toInt_le, Int8.toInt_toInt32, show (-128 : Int32).toInt = -128 from by decide, show (127 : Int32).toInt = 127 from by decide]
  omega
/-- A' is A but that each place j of lo .. hi - 1 holds f j -/
def Laid (A A' : Cell) (lo hi : Nat) (f : Nat → Value) : Prop := A'.cls = A.cls ∧ A'.vm = A.vm ∧ A'.slots.size = A.slots.size ∧ ∀ i, A'.slots[i]? = if lo ≤ i ∧ i < hi then some (f i) else A.slots[i]?
theorem Laid.zero (A : Cell) (lo : Nat) (f : Nat → Value) : Laid A A lo (lo + 0) f := ⟨rfl, rfl, rfl, fun i => by rw [if_neg (by omega)]⟩
theorem Laid.step {A Ak : Cell} {lo k : Nat} {f : Nat → Value} {v : Value} (h : Laid A Ak lo k f) (hlo : lo ≤ k) (hk : k < Ak.slots.size) (hv : v = f k) : Laid A (Ak.setSlot k v) lo (k + 1) f := by
  refine ⟨h.1, h.2.1, by simpa [Cell.setSlot] using h.2.2.1, fun i => ?_⟩
  by_cases e : k = i
  · subst e; rw [Cell.slots_setSlot_self v hk, if_pos (by omega), hv]
  · rw [Cell.slots_setSlot_ne v e, h.2.2.2 i]
    by_cases q : lo ≤ i ∧ i < k
    · rw [if_pos q, if_pos (by omega)]
    · rw [if_neg q, if_neg (by omega)]
def U16 : String := "java/lang/StringUTF16"
namespace Cmp5
def yN : MethodName := ⟨"java/lang/StringUTF16", "compress", "([CI[BII)I"⟩
abbrev yB : ByteArray := jdk_52_method_21_code
theorem d0 : decode yB 0 = .ok (.iconst 0, 1) := by decide +kernel
theorem d1 : decode yB 1 = .ok (.istore 5, 2) := by decide +kernel
theorem d3 : decode yB 3 = .ok (.iload 5, 2) := by decide +kernel
theorem d5 : decode yB 5 = .ok (.iload 4, 2) := by decide +kernel
theorem d7 : decode yB 7 = .ok (.if_icmp (.ge) 37, 3) := by decide +kernel
theorem d10 : decode yB 10 = .ok (.aload_n 0, 1) := by decide +kernel
theorem d11 : decode yB 11 = .ok (.iload_n 1, 1) := by decide +kernel
theorem d12 : decode yB 12 = .ok (.caload, 1) := by decide +kernel
theorem d13 : decode yB 13 = .ok (.istore 6, 2) := by decide +kernel
theorem d15 : decode yB 15 = .ok (.iload 6, 2) := by decide +kernel
theorem d17 : decode yB 17 = .ok (.sipush 255, 3) := by decide +kernel
theorem d20 : decode yB 20 = .ok (.if_icmp (.le) 6, 3) := by decide +kernel
theorem d26 : decode yB 26 = .ok (.aload_n 2, 1) := by decide +kernel
theorem d27 : decode yB 27 = .ok (.iload_n 3, 1) := by decide +kernel
theorem d28 : decode yB 28 = .ok (.iload 6, 2) := by decide +kernel
theorem d30 : decode yB 30 = .ok (.i2b, 1) := by decide +kernel
theorem d31 : decode yB 31 = .ok (.bastore, 1) := by decide +kernel
theorem d32 : decode yB 32 = .ok (.iinc 1 1, 3) := by decide +kernel
theorem d35 : decode yB 35 = .ok (.iinc 3 1, 3) := by decide +kernel
theorem d38 : decode yB 38 = .ok (.iinc 5 1, 3) := by decide +kernel
theorem d41 : decode yB 41 = .ok (.goto (-38), 3) := by decide +kernel
theorem d44 : decode yB 44 = .ok (.iload 4, 2) := by decide +kernel
theorem d46 : decode yB 46 = .ok (.ireturn, 1) := by decide +kernel
def site : List Cond := []
def tab : Cond := tabOf yN yB 7 (some .int) site
def P (b : Addr) (A : Cell) (d : Addr) (B : Cell) (o q len : Nat) (args : Array Value) (s : State) : Prop := args = #[.ref b, .int (Int32.ofNat o), .ref d, .int (Int32.ofNat q), .int (Int32.ofNat len)] ∧ Ch b A s ∧ Arr .byte d B s ∧ b ≠ d ∧ o + len ≤ A.slots.size ∧ q + len ≤ B.slots.size ∧ ∀ i, i < len → ¬ 255 < cv A (o + i)
def E (b : Addr) (A : Cell) (d : Addr) (B : Cell) (o q len : Nat) (r : Option Value) (s u : State) : Prop := r = some (.int (Int32.ofNat len)) ∧ ∃ B', Put d B' s u ∧ Laid B B' q (q + len) (fun j => Value.int (lo8 (cv A (o + (j - q)))))
/-- no char of the range above 255: len; the places written hold each char's low byte -/
theorem law (l : Launch) (b : Addr) (A : Cell) (d : Addr) (B : Cell) (o q len : Nat) : Law l yN 5 5 0 0 yB 7 (some .int) site (P b A d B o q len) (E b A d B o q len) (copyLocs d q len) 0 0 := by
  refine Law.of_walk (plainFor_of_name (by decide +kernel)) (by decide +kernel) (by decide +kernel) (by decide) (fun _ _ h => by rw [h.1]; rfl) (fun _ U U' hal hh h => ⟨h.1, h.2.1.mv hal hh, h.2.2.1.mv hal hh, h.2.2.2⟩) (fun r U U' V V' h1 hal h2 h => ⟨h.1, h.2.elim fun B' q => ⟨B', q.1.mv h1 h2, q.2⟩⟩) ?_
  intro p e s m args below meth c s₁ X0 hexec hbytes hml hret hlk hnm hown hh0 W hP
  obtain ⟨rfl, hA, hB, hne, l1, l2, hp⟩ := hP
  have c1 : Steps p.tables e below (s₁.setTop (entryFrame m #[.ref b, .int (Int32.ofNat o), .ref d, .int (Int32.ofNat q), .int (Int32.ofNat len)] 7)) (s₁.setTop (mkF m 0 #[.val (.ref b), .val (.int (Int32.ofNat o)), .val (.ref d), .val (.int (Int32.ofNat q)), .val (.int (Int32.ofNat len)), .unset, .unset] [])) := entry rfl
  have hA0 := hA.1.mv X0.warmed.alike hh0
  have hB0 := hB.mv X0.warmed.alike hh0
  have a31 := hA.1.2.2.2
  have c2 : Steps p.tables e below (s₁.setTop (entryFrame m #[.ref b, .int (Int32.ofNat o), .ref d, .int (Int32.ofNat q), .int (Int32.ofNat len)] 7)) (s₁.setTop (mkF m 3 #[.val (.ref b), .val (.int (Int32.ofNat o)), .val (.ref d), .val (.int (Int32.ofNat q)), .val (.int (Int32.ofNat len)), .val (.int 0), .unset] [])) := c1.trans (by
    refine iconstV X0.here hexec rfl 0 (hb hbytes d0) (by decide) ?_
    refine XS.istore X0.here hexec rfl (hb hbytes d1) rfl rfl ?_
    exact Steps.refl _)
  have loop : ∀ (r i : Nat), i + r = len → ∀ (z : Slot), (z = .unset ∨ ∃ w, z = .val w ∧ w.category = 1) → ∀ (Tl : State) (Bk : Cell), Stand p l e { frames := 0, locals := 0, cells := 0, slots := 0 } s m #[.ref b, .int (Int32.ofNat o), .ref d, .int (Int32.ofNat q), .int (Int32.ofNat len)] below meth c Tl ([] ++ copyLocs d q i) 0 0 → Put d Bk s₁ Tl → Laid B Bk q (q + i) (fun j => Value.int (lo8 (cv A (o + (j - q))))) →
      Steps p.tables e below (s₁.setTop (entryFrame m #[.ref b, .int (Int32.ofNat o), .ref d, .int (Int32.ofNat q), .int (Int32.ofNat len)] 7)) (Tl.setTop (mkF m 3 #[.val (.ref b), .val (.int (Int32.ofNat (o + i))), .val (.ref d), .val (.int (Int32.ofNat (q + i))), .val (.int (Int32.ofNat len)), .val (.int (Int32.ofNat i)), z] [])) → ∃ (T' : State) (B' : Cell) (z' : Slot), Stand p l e { frames := 0, locals := 0, cells := 0, slots := 0 } s m #[.ref b, .int (Int32.ofNat o), .ref d, .int (Int32.ofNat q), .int (Int32.ofNat len)] below meth c T' ([] ++ copyLocs d q len) 0 0 ∧ Put d B' s₁ T' ∧ Laid B B' q (q + len) (fun j => Value.int (lo8 (cv A (o + (j - q))))) ∧
      Steps p.tables e below (s₁.setTop (entryFrame m #[.ref b, .int (Int32.ofNat o), .ref d, .int (Int32.ofNat q), .int (Int32.ofNat len)] 7)) (T'.setTop (mkF m 3 #[.val (.ref b), .val (.int (Int32.ofNat (o + len))), .val (.ref d), .val (.int (Int32.ofNat (q + len))), .val (.int (Int32.ofNat len)), .val (.int (Int32.ofNat len)), z'] [])) := by
    intro r
    induction r with
    | zero =>
      intro i hi z hz Tl Bk Xl pl fl cl
      have hil : i = len := by omega
      rw [hil] at Xl fl cl
      exact ⟨Tl, Bk, z, Xl, pl, fl, cl⟩
    | succ r ih =>
      intro i hi z hz Tl Bk Xl pl fl cl
      have all := X0.warmed.alike.symm.trans Xl.warmed.alike
      have hAl := hA0.keep all (pl.other hne hA0.1)
      have hBk := hB0.like all pl.1 fl.1 fl.2.1 fl.2.2.1
      have hlt : q + i < Bk.slots.size := by rw [fl.2.2.1]; omega
      have c3 : Steps p.tables e below (s₁.setTop (entryFrame m #[.ref b, .int (Int32.ofNat o), .ref d, .int (Int32.ofNat q), .int (Int32.ofNat len)] 7)) (Tl.setTop (mkF m 12 #[.val (.ref b), .val (.int (Int32.ofNat (o + i))), .val (.ref d), .val (.int (Int32.ofNat (q + i))), .val (.int (Int32.ofNat len)), .val (.int (Int32.ofNat i)), z] [.int (Int32.ofNat (o + i)), .ref b])) := cl.trans (by
        refine XS.iload Xl.here hexec rfl (hb hbytes d3) rfl ?_
        refine XS.iload Xl.here hexec rfl (hb hbytes d5) rfl ?_
        refine XS.icmpNo Xl.here hexec rfl (hb hbytes d7) rfl (ii_ge_f (lt32 (by omega) (by omega))) ?_
        refine XS.aloadN Xl.here hexec rfl (hb hbytes d10) rfl rfl ?_
        refine XS.iloadN Xl.here hexec rfl (hb hbytes d11) rfl ?_
        exact Steps.refl _)
      have c4 : Steps p.tables e below (s₁.setTop (entryFrame m #[.ref b, .int (Int32.ofNat o), .ref d, .int (Int32.ofNat q), .int (Int32.ofNat len)] 7)) (Tl.setTop (mkF m 13 #[.val (.ref b), .val (.int (Int32.ofNat (o + i))), .val (.ref d), .val (.int (Int32.ofNat (q + i))), .val (.int (Int32.ofNat len)), .val (.int (Int32.ofNat i)), z] [.int (cv A (o + i))])) := c3.trans (by
        refine Xl.aget hexec hAl rfl (hA.get (i := o + i) (by omega)) rfl rfl (hb hbytes d12) ?_
        exact Steps.refl _)
      have c5 : Steps p.tables e below (s₁.setTop (entryFrame m #[.ref b, .int (Int32.ofNat o), .ref d, .int (Int32.ofNat q), .int (Int32.ofNat len)] 7)) (Tl.setTop (mkF m 15 #[.val (.ref b), .val (.int (Int32.ofNat (o + i))), .val (.ref d), .val (.int (Int32.ofNat (q + i))), .val (.int (Int32.ofNat len)), .val (.int (Int32.ofNat i)), .val (.int (cv A (o + i)))] [])) := c4.trans (by
        refine XS.istoreS Xl.here hexec rfl (hb hbytes d13) rfl rfl hz ?_
        exact Steps.refl _)
      have c6 : Steps p.tables e below (s₁.setTop (entryFrame m #[.ref b, .int (Int32.ofNat o), .ref d, .int (Int32.ofNat q), .int (Int32.ofNat len)] 7)) (Tl.setTop (mkF m 31 #[.val (.ref b), .val (.int (Int32.ofNat (o + i))), .val (.ref d), .val (.int (Int32.ofNat (q + i))), .val (.int (Int32.ofNat len)), .val (.int (Int32.ofNat i)), .val (.int (cv A (o + i)))] [.int (lo8 (cv A (o + i))), .int (Int32.ofNat (q + i)), .ref d])) := c5.trans (by
        refine XS.iload Xl.here hexec rfl (hb hbytes d15) rfl ?_
        refine sipushV Xl.here hexec rfl 255 (hb hbytes d17) (by decide) ?_
        refine XS.icmpYes Xl.here hexec rfl (pc0 := 20) rfl (hb hbytes d20) rfl (ii_le_t (hp i (by omega))) (by decide) rfl ?_
        refine XS.aloadN Xl.here hexec rfl (hb hbytes d26) rfl rfl ?_
        refine XS.iloadN Xl.here hexec rfl (hb hbytes d27) rfl ?_
        refine XS.iload Xl.here hexec rfl (hb hbytes d28) rfl ?_
        refine i2b Xl.here hexec rfl (hb hbytes d30) rfl ?_
        exact Steps.refl _)
      obtain ⟨T7, X7, p7, st7⟩ := Xl.aput hexec hBk rfl hlt rfl (fits_lo8 (cv A (o + i))) (g := (mkF m 31 #[.val (.ref b), .val (.int (Int32.ofNat (o + i))), .val (.ref d), .val (.int (Int32.ofNat (q + i))), .val (.int (Int32.ofNat len)), .val (.int (Int32.ofNat i)), .val (.int (cv A (o + i)))] [.int (lo8 (cv A (o + i))), .int (Int32.ofNat (q + i)), .ref d])) rfl (rest := []) rfl (hb hbytes d31)
      have c8 : Steps p.tables e below (s₁.setTop (entryFrame m #[.ref b, .int (Int32.ofNat o), .ref d, .int (Int32.ofNat q), .int (Int32.ofNat len)] 7)) (T7.setTop (mkF m 32 #[.val (.ref b), .val (.int (Int32.ofNat (o + i))), .val (.ref d), .val (.int (Int32.ofNat (q + i))), .val (.int (Int32.ofNat len)), .val (.int (Int32.ofNat i)), .val (.int (cv A (o + i)))] [])) := c6.trans (st7 _ (Steps.refl _))
      have c9 : Steps p.tables e below (s₁.setTop (entryFrame m #[.ref b, .int (Int32.ofNat o), .ref d, .int (Int32.ofNat q), .int (Int32.ofNat len)] 7)) (T7.setTop (mkF m 3 #[.val (.ref b), .val (.int (Int32.ofNat (o + i) + 1)), .val (.ref d), .val (.int (Int32.ofNat (q + i) + 1)), .val (.int (Int32.ofNat len)), .val (.int (Int32.ofNat i + 1)), .val (.int (cv A (o + i)))] [])) := c8.trans (by
        refine iincV X7.here hexec rfl 1 (hb hbytes d32) (by decide) rfl rfl ?_
        refine iincV X7.here hexec rfl 1 (hb hbytes d35) (by decide) rfl rfl ?_
        refine iincV X7.here hexec rfl 1 (hb hbytes d38) (by decide) rfl rfl ?_
        refine XS.goto X7.here hexec rfl (pc0 := 41) rfl (hb hbytes d41) (by decide) rfl ?_
        exact Steps.refl _)
      have c10 : Steps p.tables e below (s₁.setTop (entryFrame m #[.ref b, .int (Int32.ofNat o), .ref d, .int (Int32.ofNat q), .int (Int32.ofNat len)] 7)) (T7.setTop (mkF m 3 #[.val (.ref b), .val (.int (Int32.ofNat (o + (i + 1)))), .val (.ref d), .val (.int (Int32.ofNat (q + (i + 1)))), .val (.int (Int32.ofNat len)), .val (.int (Int32.ofNat (i + 1))), .val (.int (cv A (o + i)))] [])) := by
        have := c9
        rw [succ32, succ32, succ32] at this
        exact this
      exact ih (i + 1) (by omega) _ (Or.inr ⟨_, rfl, rfl⟩) T7 _ (by rw [copyLocs_step, ← List.append_assoc]; exact X7) (pl.trans p7) (fl.step (by omega) hlt (by simp)) c10
  obtain ⟨T9, B9, z9, X9, p9, f9, g9⟩ := loop len 0 (by omega) .unset (Or.inl rfl) s₁ B (by simpa [copyLocs] using X0) ⟨hB0.1, fun _ _ => rfl, rfl⟩ (Laid.zero _ _ _) c2
  have c11 : Steps p.tables e below (s₁.setTop (entryFrame m #[.ref b, .int (Int32.ofNat o), .ref d, .int (Int32.ofNat q), .int (Int32.ofNat len)] 7)) (T9.setTop (mkF m 46 #[.val (.ref b), .val (.int (Int32.ofNat (o + len))), .val (.ref d), .val (.int (Int32.ofNat (q + len))), .val (.int (Int32.ofNat len)), .val (.int (Int32.ofNat len)), z9] [.int (Int32.ofNat len)])) := g9.trans (by
    refine XS.iload X9.here hexec rfl (hb hbytes d3) rfl ?_
    refine XS.iload X9.here hexec rfl (hb hbytes d5) rfl ?_
    refine XS.icmpYes X9.here hexec rfl (pc0 := 7) rfl (hb hbytes d7) rfl (ii_ge_t (nlt32 (by omega) (Nat.le_refl _))) (by decide) rfl ?_
    refine XS.iload X9.here hexec rfl (hb hbytes d44) rfl ?_
    exact Steps.refl _)
  exact ⟨T9, some (.int (Int32.ofNat len)), _, _, _, X9, by simp, rfl, rfl, (fun h => by cases h), ⟨rfl, B9, p9.from hh0, f9⟩, fun fs hl => c11.trans (X9.ireturnOut hexec hret rfl (Or.inl rfl) (hb hbytes d46) hl)⟩
end Cmp5
namespace Cmp3
def yN : MethodName := ⟨"java/lang/StringUTF16", "compress", "([CII)[B"⟩
abbrev yB : ByteArray := jdk_52_method_16_code
theorem d0 : decode yB 0 = .ok (.iload_n 2, 1) := by decide +kernel
theorem d1 : decode yB 1 = .ok (.newarray .byte, 2) := by decide +kernel
theorem d3 : decode yB 3 = .ok (.astore_n 3, 1) := by decide +kernel
theorem d4 : decode yB 4 = .ok (.aload_n 0, 1) := by decide +kernel
theorem d5 : decode yB 5 = .ok (.iload_n 1, 1) := by decide +kernel
theorem d6 : decode yB 6 = .ok (.aload_n 3, 1) := by decide +kernel
theorem d7 : decode yB 7 = .ok (.iconst 0, 1) := by decide +kernel
theorem d8 : decode yB 8 = .ok (.iload_n 2, 1) := by decide +kernel
theorem d9 : decode yB 9 = .ok (.invokestatic 115, 3) := by decide +kernel
theorem d12 : decode yB 12 = .ok (.istore 4, 2) := by decide +kernel
theorem d14 : decode yB 14 = .ok (.iload 4, 2) := by decide +kernel
theorem d16 : decode yB 16 = .ok (.iload_n 2, 1) := by decide +kernel
theorem d17 : decode yB 17 = .ok (.if_icmp (.eq) 40, 3) := by decide +kernel
theorem d57 : decode yB 57 = .ok (.aload_n 3, 1) := by decide +kernel
theorem d58 : decode yB 58 = .ok (.areturn, 1) := by decide +kernel
def site : List Cond := [.arrayClass .byte, Cmp5.tab] ++ staticW U16 115 Cmp5.yN
def tab : Cond := tabOf yN yB 6 (some (.array .byte)) site
def P (b : Addr) (A : Cell) (o len : Nat) (args : Array Value) (s : State) : Prop := args = #[.ref b, .int (Int32.ofNat o), .int (Int32.ofNat len)] ∧ Ch b A s ∧ o + len ≤ A.slots.size ∧ len ≤ 536870912 ∧ ∀ i, i < len → ¬ 255 < cv A (o + i)
def E (b : Addr) (A : Cell) (o len : Nat) (r : Option Value) (s u : State) : Prop := NewArr .byte "[B" len (fun j => .int (lo8 (cv A (o + j)))) r s u ∧ u.heap.size = s.heap.size + 1
/-- no char of the range above 255: a new byte[] of their low bytes -/
theorem law (l : Launch) (b : Addr) (A : Cell) (o len : Nat) : Law l yN 3 3 1 18 yB 6 (some (.array .byte)) site (P b A o len) (E b A o len) [] 1 len := by
  refine Law.of_walk (plainFor_of_name (by decide +kernel)) (by decide +kernel) (by decide +kernel) (by decide) (fun _ _ h => by rw [h.1]; rfl) (fun _ U U' hal hh h => ⟨h.1, h.2.1.mv hal hh, h.2.2⟩) (fun r U U' V V' h1 hal h2 h => ⟨NewArr.mv r U U' V V' h1 hal h2 h.1, by rw [h1, h2]; exact h.2⟩) ?_
  intro p e s m args below meth c s₁ X0 hexec hbytes hml hret hlk hnm hown hh0 W hP
  obtain ⟨rfl, hA, l1, l2, hp⟩ := hP
  have a31 := hA.1.2.2.2
  have c1 : Steps p.tables e below (s₁.setTop (entryFrame m #[.ref b, .int (Int32.ofNat o), .int (Int32.ofNat len)] 6)) (s₁.setTop (mkF m 0 #[.val (.ref b), .val (.int (Int32.ofNat o)), .val (.int (Int32.ofNat len)), .unset, .unset, .unset] [])) := entry rfl
  have c2 : Steps p.tables e below (s₁.setTop (entryFrame m #[.ref b, .int (Int32.ofNat o), .int (Int32.ofNat len)] 6)) (s₁.setTop (mkF m 1 #[.val (.ref b), .val (.int (Int32.ofNat o)), .val (.int (Int32.ofNat len)), .unset, .unset, .unset] [.int (Int32.ofNat len)])) := c1.trans (by
    refine XS.iloadN X0.here hexec rfl (hb hbytes d0) rfl ?_
    exact Steps.refl _)
  obtain ⟨T3, B3, X3, ba3, bs3, bv3, bh3, bf3, st3⟩ := X0.anew hexec (atype := .byte) (wk W (.arrayClass .byte)) rfl (by show len * 1 ≤ _; omega) (by omega) (g := (mkF m 1 #[.val (.ref b), .val (.int (Int32.ofNat o)), .val (.int (Int32.ofNat len)), .unset, .unset, .unset] [.int (Int32.ofNat len)])) rfl (hb hbytes d1) (rest := []) rfl (Nat.le_refl _) (by show 0 + len ≤ len; omega)
  rw [hh0] at ba3 st3
  have kp3 : XT.Kept s T3 := (XT.Kept.of_eq hh0).push bh3
  have hA3 := hA.keep X3.warmed.alike (kp3 _ _ hA.1.1)
  have hne : b ≠ s.heap.size := hA.1.ne
  have c4 : Steps p.tables e below (s₁.setTop (entryFrame m #[.ref b, .int (Int32.ofNat o), .int (Int32.ofNat len)] 6)) (T3.setTop (mkF m 3 #[.val (.ref b), .val (.int (Int32.ofNat o)), .val (.int (Int32.ofNat len)), .unset, .unset, .unset] [.ref s.heap.size])) := c2.trans (st3 _ (Steps.refl _))
  have c5 : Steps p.tables e below (s₁.setTop (entryFrame m #[.ref b, .int (Int32.ofNat o), .int (Int32.ofNat len)] 6)) (T3.setTop (mkF m 9 #[.val (.ref b), .val (.int (Int32.ofNat o)), .val (.int (Int32.ofNat len)), .val (.ref s.heap.size), .unset, .unset] [.int (Int32.ofNat len), .int 0, .ref s.heap.size, .int (Int32.ofNat o), .ref b])) := c4.trans (by
    refine XS.astoreN X3.here hexec rfl (hb hbytes d3) rfl rfl rfl ?_
    refine XS.aloadN X3.here hexec rfl (hb hbytes d4) rfl rfl ?_
    refine XS.iloadN X3.here hexec rfl (hb hbytes d5) rfl ?_
    refine XS.aloadN X3.here hexec rfl (hb hbytes d6) rfl rfl ?_
    refine iconstV X3.here hexec rfl 0 (hb hbytes d7) (by decide) ?_
    refine XS.iloadN X3.here hexec rfl (hb hbytes d8) rfl ?_
    exact Steps.refl _)
  obtain ⟨v6, T6, X6, E6, g6⟩ := X3.callS hexec (Cmp5.law l b A s.heap.size B3 o 0 len) hown (wks W (staticW U16 115 Cmp5.yN)) (wk W Cmp5.tab) (W := 0) (Nat.le_of_ble_eq_true rfl) (Nat.le_of_ble_eq_true rfl) (Nat.le_refl _) (by show 0 + len + 0 ≤ len; omega) (g := (mkF m 9 #[.val (.ref b), .val (.int (Int32.ofNat o)), .val (.int (Int32.ofNat len)), .val (.ref s.heap.size), .unset, .unset] [.int (Int32.ofNat len), .int (Int32.ofNat 0), .ref s.heap.size, .int (Int32.ofNat o), .ref b])) rfl (by rw [hml]; rfl) c5 (argsL := [.ref b, .int (Int32.ofNat o), .ref s.heap.size, .int (Int32.ofNat 0), .int (Int32.ofNat len)]) (rest := []) rfl rfl (by show 2 * 0 + 0 ≤ _; decide) (hb hbytes d9) (⟨rfl, hA3, ba3, hne, l1, by rw [bs3]; simp, hp⟩)
  obtain ⟨rfl, B6, p6, f6⟩ := E6
  have c7 : Steps p.tables e below (s₁.setTop (entryFrame m #[.ref b, .int (Int32.ofNat o), .int (Int32.ofNat len)] 6)) (T6.setTop (mkF m 12 #[.val (.ref b), .val (.int (Int32.ofNat o)), .val (.int (Int32.ofNat len)), .val (.ref s.heap.size), .unset, .unset] [.int (Int32.ofNat len)])) := g6
  have c8 : Steps p.tables e below (s₁.setTop (entryFrame m #[.ref b, .int (Int32.ofNat o), .int (Int32.ofNat len)] 6)) (T6.setTop (mkF m 58 #[.val (.ref b), .val (.int (Int32.ofNat o)), .val (.int (Int32.ofNat len)), .val (.ref s.heap.size), .val (.int (Int32.ofNat len)), .unset] [.ref s.heap.size])) := c7.trans (by
    refine XS.istore X6.here hexec rfl (hb hbytes d12) rfl rfl ?_
    refine XS.iload X6.here hexec rfl (hb hbytes d14) rfl ?_
    refine XS.iloadN X6.here hexec rfl (hb hbytes d16) rfl ?_
    refine XS.icmpYes X6.here hexec rfl (pc0 := 17) rfl (hb hbytes d17) rfl (ii_eq_t rfl) (by decide) rfl ?_
    refine XS.aloadN X6.here hexec rfl (hb hbytes d57) rfl rfl ?_
    exact Steps.refl _)
  have X8 := X6.wide (L' := []) (cells' := 1) (slots' := len) (fun x hx hlt => by
    simp only [List.nil_append, copyLocs, List.mem_map, List.mem_range] at hx
    obtain ⟨i, -, rfl⟩ := hx
    exact absurd hlt (Nat.lt_irrefl _)) (Nat.le_refl _) (by omega)
  exact ⟨T6, some (.ref s.heap.size), _, _, _, X8, rfl, rfl, rfl, (fun h => by cases h), ⟨⟨rfl, B6, ba3.like (X3.warmed.alike.symm.trans X6.warmed.alike) p6.1 f6.1 f6.2.1 f6.2.2.1, f6.2.1.trans bv3, by rw [X6.warmed.alike.findClass, f6.1]; exact bf3, by rw [f6.2.2.1, bs3]; simp, fun j hj => by rw [f6.2.2.2 j, if_pos (by omega)]; rfl, kp3.put p6 (Nat.le_refl _)⟩, by rw [p6.2.2, bh3, hh0]; simp⟩, fun fs hl => c8.trans (X8.areturnOut hexec rfl hret rfl (hb hbytes d58) hl)⟩
end Cmp3
namespace CodL
def yN : MethodName := ⟨"java/lang/StringUTF16", "coderFromArrayLen", "([BI)B"⟩
abbrev yB : ByteArray := jdk_52_method_15_code
theorem d0 : decode yB 0 = .ok (.iload_n 1, 1) := by decide +kernel
theorem d1 : decode yB 1 = .ok (.aload_n 0, 1) := by decide +kernel
theorem d2 : decode yB 2 = .ok (.arraylength, 1) := by decide +kernel
theorem d3 : decode yB 3 = .ok (.isub, 1) := by decide +kernel
theorem d4 : decode yB 4 = .ok (.bipush 31, 2) := by decide +kernel
theorem d6 : decode yB 6 = .ok (.iushr, 1) := by decide +kernel
theorem d7 : decode yB 7 = .ok (.i2b, 1) := by decide +kernel
theorem d8 : decode yB 8 = .ok (.ireturn, 1) := by decide +kernel
def site : List Cond := []
def tab : Cond := tabOf yN yB 2 (some .byte) site
def P (d : Addr) (B : Cell) (args : Array Value) (s : State) : Prop := args = #[.ref d, .int (Int32.ofNat B.slots.size)] ∧ Arr .byte d B s
def E (r : Option Value) (s u : State) : Prop := XT.PureE (some (.int 0)) r s u
/-- an array as long as the number of chars: LATIN1 -/
theorem law (l : Launch) (d : Addr) (B : Cell) : Law l yN 2 2 0 0 yB 2 (some .byte) site (P d B) E [] 0 0 := by
  refine Law.of_walk (plainFor_of_name (by decide +kernel)) (by decide +kernel) (by decide +kernel) (by decide) (fun _ _ h => by rw [h.1]; rfl) (fun _ U U' hal hh h => ⟨h.1, h.2.mv hal hh⟩) (fun r U U' V V' h1 hal h2 h => XT.PureE.mv r U U' V V' h1 hal h2 h) ?_
  intro p e s m args below meth c s₁ X0 hexec hbytes hml hret hlk hnm hown hh0 W hP
  obtain ⟨rfl, hB⟩ := hP
  have hB0 := hB.mv X0.warmed.alike hh0
  have c1 : Steps p.tables e below (s₁.setTop (entryFrame m #[.ref d, .int (Int32.ofNat B.slots.size)] 2)) (s₁.setTop (mkF m 0 #[.val (.ref d), .val (.int (Int32.ofNat B.slots.size))] [])) := entry rfl
  have c2 : Steps p.tables e below (s₁.setTop (entryFrame m #[.ref d, .int (Int32.ofNat B.slots.size)] 2)) (s₁.setTop (mkF m 2 #[.val (.ref d), .val (.int (Int32.ofNat B.slots.size))] [.ref d, .int (Int32.ofNat B.slots.size)])) := c1.trans (by
    refine XS.iloadN X0.here hexec rfl (hb hbytes d0) rfl ?_
    refine XS.aloadN X0.here hexec rfl (hb hbytes d1) rfl rfl ?_
    exact Steps.refl _)
  have c3 : Steps p.tables e below (s₁.setTop (entryFrame m #[.ref d, .int (Int32.ofNat B.slots.size)] 2)) (s₁.setTop (mkF m 8 #[.val (.ref d), .val (.int (Int32.ofNat B.slots.size))] [.int (lo8 (ushr (Int32.ofNat B.slots.size - Int32.ofNat B.slots.size) 31))])) := c2.trans (by
    refine X0.alen hexec hB0 rfl rfl (hb hbytes d2) ?_
    refine XS.isub X0.here hexec rfl (hb hbytes d3) rfl ?_
    refine bipushV X0.here hexec rfl 31 (hb hbytes d4) (by decide) ?_
    refine iushr X0.here hexec rfl (hb hbytes d6) rfl ?_
    refine i2b X0.here hexec rfl (hb hbytes d7) rfl ?_
    exact Steps.refl _)
  have e0 : lo8 (ushr (Int32.ofNat B.slots.size - Int32.ofNat B.slots.size) 31) = 0 := by rw [Int32.sub_self]; decide
  rw [e0] at c3
  exact ⟨s₁, some (.int 0), _, _, _, X0, rfl, rfl, rfl, (fun h => by cases h), ⟨rfl, hh0⟩, fun fs hl => c3.trans (X0.ireturnOut hexec hret rfl (Or.inr (Or.inr (Or.inl rfl))) (hb hbytes d8) hl)⟩
end CodL
/-- the String at a is Latin-1 over a new byte[] (the heap's one new cell): the low bytes of the len chars of A from o on; every cell but a is kept -/
def Got (a : Addr) (D : Cell) (fV fC : Field) (A : Cell) (o len : Nat) (r : Option Value) (s u : State) : Prop := r = none ∧ ∃ D' V : Cell, Blank "java/lang/String" a D' u ∧ Same D D' [fV.slot, fC.slot] ∧ D'.slots[fV.slot]? = some (.ref s.heap.size) ∧ D'.slots[fC.slot]? = some (.int 0) ∧ Arr .byte s.heap.size V u ∧ V.vm = .none ∧ u.vm.findClass "[B" = some V.cls ∧ V.slots.size = len ∧ (∀ j, j < len → V.slots[j]? = some (.int (lo8 (cv A (o + j))))) ∧ (∀ (y : Addr) (c : Cell), y ≠ a → s.heap[y]? = some c → u.heap[y]? = some c) ∧ u.heap.size = s.heap.size + 1
theorem Got.mv {a : Addr} {D A : Cell} {fV fC : Field} {o len : Nat} : ∀ r (U U' V V' : State), U'.heap = U.heap → V.vm.Alike V'.vm → V'.heap = V.heap → Got a D fV fC A o len r U V → Got a D fV fC A o len r U' V' :=
  fun r U U' V V' h1 hal h2 ⟨e0, D', X, a1, a2, a3, a4, a5, a6, a7, a8, a9, a10, a11⟩ => ⟨e0, D', X, a1.mv hal h2, a2, by rw [h1]; exact a3, a4, by rw [h1]; exact a5.mv hal h2, a6, by rw [hal.findClass]; exact a7, a8, a9, by rw [h1, h2]; exact a10, by rw [h1, h2]; exact a11⟩
namespace New4
def yN : MethodName := ⟨"java/lang/String", "<init>", "([CIILjava/lang/Void;)V"⟩
abbrev yB : ByteArray := jdk_42_method_149_code
theorem d0 : decode yB 0 = .ok (.aload_n 0, 1) := by decide +kernel
theorem d1 : decode yB 1 = .ok (.invokespecial 1, 3) := by decide +kernel
theorem d4 : decode yB 4 = .ok (.iload_n 3, 1) := by decide +kernel
theorem d5 : decode yB 5 = .ok (.ifCond (.ne) 22, 3) := by decide +kernel
theorem d27 : decode yB 27 = .ok (.getstatic 38, 3) := by decide +kernel
theorem d30 : decode yB 30 = .ok (.ifCond (.eq) 28, 3) := by decide +kernel
theorem d33 : decode yB 33 = .ok (.aload_n 1, 1) := by decide +kernel
theorem d34 : decode yB 34 = .ok (.iload_n 2, 1) := by decide +kernel
theorem d35 : decode yB 35 = .ok (.iload_n 3, 1) := by decide +kernel
theorem d36 : decode yB 36 = .ok (.invokestatic 177, 3) := by decide +kernel
theorem d39 : decode yB 39 = .ok (.astore 5, 2) := by decide +kernel
theorem d41 : decode yB 41 = .ok (.aload_n 0, 1) := by decide +kernel
theorem d42 : decode yB 42 = .ok (.aload 5, 2) := by decide +kernel
theorem d44 : decode yB 44 = .ok (.iload_n 3, 1) := by decide +kernel
theorem d45 : decode yB 45 = .ok (.invokestatic 47, 3) := by decide +kernel
theorem d48 : decode yB 48 = .ok (.putfield 15, 3) := by decide +kernel
theorem d51 : decode yB 51 = .ok (.aload_n 0, 1) := by decide +kernel
theorem d52 : decode yB 52 = .ok (.aload 5, 2) := by decide +kernel
theorem d54 : decode yB 54 = .ok (.putfield 9, 3) := by decide +kernel
theorem d57 : decode yB 57 = .ok (.return_, 1) := by decide +kernel
def site : List Cond := [.fieldLink "java/lang/String" 38 "java/lang/String" "COMPACT_STRINGS" "Z", Cmp3.tab, CodL.tab, .laysFinal "java/lang/String" "java/lang/String" "value" "[B", .fieldLink "java/lang/String" 9 "java/lang/String" "value" "[B", .laysFinal "java/lang/String" "java/lang/String" "coder" "B", .fieldLink "java/lang/String" 15 "java/lang/String" "coder" "B"] ++ objW "java/lang/String" 1 ++ staticW "java/lang/String" 177 Cmp3.yN ++ staticW "java/lang/String" 47 CodL.yN
def tab : Cond := tabOf yN yB 6 none site
def P (a : Addr) (D : Cell) (fV fC : Field) (b : Addr) (A : Cell) (z : Int32) (o len : Nat) (args : Array Value) (s : State) : Prop := args = #[.ref a, .ref b, .int (Int32.ofNat o), .int (Int32.ofNat len), .null] ∧ Blank "java/lang/String" a D s ∧ Found "java/lang/String" "value" "[B" fV s ∧ Found "java/lang/String" "coder" "B" fC s ∧ Ch b A s ∧ StaticIs s "java/lang/String" "COMPACT_STRINGS" "Z" (.int z) ∧ ¬ z = 0 ∧ 0 < len ∧ o + len ≤ A.slots.size ∧ len ≤ 536870912 ∧ ∀ i, i < len → ¬ 255 < cv A (o + i)
def E (a : Addr) (D : Cell) (fV fC : Field) (A : Cell) (o len : Nat) (r : Option Value) (s u : State) : Prop := Got a D fV fC A o len r s u
/-- len > 0, no char of the range above 255: a Latin-1 String of their low bytes -/
theorem law (l : Launch) (a : Addr) (D : Cell) (fV fC : Field) (b : Addr) (A : Cell) (z : Int32) (o len : Nat) : Law l yN 5 4 2 35 yB 6 none site (P a D fV fC b A z o len) (E a D fV fC A o len) [⟨a, fC.slot⟩, ⟨a, fV.slot⟩] 1 len := by
  refine Law.of_walk (plainFor_of_name (by decide +kernel)) (by decide +kernel) (by decide +kernel) (by decide) (fun _ _ h => by rw [h.1]; rfl) (fun _ U U' hal hh h => ⟨h.1, h.2.1.mv hal hh, h.2.2.1.al hal, h.2.2.2.1.al hal, h.2.2.2.2.1.mv hal hh, h.2.2.2.2.2.1.there hal hh, h.2.2.2.2.2.2⟩) (fun r U U' V V' h1 hal h2 h => Got.mv r U U' V V' h1 hal h2 h) ?_
  intro p e s m args below meth c s₁ X0 hexec hbytes hml hret hlk hnm hown hh0 W hP
  obtain ⟨rfl, hB, f1, f2, hA, s1, hz, l0, l1, l2, hp⟩ := hP
  have a31 := hA.1.2.2.2
  have c1 : Steps p.tables e below (s₁.setTop (entryFrame m #[.ref a, .ref b, .int (Int32.ofNat o), .int (Int32.ofNat len), .null] 6)) (s₁.setTop (mkF m 0 #[.val (.ref a), .val (.ref b), .val (.int (Int32.ofNat o)), .val (.int (Int32.ofNat len)), .val .null, .unset] [])) := entry rfl
  have c2 : Steps p.tables e below (s₁.setTop (entryFrame m #[.ref a, .ref b, .int (Int32.ofNat o), .int (Int32.ofNat len), .null] 6)) (s₁.setTop (mkF m 1 #[.val (.ref a), .val (.ref b), .val (.int (Int32.ofNat o)), .val (.int (Int32.ofNat len)), .val .null, .unset] [.ref a])) := c1.trans (by
    refine XS.aloadN X0.here hexec rfl (hb hbytes d0) rfl rfl ?_
    exact Steps.refl _)
  obtain ⟨T3, X3, q3, st3⟩ := X0.oinit hexec hown (wks W (objW "java/lang/String" 1)) (g := (mkF m 1 #[.val (.ref a), .val (.ref b), .val (.int (Int32.ofNat o)), .val (.int (Int32.ofNat len)), .val .null, .unset] [.ref a])) rfl (by rw [hml]; rfl) (rest := []) rfl (hb hbytes d1) (W := 0) (by show 2 * 0 + 0 ≤ _; decide) (Nat.le_of_ble_eq_true rfl) (Nat.le_of_ble_eq_true rfl)
  have hh3 := q3.trans hh0
  have c4 : Steps p.tables e below (s₁.setTop (entryFrame m #[.ref a, .ref b, .int (Int32.ofNat o), .int (Int32.ofNat len), .null] 6)) (T3.setTop (mkF m 27 #[.val (.ref a), .val (.ref b), .val (.int (Int32.ofNat o)), .val (.int (Int32.ofNat len)), .val .null, .unset] [])) := (c2.trans (st3 _ (Steps.refl _))).trans (by
    refine XS.iloadN X3.here hexec rfl (hb hbytes d4) rfl ?_
    refine XS.ifYes X3.here hexec rfl (pc0 := 5) rfl (hb hbytes d5) rfl (i0_ne_t (nz32 (by omega) l0)) (by decide) rfl ?_
    exact Steps.refl _)
  obtain ⟨T5, X5, q5, st5⟩ := X3.sget hexec hown (wk W (.fieldLink "java/lang/String" 38 "java/lang/String" "COMPACT_STRINGS" "Z")) s1 (fun _ _ h => by rw [hh3]; exact h) (g := (mkF m 27 #[.val (.ref a), .val (.ref b), .val (.int (Int32.ofNat o)), .val (.int (Int32.ofNat len)), .val .null, .unset] [])) rfl (hb hbytes d27)
  have hh5 := q5.trans hh3
  have c6 : Steps p.tables e below (s₁.setTop (entryFrame m #[.ref a, .ref b, .int (Int32.ofNat o), .int (Int32.ofNat len), .null] 6)) (T5.setTop (mkF m 30 #[.val (.ref a), .val (.ref b), .val (.int (Int32.ofNat o)), .val (.int (Int32.ofNat len)), .val .null, .unset] [.int z])) := c4.trans (st5 _ (Steps.refl _))
  have c7 : Steps p.tables e below (s₁.setTop (entryFrame m #[.ref a, .ref b, .int (Int32.ofNat o), .int (Int32.ofNat len), .null] 6)) (T5.setTop (mkF m 36 #[.val (.ref a), .val (.ref b), .val (.int (Int32.ofNat o)), .val (.int (Int32.ofNat len)), .val .null, .unset] [.int (Int32.ofNat len), .int (Int32.ofNat o), .ref b])) := c6.trans (by
    refine XS.ifNo X5.here hexec rfl (hb hbytes d30) rfl (i0_eq_f hz) ?_
    refine XS.aloadN X5.here hexec rfl (hb hbytes d33) rfl rfl ?_
    refine XS.iloadN X5.here hexec rfl (hb hbytes d34) rfl ?_
    refine XS.iloadN X5.here hexec rfl (hb hbytes d35) rfl ?_
    exact Steps.refl _)
  obtain ⟨v8, T8, X8, E8, g8⟩ := X5.callS hexec (Cmp3.law l b A o len) hown (wks W (staticW "java/lang/String" 177 Cmp3.yN)) (wk W Cmp3.tab) (W := 0) (Nat.le_of_ble_eq_true rfl) (Nat.le_of_ble_eq_true rfl) (Nat.le_refl _) (by show 0 + len ≤ len; omega) (g := (mkF m 36 #[.val (.ref a), .val (.ref b), .val (.int (Int32.ofNat o)), .val (.int (Int32.ofNat len)), .val .null, .unset] [.int (Int32.ofNat len), .int (Int32.ofNat o), .ref b])) rfl (by rw [hml]; rfl) c7 (argsL := [.ref b, .int (Int32.ofNat o), .int (Int32.ofNat len)]) (rest := []) rfl rfl (by show 2 * 0 + 0 ≤ _; decide) (hb hbytes d36) (⟨rfl, hA.mv X5.warmed.alike hh5, l1, l2, hp⟩)
  obtain ⟨e8, z8⟩ := E8
  obtain ⟨rfl, N, n1, n2, n3, n4, n5, n6⟩ := NewArr.mv _ T5 s _ _ hh5.symm (Vm.Alike.refl _) rfl e8
  rw [hh5] at z8
  have hB1 := hB.keep X8.warmed.alike (n6 _ _ hB.1)
  have hne : s.heap.size ≠ a := (Nat.ne_of_lt (Array.getElem?_eq_some_iff.mp hB.1).1).symm
  have c9 : Steps p.tables e below (s₁.setTop (entryFrame m #[.ref a, .ref b, .int (Int32.ofNat o), .int (Int32.ofNat len), .null] 6)) (T8.setTop (mkF m 39 #[.val (.ref a), .val (.ref b), .val (.int (Int32.ofNat o)), .val (.int (Int32.ofNat len)), .val .null, .unset] [.ref s.heap.size])) := g8
  have c10 : Steps p.tables e below (s₁.setTop (entryFrame m #[.ref a, .ref b, .int (Int32.ofNat o), .int (Int32.ofNat len), .null] 6)) (T8.setTop (mkF m 45 #[.val (.ref a), .val (.ref b), .val (.int (Int32.ofNat o)), .val (.int (Int32.ofNat len)), .val .null, .val (.ref s.heap.size)] [.int (Int32.ofNat N.slots.size), .ref s.heap.size, .ref a])) := by
    have hc : Steps p.tables e below (s₁.setTop (entryFrame m #[.ref a, .ref b, .int (Int32.ofNat o), .int (Int32.ofNat len), .null] 6)) (T8.setTop (mkF m 45 #[.val (.ref a), .val (.ref b), .val (.int (Int32.ofNat o)), .val (.int (Int32.ofNat len)), .val .null, .val (.ref s.heap.size)] [.int (Int32.ofNat len), .ref s.heap.size, .ref a])) := c9.trans (by
      refine XS.astore X8.here hexec rfl (hb hbytes d39) rfl rfl rfl ?_
      refine XS.aloadN X8.here hexec rfl (hb hbytes d41) rfl rfl ?_
      refine XS.aload X8.here hexec rfl (hb hbytes d42) rfl rfl ?_
      refine XS.iloadN X8.here hexec rfl (hb hbytes d44) rfl ?_
      exact Steps.refl _)
    rw [n4]; exact hc
  obtain ⟨v11, T11, X11, E11, g11⟩ := X8.callS hexec (CodL.law l s.heap.size N) hown (wks W (staticW "java/lang/String" 47 CodL.yN)) (wk W CodL.tab) (W := 1) (Nat.le_of_ble_eq_true rfl) (Nat.le_of_ble_eq_true rfl) (Nat.le_refl _) (by show 0 + len + 0 ≤ len; omega) (g := (mkF m 45 #[.val (.ref a), .val (.ref b), .val (.int (Int32.ofNat o)), .val (.int (Int32.ofNat len)), .val .null, .val (.ref s.heap.size)] [.int (Int32.ofNat N.slots.size), .ref s.heap.size, .ref a])) rfl (by rw [hml]; rfl) c10 (argsL := [.ref s.heap.size, .int (Int32.ofNat N.slots.size)]) (rest := [.ref a]) rfl rfl (by show 2 * 0 + (1 + 0) ≤ _; decide) (hb hbytes d45) (⟨rfl, n1⟩)
  obtain ⟨rfl, q11⟩ := E11
  have hB11 := hB1.mv (X8.warmed.alike.symm.trans X11.warmed.alike) q11
  have c12 : Steps p.tables e below (s₁.setTop (entryFrame m #[.ref a, .ref b, .int (Int32.ofNat o), .int (Int32.ofNat len), .null] 6)) (T11.setTop (mkF m 48 #[.val (.ref a), .val (.ref b), .val (.int (Int32.ofNat o)), .val (.int (Int32.ofNat len)), .val .null, .val (.ref s.heap.size)] [.int 0, .ref a])) := g11
  obtain ⟨T13, X13, p13, bl13, sl13, st13⟩ := X11.finit hexec hown (wk W (.fieldLink "java/lang/String" 15 "java/lang/String" "coder" "B")) (Or.inr ⟨_, (wk W (.laysFinal "java/lang/String" "java/lang/String" "coder" "B"))⟩) (Or.inl ⟨rfl, hnm⟩) f2 (Or.inl rfl) hB11 (t := .byte) (by decide +kernel) rfl (g := (mkF m 48 #[.val (.ref a), .val (.ref b), .val (.int (Int32.ofNat o)), .val (.int (Int32.ofNat len)), .val .null, .val (.ref s.heap.size)] [.int 0, .ref a])) rfl (rest := []) rfl (hb hbytes d48)
  have c14 : Steps p.tables e below (s₁.setTop (entryFrame m #[.ref a, .ref b, .int (Int32.ofNat o), .int (Int32.ofNat len), .null] 6)) (T13.setTop (mkF m 54 #[.val (.ref a), .val (.ref b), .val (.int (Int32.ofNat o)), .val (.int (Int32.ofNat len)), .val .null, .val (.ref s.heap.size)] [.ref s.heap.size, .ref a])) := (c12.trans (st13 _ (Steps.refl _))).trans (by
    refine XS.aloadN X13.here hexec rfl (hb hbytes d51) rfl rfl ?_
    refine XS.aload X13.here hexec rfl (hb hbytes d52) rfl rfl ?_
    exact Steps.refl _)
  obtain ⟨T15, X15, p15, bl15, sl15, st15⟩ := X13.finit hexec hown (wk W (.fieldLink "java/lang/String" 9 "java/lang/String" "value" "[B")) (Or.inr ⟨_, (wk W (.laysFinal "java/lang/String" "java/lang/String" "value" "[B"))⟩) (Or.inl ⟨rfl, hnm⟩) f1 (Or.inl rfl) bl13 (t := (.array .byte)) (by decide +kernel) rfl (g := (mkF m 54 #[.val (.ref a), .val (.ref b), .val (.int (Int32.ofNat o)), .val (.int (Int32.ofNat len)), .val .null, .val (.ref s.heap.size)] [.ref s.heap.size, .ref a])) rfl (rest := []) rfl (hb hbytes d54)
  have c16 : Steps p.tables e below (s₁.setTop (entryFrame m #[.ref a, .ref b, .int (Int32.ofNat o), .int (Int32.ofNat len), .null] 6)) (T15.setTop (mkF m 57 #[.val (.ref a), .val (.ref b), .val (.int (Int32.ofNat o)), .val (.int (Int32.ofNat len)), .val .null, .val (.ref s.heap.size)] [])) := c14.trans (st15 _ (Steps.refl _))
  have ap := apart (Or.inr ⟨_, (wk W (.laysFinal "java/lang/String" "java/lang/String" "value" "[B"))⟩) (Or.inr ⟨_, (wk W (.laysFinal "java/lang/String" "java/lang/String" "coder" "B"))⟩) f1 f2 (t₁ := .array .byte) (t₂ := .byte) (by decide +kernel) (by decide +kernel) (by decide)
  have al := X8.warmed.alike.symm.trans X15.warmed.alike
  have n7 : T11.heap[s.heap.size]? = some N := by rw [q11]; exact n1.1
  exact ⟨T15, none, _, _, _, X15, by simp, rfl, by omega, (fun _ => rfl), ⟨rfl, _, N, bl15, ((Same.refl D _).set _ (by simp)).set _ (by simp), sl15, (Cell.slots_setSlot_ne _ ap).trans sl13, n1.keep al (p15.other hne (p13.other hne n7)), n2, by rw [al.findClass]; exact n3, n4, n5, fun y c h1 h2 => p15.other h1 (p13.other h1 (by rw [q11]; exact n6 y c h2)), by rw [p15.2.2, p13.2.2, q11]; exact z8⟩, fun fs hl => c16.trans (X15.returnOut hexec hret (hb hbytes d57) hl)⟩
end New4
namespace New1
def yN : MethodName := ⟨"java/lang/String", "<init>", "([C)V"⟩
abbrev yB : ByteArray := jdk_42_method_3_code
theorem d0 : decode yB 0 = .ok (.aload_n 0, 1) := by decide +kernel
theorem d1 : decode yB 1 = .ok (.aload_n 1, 1) := by decide +kernel
theorem d2 : decode yB 2 = .ok (.iconst 0, 1) := by decide +kernel
theorem d3 : decode yB 3 = .ok (.aload_n 1, 1) := by decide +kernel
theorem d4 : decode yB 4 = .ok (.arraylength, 1) := by decide +kernel
theorem d5 : decode yB 5 = .ok (.aconst_null, 1) := by decide +kernel
theorem d6 : decode yB 6 = .ok (.invokespecial 27, 3) := by decide +kernel
theorem d9 : decode yB 9 = .ok (.return_, 1) := by decide +kernel
def site : List Cond := [New4.tab] ++ initW "java/lang/String" 27 New4.yN
def tab : Cond := tabOf yN yB 2 none site
def P (a : Addr) (D : Cell) (fV fC : Field) (b : Addr) (A : Cell) (z : Int32) (args : Array Value) (s : State) : Prop := args = #[.ref a, .ref b] ∧ Blank "java/lang/String" a D s ∧ Found "java/lang/String" "value" "[B" fV s ∧ Found "java/lang/String" "coder" "B" fC s ∧ Ch b A s ∧ StaticIs s "java/lang/String" "COMPACT_STRINGS" "Z" (.int z) ∧ ¬ z = 0 ∧ 0 < A.slots.size ∧ A.slots.size ≤ 536870912 ∧ ∀ i, i < A.slots.size → ¬ 255 < cv A i
def E (a : Addr) (D : Cell) (fV fC : Field) (A : Cell) (r : Option Value) (s u : State) : Prop := Got a D fV fC A 0 A.slots.size r s u
/-- new String(chars), not empty, no char above 255: a Latin-1 String of their low bytes -/
theorem law (l : Launch) (a : Addr) (D : Cell) (fV fC : Field) (b : Addr) (A : Cell) (z : Int32) : Law l yN 2 1 3 52 yB 2 none site (P a D fV fC b A z) (E a D fV fC A) [⟨a, fC.slot⟩, ⟨a, fV.slot⟩] 1 A.slots.size := by
  refine Law.of_walk (plainFor_of_name (by decide +kernel)) (by decide +kernel) (by decide +kernel) (by decide) (fun _ _ h => by rw [h.1]; rfl) (fun _ U U' hal hh h => ⟨h.1, h.2.1.mv hal hh, h.2.2.1.al hal, h.2.2.2.1.al hal, h.2.2.2.2.1.mv hal hh, h.2.2.2.2.2.1.there hal hh, h.2.2.2.2.2.2⟩) (fun r U U' V V' h1 hal h2 h => Got.mv r U U' V V' h1 hal h2 h) ?_
  intro p e s m args below meth c s₁ X0 hexec hbytes hml hret hlk hnm hown hh0 W hP
  obtain ⟨rfl, hB, f1, f2, hA, s1, hz, l0, l2, hp⟩ := hP
  have c1 : Steps p.tables e below (s₁.setTop (entryFrame m #[.ref a, .ref b] 2)) (s₁.setTop (mkF m 0 #[.val (.ref a), .val (.ref b)] [])) := entry rfl
  have c2 : Steps p.tables e below (s₁.setTop (entryFrame m #[.ref a, .ref b] 2)) (s₁.setTop (mkF m 6 #[.val (.ref a), .val (.ref b)] [.null, .int (Int32.ofNat A.slots.size), .int 0, .ref b, .ref a])) := c1.trans (by
    refine XS.aloadN X0.here hexec rfl (hb hbytes d0) rfl rfl ?_
    refine XS.aloadN X0.here hexec rfl (hb hbytes d1) rfl rfl ?_
    refine iconstV X0.here hexec rfl 0 (hb hbytes d2) (by decide) ?_
    refine XS.aloadN X0.here hexec rfl (hb hbytes d3) rfl rfl ?_
    refine X0.alen hexec (hA.1.mv X0.warmed.alike hh0) rfl rfl (hb hbytes d4) ?_
    refine XS.aconstNull X0.here hexec rfl (hb hbytes d5) ?_
    exact Steps.refl _)
  obtain ⟨v3, T3, X3, E3, g3⟩ := X0.callN hexec (New4.law l a D fV fC b A z 0 A.slots.size) rfl hown (wks W (initW "java/lang/String" 27 New4.yN)) (W New4.tab (by simp only [site, List.mem_cons, List.mem_append, true_or, or_true])) (W := 0) (Nat.le_of_ble_eq_true rfl) (Nat.le_of_ble_eq_true rfl) (Nat.le_refl _) (by show 0 + A.slots.size ≤ A.slots.size; omega) (g := (mkF m 6 #[.val (.ref a), .val (.ref b)] [.null, .int (Int32.ofNat A.slots.size), .int (Int32.ofNat 0), .ref b, .ref a])) rfl (by rw [hml]; rfl) c2 (argsL := [.ref b, .int (Int32.ofNat 0), .int (Int32.ofNat A.slots.size), .null]) (rest := []) rfl rfl (by show 2 * 0 + 0 ≤ _; decide) (hb hbytes d6) (⟨rfl, hB.mv X0.warmed.alike hh0, f1.al X0.warmed.alike, f2.al X0.warmed.alike, hA.mv X0.warmed.alike hh0, s1.there X0.warmed.alike hh0, hz, l0, by omega, l2, fun i hi => by rw [Nat.zero_add]; exact hp i hi⟩)
  have e0 := Got.mv _ s₁ s _ _ hh0.symm (Vm.Alike.refl _) rfl E3
  obtain rfl := e0.1
  have c4 : Steps p.tables e below (s₁.setTop (entryFrame m #[.ref a, .ref b] 2)) (T3.setTop (mkF m 9 #[.val (.ref a), .val (.ref b)] [])) := g3
  exact ⟨T3, none, _, _, _, X3, by simp, rfl, by omega, (fun _ => rfl), e0, fun fs hl => c4.trans (X3.returnOut hexec hret (hb hbytes d9) hl)⟩
theorem pays {l : Launch} {R : Room} {p : Program} {e : Env} {below : List Frame} {s : State} {sargs : Array Value} {len W : Nat} (a : Addr) (D : Cell) (fV fC : Field) (b : Addr) (A : Cell) (z : Int32) (htab : tab.before sargs s = true) (hfr : 4 ≤ R.frames) (hlo : W + 65 ≤ R.locals) :
    Back l R p e below s sargs yN len W (fun A₁ a₁ => A₁.cells + 1 ≤ R.cells ∧ A₁.slots + A.slots.size ≤ R.slots ∧ P a D fV fC b A z a₁ A₁.U) (fun A₁ _ v₁ B₁ => E a D fV fC A v₁ A₁.U B₁.U ∧ B₁.locs = A₁.locs ++ [⟨a, fC.slot⟩, ⟨a, fV.slot⟩] ∧ B₁.cells = A₁.cells + 1 ∧ B₁.slots = A₁.slots + A.slots.size) :=
  (law l a D fV fC b A z).pays htab hfr (by omega)
end New1
/-- the byte, read back as charAt reads it, is the char -/
theorem lo8_mask {x : Int32} (h0 : ¬ x < 0) (h1 : ¬ 255 < x) : lo8 x &&& 255 = x := by
  have t : ∀ k : Fin 256, lo8 (Int32.ofNat k.val) &&& 255 = Int32.ofNat k.val := by decide +kernel
  rw [Int32.lt_iff_toInt_lt] at h0 h1
  have e0 : (0 : Int32).toInt = 0 := rfl
  have e1 : (255 : Int32).toInt = 255 := rfl
  obtain ⟨k, hk⟩ : ∃ k : Nat, x.toInt = k := ⟨x.toInt.toNat, by omega⟩
  have hx : x = Int32.ofNat k := Int32.toInt_inj.mp (by rw [hk, Int32.toInt_ofNat_small (by omega)])
  rw [hx]
  exact t ⟨k, by omega⟩
end StrChars
namespace StrChars.Road
open Jvm Sem ClassFile Op Lib Jvm.Stand Jvm.Free Jvm.Free.XT
open Jvm.Lib.Cold (StaticIs)
abbrev ST : String := "java/lang/String"
/-- every table word that New1's law asks, flat -/
abbrev words : List Jvm.Cond := [.code New1.yN New1.yB 2 none, .initialized ST, .methodLink ST 27 New4.yN, .instanceMethod New4.yN,
  .code New4.yN New4.yB 6 none, .fieldLink ST 38 ST "COMPACT_STRINGS" "Z", .laysFinal ST ST "value" "[B", .fieldLink ST 9 ST "value" "[B", .laysFinal ST ST "coder" "B", .fieldLink ST 15 ST "coder" "B",
  .methodLink ST 1 Lib.objectInit, .instanceMethod Lib.objectInit, .code Lib.objectInit ⟨#[0xb1]⟩ 1 none, .methodLink ST 177 Cmp3.yN, .static Cmp3.yN, .methodLink ST 47 CodL.yN, .static CodL.yN,
  .code Cmp3.yN Cmp3.yB 6 (some (.array .byte)), .initialized U16, .arrayClass .byte, .methodLink U16 115 Cmp5.yN, .static Cmp5.yN, .code Cmp5.yN Cmp5.yB 7 (some .int), .code CodL.yN CodL.yB 2 (some .byte)]
theorem tab_of {a : Array Value} {s : State} (h : ∀ w ∈ words, w.before a s = true) : New1.tab.before a s = true := by
  have h5 : Cmp5.tab.before a s = true := unparts (wk h (.code Cmp5.yN Cmp5.yB 7 (some .int))) (wks h (.initialized Cmp5.yN.cls :: Cmp5.site))
  have hc : CodL.tab.before a s = true := unparts (wk h (.code CodL.yN CodL.yB 2 (some .byte))) (wks h (.initialized CodL.yN.cls :: CodL.site))
  have q5 : ∀ w ∈ Cmp5.tab :: words, w.before a s = true := fun w hw => (List.mem_cons.mp hw).elim (fun e => e ▸ h5) (h w)
  have h3 : Cmp3.tab.before a s = true := unparts (wk q5 (.code Cmp3.yN Cmp3.yB 6 (some (.array .byte)))) (wks q5 (.initialized Cmp3.yN.cls :: Cmp3.site))
  have q3 : ∀ w ∈ Cmp3.tab :: CodL.tab :: words, w.before a s = true := fun w hw => (List.mem_cons.mp hw).elim (fun e => e ▸ h3) fun hw => (List.mem_cons.mp hw).elim (fun e => e ▸ hc) (h w)
  have h4 : New4.tab.before a s = true := unparts (wk q3 (.code New4.yN New4.yB 6 none)) (wks q3 (.initialized New4.yN.cls :: New4.site))
  have q4 : ∀ w ∈ New4.tab :: words, w.before a s = true := fun w hw => (List.mem_cons.mp hw).elim (fun e => e ▸ h4) (h w)
  exact unparts (wk q4 (.code New1.yN New1.yB 2 none)) (wks q4 (.initialized New1.yN.cls :: New1.site))
/-- the words ride from the start Z to the walk's own state -/
theorem moved {Z s : State} {a0 args : Array Value} (hZ : Z.Warmed39 s.vm) (hw : ∀ d ∈ words, d.before a0 Z = true) : ∀ d ∈ words, d.before args s = true := fun d hd => by
  have q := hw d hd
  have t : ∀ d ∈ words, d = .arrayClass .byte ∨ (d.onTables && d.keepsFace) = true := by decide +kernel
  rcases t d hd with rfl | t
  · exact RoadKit.mvA hZ q
  · exact RoadKit.mv hZ q t
/-- WHAT COMES BACK, over the tables of the start Z: h the heap at the call, h' behind it -/
def Q (Z : State) (x : Addr) (A : Cell) (h : Heap) (v : Option Value) (h' : Heap) (L : List Loc) : Prop := v = none ∧ (∀ y ∈ L, y.base = x) ∧ RoadKit.Keep h h' [x] ∧ h'.size = h.size + 1 ∧ RoadKit.Exa Z h' x ST ∧ RoadKit.Fld Z h' x ST "value" "[B" (.ref h.size) ∧ RoadKit.Fld Z h' x ST "coder" "B" (.int 0) ∧
  (∃ V : Cell, RoadKit.Arr Z h' h.size V .byte ∧ V.vm = .none ∧ Z.vm.findClass "[B" = some V.cls ∧ V.slots.size = A.slots.size ∧ ∀ j, j < A.slots.size → V.slots[j]? = some (.int (lo8 (cv A j)))) ∧
  ∀ (O n d : String) (w : Value), RoadKit.Fld Z h x O n d w → RoadKit.slotOf Z O n d ≠ RoadKit.slotOf Z ST "value" "[B" → RoadKit.slotOf Z O n d ≠ RoadKit.slotOf Z ST "coder" "B" → RoadKit.Fld Z h' x O n d w
/-- **new String(chars) AT A CALL, IN THE ROAD'S FORM**: for specialBack behind newO: x the fresh String, b the char[] with the cell A -/
theorem back {p : Program} {l : Launch} {e : Env} {R : Room} {s : State} {args : Array Value} {below : List Frame} {len W : Nat} {Z : State} {a0 : Array Value} {h : Heap} (hZ : Z.Warmed39 s.vm) (hw : ∀ d ∈ words, d.before a0 Z = true) {kI : Nat} (wi : (Jvm.Cond.instantiable ST kI).before a0 Z = true)
    {x b : Addr} {A : Cell} {z : Int32} {v0 c0 : Value} (E : RoadKit.Exa Z h x ST) (V : RoadKit.Fld Z h x ST "value" "[B" v0) (C : RoadKit.Fld Z h x ST "coder" "B" c0) (K : RoadKit.Arr Z h b A .char) (hty : Typed .char A) (S : RoadKit.Sta Z h ST "COMPACT_STRINGS" "Z" (.int z)) (hz : ¬ z = 0)
    (l0 : 0 < A.slots.size) (l2 : A.slots.size ≤ 536870912) (hp : ∀ i, i < A.slots.size → ¬ 255 < cv A i) (hfr : 4 ≤ R.frames) (hlo : W + 65 ≤ R.locals) :
    Back l R p e below s args New1.yN len W (fun P a => a = #[.ref x, .ref b] ∧ P.U.heap = h ∧ P.cells + 1 ≤ R.cells ∧ P.slots + A.slots.size ≤ R.slots)
      (fun P _ v B => ∃ L, Q Z x A h v B.U.heap L ∧ B.locs = P.locs ++ L ∧ B.cells = P.cells + 1 ∧ B.slots = P.slots + A.slots.size) := by
  intro m meth c P g ig mk a X hg hsize hdg hW hn hp'
  obtain ⟨rfl, rfl, r1, r2⟩ := hp'
  have al : Z.vm.Alike P.U.vm := hZ.alike.trans X.warmed.alike
  obtain ⟨D, cfV, kV, iV, fV, hD, gV, stV, knV, obV, asV, slV⟩ := id V
  obtain ⟨D', cfC, kC, iC, fC, hD', gC, stC, -, -, asC, slC⟩ := id C
  cases hD.symm.trans hD'
  obtain ⟨D2, kD, e1, e2, e3, e4, e5⟩ := id E
  cases hD.symm.trans e1
  obtain ⟨c2, k2, i1, i2, i3, -⟩ := Cond.instantiable_spec wi
  cases e2.symm.trans i1
  cases e3.symm.trans i2
  obtain ⟨kU, u1, u2⟩ := al.2.2 _ _ e3
  have hB : Blank ST x D P.U := ⟨hD, ⟨knV, fun q hq => by rw [hq] at obV; cases obV⟩, by rw [al.findClass]; exact e2, kU, u1, by rw [u2]; exact i3, by rw [u2]; exact e5 i3⟩
  have F1 : Found ST "value" "[B" fV P.U := ⟨SBG.found_only al ⟨cfV, kV, iV, gV⟩, stV⟩
  have F2 : Found ST "coder" "B" fC P.U := ⟨SBG.found_only al ⟨cfC, kC, iC, gC⟩, stC⟩
  have hA : Ch b A P.U := ⟨⟨K.1, State.isArrayOf_alike al K.2.1, K.2.2, by omega⟩, hty⟩
  have hS : StaticIs P.U ST "COMPACT_STRINGS" "Z" (.int z) := by
    obtain ⟨cfS, iS, kS, fS, st, cS, t1, t2, t3, t4, t5, t6, t7⟩ := S
    exact StaticIs.there (s := { Z with heap := P.U.heap }) ⟨cfS, iS, kS, fS, st, cS, t1, t2, t3, t4, t5, (fun q => by rw [q] at t6; cases t6), t7⟩ al rfl
  obtain ⟨v, B, X', ⟨⟨hv, E', V', q1, q2, q3, q4, q5, q6, q7, q8, q9, q10, q11⟩, hl, hc, hs⟩, st⟩ := New1.pays x D fV fC b A z (tab_of (moved hZ hw)) hfr hlo m meth c P g ig mk _ X hg hsize hdg hW hn ⟨r1, r2, rfl, hB, F1, F2, hA, hS, hz, l0, l2, hp⟩
  have al' : Z.vm.Alike B.U.vm := hZ.alike.trans X'.warmed.alike
  have hsz : E'.slots.size = D.slots.size := by
    obtain ⟨-, -, -, kB, w1, w2, w3⟩ := q1
    obtain ⟨kB', y1, y2⟩ := al'.2.2 _ _ e3
    rw [q2.2.1] at w1
    cases w1.symm.trans y1
    rw [w3, e5 i3, y2]
  refine ⟨v, B, X', ⟨_, ⟨hv, ?_, ⟨by omega, fun y cy hy hn' => q10 y cy (by simpa using hn') hy, fun y cy hy => ?_⟩, q11, ⟨E', _, q1.1, by rw [q2.2.1]; exact e2, by rw [q2.2.1]; exact e3, by rw [q2.1]; exact obV, fun _ => by rw [hsz]; exact e5 i3⟩,
    ⟨E', cfV, kV, iV, fV, q1.1, gV, stV, by rw [q2.1]; exact knV, by rw [q2.1]; exact obV, by rw [q2.2.1]; exact asV, q3⟩, ⟨E', cfC, kC, iC, fC, q1.1, gC, stC, by rw [q2.1]; exact knV, by rw [q2.1]; exact obV, by rw [q2.2.1]; exact asC, q4⟩,
    ⟨V', ⟨q5.1, State.isArrayOf_alike al'.symm q5.2.1, q5.2.2.1⟩, q6, by rw [← al'.findClass]; exact q7, q8, fun j hj => by have := q9 j hj; rwa [Nat.zero_add] at this⟩, fun O n d w F n1 n2 => ?_⟩, hl, hc, hs⟩, st⟩
  · intro y hy
    simp only [List.mem_cons, List.not_mem_nil, or_false] at hy
    rcases hy with rfl | rfl <;> rfl
  · by_cases q : y = x
    · subst q
      cases hD.symm.trans hy
      exact ⟨E', q1.1, q2.2.1, q2.1, hsz⟩
    · exact ⟨cy, q10 y cy q hy, rfl, rfl, rfl⟩
  · obtain ⟨D3, cf, k, i, f, g1, g2, g3, g4, g5, g6, g7⟩ := F
    cases hD.symm.trans g1
    simp only [RoadKit.slotOf, g2, gV, gC, Option.map_some, Option.getD_some] at n1 n2
    exact ⟨E', cf, k, i, f, q1.1, g2, g3, by rw [q2.1]; exact g4, by rw [q2.1]; exact g5, by rw [q2.2.1]; exact g6, by rw [q2.2.2 f.slot (by simp [n1, n2])]; exact g7⟩
end StrChars.Road
namespace StrChars.Road
open Jvm Sem ClassFile Op Lib Jvm.Stand Jvm.Free Jvm.Free.XT
/-- WHAT COMES BACK, the byte[] as a list of values -/
def QA (Z : State) (x : Addr) (zn : Int32) (cs : List Int32) (h : Heap) (v : Option Value) (h' : Heap) (L : List Loc) : Prop := v = none ∧ (∀ y ∈ L, y.base = x) ∧ RoadKit.Keep h h' [x] ∧ h'.size = h.size + 1 ∧ RoadKit.Exa Z h' x ST ∧ RoadKit.Fld Z h' x ST "value" "[B" (.ref h.size) ∧ RoadKit.Fld Z h' x ST "coder" "B" (.int 0) ∧
  (∃ kb, Z.vm.findClass "[B" = some kb ∧ RoadKit.Arv Z h' h.size kb .byte zn (cs.map fun c => .int (lo8 c)) (.int 0)) ∧
  ∀ (O n d : String) (w : Value), RoadKit.Fld Z h x O n d w → RoadKit.slotOf Z O n d ≠ RoadKit.slotOf Z ST "value" "[B" → RoadKit.slotOf Z O n d ≠ RoadKit.slotOf Z ST "coder" "B" → RoadKit.Fld Z h' x O n d w
/-- **new String(chars) AT A CALL, THE ARRAYS AS LISTS**: the char[] at b holds cs, not empty, no char above 255 -/
theorem backArv {p : Program} {l : Launch} {e : Env} {R : Room} {s : State} {args : Array Value} {below : List Frame} {len W : Nat} {Z : State} {a0 : Array Value} {h : Heap} (hZ : Z.Warmed39 s.vm) (hw : ∀ d ∈ words, d.before a0 Z = true) {kI : Nat} (wi : (Jvm.Cond.instantiable ST kI).before a0 Z = true)
    {x b : Addr} {k : ClassId} {zn z : Int32} {cs : List Int32} {dv v0 c0 : Value} (E : RoadKit.Exa Z h x ST) (V : RoadKit.Fld Z h x ST "value" "[B" v0) (C : RoadKit.Fld Z h x ST "coder" "B" c0) (K : RoadKit.Arv Z h b k .char zn (cs.map Value.int) dv) (S : RoadKit.Sta Z h ST "COMPACT_STRINGS" "Z" (.int z)) (hz : ¬ z = 0)
    (hlen : zn.toNatClampNeg = cs.length) (h0 : 0 < cs.length) (hbig : cs.length ≤ 536870912) (hall : ∀ c ∈ cs, ¬ 255 < c) (hfr : 4 ≤ R.frames) (hlo : W + 65 ≤ R.locals) :
    Back l R p e below s args New1.yN len W (fun P a => a = #[.ref x, .ref b] ∧ P.U.heap = h ∧ P.cells + 1 ≤ R.cells ∧ P.slots + cs.length ≤ R.slots)
      (fun P _ v B => ∃ L, QA Z x zn cs h v B.U.heap L ∧ B.locs = P.locs ++ L ∧ B.cells = P.cells + 1 ∧ B.slots = P.slots + cs.length) := by
  obtain ⟨A, K1, K2, K3, K4, K5, K6⟩ := K
  have e : A.slots.size = cs.length := K3.trans hlen
  have hat : ∀ (i : Nat) (hi : i < cs.length), A.slots[i]? = some (.int cs[i]) := fun i hi => by rw [K5 i (by omega)]; simp [List.getD_eq_getElem?_getD, hi]
  have hcv : ∀ (i : Nat) (hi : i < cs.length), cv A i = cs[i] := fun i hi => by unfold cv; rw [hat i hi]
  have hty : Typed .char A := fun i v hv => by
    have hi : i < A.slots.size := (Array.getElem?_eq_some_iff.mp hv).1
    have q := K5 i hi
    rw [hv] at q
    rw [Option.some.inj q]
    exact K6 i hi
  refine Back.mono (back hZ hw wi E V C K1 hty S hz (by omega) (by omega) (fun i hi => by rw [hcv i (by omega)]; exact hall _ (List.getElem_mem _)) hfr hlo) (fun P a hp => ⟨hp.1, hp.2.1, hp.2.2.1, by rw [e]; exact hp.2.2.2⟩) (fun P a v B hp hq => ?_)
  obtain ⟨L, ⟨q1, q2, q3, q4, q5, q6, q7, ⟨V', v1, v2, v3, v4, v5⟩, q9⟩, hl, hc, hs⟩ := hq
  refine ⟨L, ⟨q1, q2, q3, q4, q5, q6, q7, ⟨V'.cls, v3, V', v1, rfl, by rw [v4, e, hlen], K4, fun i hi => ?_, fun i hi => ?_⟩, q9⟩, hl, hc, by rw [hs, e]⟩
  · have hi' : i < cs.length := by omega
    rw [v5 i (by omega), hcv i hi']; simp [List.getD_eq_getElem?_getD, hi']
  · have hi' : i < cs.length := by omega
    simp only [List.getD_eq_getElem?_getD, List.getElem?_map, List.getElem?_eq_getElem hi', Option.map_some, Option.getD_some]
    exact fits_lo8 _
end StrChars.Road
namespace StrChars.Road
open Jvm Sem ClassFile Op Lib Jvm.Stand Jvm.Free Jvm.Free.XT
/-- WHAT COMES BACK, in the writer's own shape -/
def QV (Z : State) (x : Addr) (N : Int32) (bs : List Int32) (h : Heap) (n0 : Nat) (v : Option Value) (h' : Heap) (L : List Loc) : Prop := v = none ∧ RoadKit.Fr n0 L ∧ RoadKit.Keep h h' [x] ∧ RoadKit.Exa Z h' x ST ∧ RoadKit.Fld Z h' x ST "coder" "B" (.int 0) ∧
  ∃ (t : Addr) (kb : ClassId), n0 ≤ t ∧ h.size ≤ t ∧ ¬ t = x ∧ RoadKit.Fld Z h' x ST "value" "[B" (.ref t) ∧ RoadKit.Arv Z h' t kb .byte N (bs.map Value.int) (.int 0)
/-- **new String(chars) AT A CALL, FOR THE WRITER**: a char[] of n known ints, each 0 to 255 -/
theorem backV {p : Program} {l : Launch} {e : Env} {R : Room} {s : State} {args : Array Value} {below : List Frame} {len W : Nat} {Z : State} {a0 : Array Value} {h : Heap} (hZ : Z.Warmed39 s.vm) (hw : ∀ d ∈ words, d.before a0 Z = true) {kI : Nat} (wi : (Jvm.Cond.instantiable ST kI).before a0 Z = true)
    {x b : Addr} {kC : ClassId} {cs bs : List Int32} {d v0 c0 : Value} {z N : Int32} {n n0 : Nat} (hx0 : n0 ≤ x) (hh0 : n0 ≤ h.size) (E : RoadKit.Exa Z h x ST) (V : RoadKit.Fld Z h x ST "value" "[B" v0) (C : RoadKit.Fld Z h x ST "coder" "B" c0) (K : RoadKit.Arv Z h b kC .char N (cs.map Value.int) d) (S : RoadKit.Sta Z h ST "COMPACT_STRINGS" "Z" (.int z)) (hz : ¬ z = 0)
    (hn : cs.length = n) (hN : N = Int32.ofNat n) (l0 : 0 < n) (l2 : n ≤ 4000) (hp : ∀ c ∈ cs, ¬ c < 0 ∧ ¬ (255 : Int32) < c) (hb : bs = cs.map (fun c => c.toInt8.toInt32)) (hfr : 4 ≤ R.frames) (hlo : W + 65 ≤ R.locals) :
    Back l R p e below s args (⟨"java/lang/String", "<init>", "([C)V"⟩ : MethodName) len W (fun P a => a = #[.ref x, .ref b] ∧ P.U.heap = h ∧ P.cells + 1 ≤ R.cells ∧ P.slots + n ≤ R.slots)
      (fun P _ v B => ∃ L, QV Z x N bs h n0 v B.U.heap L ∧ B.locs = P.locs ++ L ∧ B.cells = P.cells + 1 ∧ B.slots = P.slots + n) := by
  subst hn hN hb
  refine Back.mono (backArv hZ hw wi E V C K S hz (n32 (by omega)) l0 (by omega) (fun c hc => (hp c hc).2) hfr hlo) (fun P a hp => hp) (fun P a v B hp hq => ?_)
  obtain ⟨L, ⟨q1, q2, q3, q4, q5, q6, q7, ⟨kb, v1, v2⟩, q9⟩, hl, hc, hs⟩ := hq
  exact ⟨L, ⟨q1, fun y hy => by rw [q2 y hy]; exact hx0, q3, q5, q7, h.size, kb, hh0, Nat.le_refl _, Nat.ne_of_gt E.lt, q6, by rw [List.map_map]; exact v2⟩, hl, hc, hs⟩
end StrChars.Road
namespace StrChars
open Jvm Sem ClassFile Op Lib Jvm.Stand Jvm.Free.XT Jvm.Free.ALB Jvm.Free.JM Jvm.Free
open Jvm.Lib.Cold (StaticIs)
def hi8 (x : Int32) : Int32 := lo8 (x >>> ((8 : Int32) &&& 31))
/-- what StringUTF16.getChar makes of two bytes -/
def pairCh (u v : Int32) : Int32 := (((u &&& 255) <<< ((0 : Int32) &&& 31)) ||| ((v &&& 255) <<< ((8 : Int32) &&& 31))).toUInt32.toUInt16.toUInt32.toInt32
theorem shr0 (c : Int32) : c >>> ((0 : Int32) &&& 31) = c := by
  have e : ((0 : Int32) &&& 31) = 0 := by decide
  rw [e]
  apply Int32.toBitVec_inj.mp
  rw [Int32.toBitVec_shiftRight]
  have e1 : ((0 : Int32).toBitVec.smod 32) = 0#32 := by decide
  rw [e1, BitVec.sshiftRight_eq']
  exact BitVec.sshiftRight_zero
theorem lo8_and (x : Int32) : (lo8 x &&& 255).toBitVec.toNat = x.toBitVec.toNat % 256 := by
  have h : (lo8 x).toBitVec = (x.toBitVec.signExtend 8).signExtend 32 := by rw [lo8, Int8.toBitVec_toInt32, Int32.toBitVec_toInt8]
  rw [Int32.toBitVec_and, BitVec.toNat_and, h]
  have e : ((x.toBitVec.signExtend 8).signExtend 32).toNat % 256 = x.toBitVec.toNat % 256 := by
    rw [BitVec.toNat_signExtend]
    have hlt := x.toBitVec.isLt
    simp only [BitVec.toNat_setWidth, BitVec.toNat_signExtend]
    split <;> split <;> omega
  rw [← e]
  exact Nat.and_two_pow_sub_one_eq_mod _ 8
theorem pair_says {c : Int32} (h0 : ¬ c < 0) (h1 : ¬ 65535 < c) : pairCh (lo8 c) (hi8 c) = c := by
  rw [Int32.lt_iff_toInt_lt] at h0 h1
  have e0 : (0 : Int32).toInt = 0 := rfl
  have e1 : (65535 : Int32).toInt = 65535 := rfl
  have hc : c.toInt = c.toBitVec.toNat := by
    have := c.toBitVec.isLt
    have e : c.toInt = c.toBitVec.toInt := rfl
    rw [e] at h0 h1
    rw [e]
    rw [BitVec.toInt_eq_toNat_cond] at h0 h1 ⊢
    split at h0 <;> split <;> omega
  have hn : c.toBitVec.toNat < 65536 := by omega
  have a1 := lo8_and c
  have a2 : (hi8 c &&& 255).toBitVec.toNat = c.toBitVec.toNat / 256 := by
    rw [hi8, lo8_and]
    have e : ((8 : Int32) &&& 31) = 8 := by decide
    rw [e, Int32.toBitVec_shiftRight]
    have e2 : ((8 : Int32).toBitVec.smod 32) = 8#32 := by decide
    rw [e2, BitVec.sshiftRight_eq', BitVec.toNat_sshiftRight_of_msb_false (by rw [BitVec.msb_eq_false_iff_two_mul_lt]; omega)]
    show c.toBitVec.toNat >>> 8 % 256 = _
    rw [Nat.shiftRight_eq_div_pow]
    omega
  unfold pairCh
  apply Int32.toBitVec_inj.mp
  apply BitVec.eq_of_toNat_eq
  have f0 : ((0 : Int32) &&& 31) = 0 := by decide
  have f8 : ((8 : Int32) &&& 31) = 8 := by decide
  rw [f0, f8]
  have g : (((lo8 c &&& 255) <<< (0 : Int32)) ||| ((hi8 c &&& 255) <<< (8 : Int32))).toBitVec.toNat = c.toBitVec.toNat := by
    rw [Int32.toBitVec_or, Int32.toBitVec_shiftLeft, Int32.toBitVec_shiftLeft]
    have s0 : ((0 : Int32).toBitVec.smod 32) = 0#32 := by decide
    have s8 : ((8 : Int32).toBitVec.smod 32) = 8#32 := by decide
    rw [s0, s8, BitVec.toNat_or]
    simp only [BitVec.shiftLeft_eq', BitVec.toNat_shiftLeft, a1, a2]
    show (c.toBitVec.toNat % 256) <<< 0 % 2 ^ 32 ||| (c.toBitVec.toNat / 256) <<< 8 % 2 ^ 32 = _
    rw [Nat.shiftLeft_zero, Nat.mod_eq_of_lt (show c.toBitVec.toNat % 256 < 2 ^ 32 by omega), Nat.mod_eq_of_lt (show (c.toBitVec.toNat / 256) <<< 8 < 2 ^ 32 by rw [Nat.shiftLeft_eq]; omega), Nat.or_comm, ← Nat.shiftLeft_add_eq_or_of_lt (by omega), Nat.shiftLeft_eq]
    omega
  show BitVec.toNat (((((lo8 c &&& 255) <<< (0 : Int32)) ||| ((hi8 c &&& 255) <<< (8 : Int32))).toBitVec.setWidth 16).setWidth 32) = _
  rw [BitVec.toNat_setWidth, BitVec.toNat_setWidth, g]
  omega
end StrChars
namespace StrChars
open Jvm Sem ClassFile Op Lib Jvm.Stand Jvm.Free.XT Jvm.Free.ALB Jvm.Free.JM Jvm.Free
open Jvm.Lib.Cold (StaticIs)
theorem shr1 {n : Nat} (h : 2 * n < 2 ^ 31) : Int32.ofNat (2 * n) >>> ((1 : Int32) &&& 31) = Int32.ofNat n := by
  have e : ((1 : Int32) &&& 31) = 1 := by decide
  rw [e]
  apply Int32.toBitVec_inj.mp
  rw [Int32.toBitVec_shiftRight]
  have e1 : ((1 : Int32).toBitVec.smod 32) = 1#32 := by decide
  have hm : (BitVec.ofNat 32 (2 * n)).toNat = 2 * n := by rw [BitVec.toNat_ofNat, Nat.mod_eq_of_lt (by omega)]
  rw [e1, BitVec.sshiftRight_eq']
  apply BitVec.eq_of_toNat_eq
  show ((BitVec.ofNat 32 (2 * n)).sshiftRight 1).toNat = (BitVec.ofNat 32 n).toNat
  rw [BitVec.toNat_sshiftRight_of_msb_false (by rw [BitVec.msb_eq_false_iff_two_mul_lt, hm]; omega), hm, BitVec.toNat_ofNat, Nat.shiftRight_eq_div_pow]
  omega
/-- charAt's cast of a byte read back -/
def chr8 (u : Int32) : Int32 := (u &&& 255).toUInt32.toUInt16.toUInt32.toInt32
theorem chr8_lo8 {c : Int32} (h0 : ¬ c < 0) (h1 : ¬ 255 < c) : chr8 (lo8 c) = c := by
  have t : ∀ k : Fin 256, (Int32.ofNat k.val).toUInt32.toUInt16.toUInt32.toInt32 = Int32.ofNat k.val := by decide +kernel
  unfold chr8
  rw [lo8_mask h0 h1]
  rw [Int32.lt_iff_toInt_lt] at h0 h1
  have e0 : (0 : Int32).toInt = 0 := rfl
  have e1 : (255 : Int32).toInt = 255 := rfl
  obtain ⟨k, hk⟩ : ∃ k : Nat, c.toInt = k := ⟨c.toInt.toNat, by omega⟩
  have hx : c = Int32.ofNat k := Int32.toInt_inj.mp (by rw [hk, Int32.toInt_ofNat_small (by omega)])
  rw [hx]
  exact t ⟨k, by omega⟩
theorem narrow_ch {c : Int32} (h0 : ¬ c < 0) (h1 : ¬ 65535 < c) : narrow .char (.int c) = .int c := by
  have q : narrow .char (.int (pairCh (lo8 c) (hi8 c))) = .int (pairCh (lo8 c) (hi8 c)) := narrow_c _
  rwa [pair_says h0 h1] at q
/-- the array's cell V codes the n chars f 0 .. f (n - 1) by the coder cd, as the JDK does: coder 1 just where some char is above 255 -/
def Cod (cd : Int32) (n : Nat) (f : Nat → Int32) (V : Cell) : Prop := (cd = 0 ∧ V.slots.size = n ∧ ∀ j, j < n → V.slots[j]? = some (.int (lo8 (f j))) ∧ ¬ 255 < f j) ∨ (cd = 1 ∧ V.slots.size = 2 * n ∧ (∀ j, j < n → V.slots[2 * j]? = some (.int (lo8 (f j))) ∧ V.slots[2 * j + 1]? = some (.int (hi8 (f j)))) ∧ ∃ j, j < n ∧ 255 < f j)
theorem Cod.cd {cd : Int32} {n : Nat} {f : Nat → Int32} {V : Cell} (h : Cod cd n f V) : cd = 0 ∨ cd = 1 := h.imp (fun q => q.1) fun q => q.1
theorem Cod.len {cd : Int32} {n : Nat} {f : Nat → Int32} {V : Cell} (h : Cod cd n f V) (hs : V.slots.size < 2 ^ 31) : Int32.ofNat V.slots.size >>> (cd &&& 31) = Int32.ofNat n := by
  rcases h with ⟨rfl, h, -⟩ | ⟨rfl, h, -⟩
  · rw [shr0, h]
  · rw [h, shr1 (by omega)]
/-- **x is a String of the n chars f 0 .. f (n - 1)**, Latin-1 or UTF-16; its array at t has the cell V -/
def Txt (x t : Addr) (V : Cell) (cd : Int32) (n : Nat) (f : Nat → Int32) (U : State) : Prop := Exact "java/lang/String" x U ∧ Has x "java/lang/String" "value" "[B" (.ref t) U ∧ Has x "java/lang/String" "coder" "B" (.int cd) U ∧ XT.Arr .byte t V U ∧ Cod cd n f V ∧ ∀ j, j < n → ¬ f j < 0 ∧ ¬ 65535 < f j
theorem Txt.mv {x t : Addr} {V : Cell} {cd : Int32} {n : Nat} {f : Nat → Int32} {U U' : State} (h : Txt x t V cd n f U) (hal : U.vm.Alike U'.vm) (hh : U'.heap = U.heap) : Txt x t V cd n f U' := ⟨h.1.mv hal hh, h.2.1.mv hal hh, h.2.2.1.mv hal hh, h.2.2.2.1.mv hal hh, h.2.2.2.2⟩
namespace Cdr
def yN : MethodName := ⟨"java/lang/String", "coder", "()B"⟩
abbrev yB : ByteArray := jdk_42_method_152_code
theorem d0 : decode yB 0 = .ok (.getstatic 38, 3) := by decide +kernel
theorem d3 : decode yB 3 = .ok (.ifCond (.eq) 10, 3) := by decide +kernel
theorem d6 : decode yB 6 = .ok (.aload_n 0, 1) := by decide +kernel
theorem d7 : decode yB 7 = .ok (.getfield 15, 3) := by decide +kernel
theorem d10 : decode yB 10 = .ok (.goto 4, 3) := by decide +kernel
theorem d14 : decode yB 14 = .ok (.ireturn, 1) := by decide +kernel
def site : List Cond := [.fieldLink "java/lang/String" 38 "java/lang/String" "COMPACT_STRINGS" "Z", .fieldLink "java/lang/String" 15 "java/lang/String" "coder" "B"]
def tab : Cond := tabOf yN yB 1 (some .byte) site
def P (x : Addr) (cd z : Int32) (args : Array Value) (s : State) : Prop := args = #[.ref x] ∧ Has x "java/lang/String" "coder" "B" (.int cd) s ∧ (cd = 0 ∨ cd = 1) ∧ StaticIs s "java/lang/String" "COMPACT_STRINGS" "Z" (.int z) ∧ ¬ z = 0
def E (cd : Int32) (r : Option Value) (s u : State) : Prop := XT.PureE (some (.int cd)) r s u
theorem law (l : Launch) (x : Addr) (cd z : Int32) : Law l yN 1 0 0 0 yB 1 (some .byte) site (P x cd z) (E cd) [] 0 0 := by
  refine Law.of_walk (plainFor_of_name (by decide +kernel)) (by decide +kernel) (by decide +kernel) (by decide) (fun _ _ h => by rw [h.1]; rfl) (fun _ U U' hal hh h => ⟨h.1, h.2.1.mv hal hh, h.2.2.1, h.2.2.2.1.there hal hh, h.2.2.2.2⟩) (fun r U U' V V' h1 hal h2 h => XT.PureE.mv r U U' V V' h1 hal h2 h) ?_
  intro p e s m args below meth c s₁ X0 hexec hbytes hml hret hlk hnm hown hh0 W hP
  obtain ⟨rfl, hx, hc, s1, hz⟩ := hP
  have c1 : Steps p.tables e below (s₁.setTop (entryFrame m #[.ref x] 1)) (s₁.setTop (mkF m 0 #[.val (.ref x)] [])) := entry rfl
  obtain ⟨T2, X2, q2, st2⟩ := X0.sget hexec hown (wk W (.fieldLink "java/lang/String" 38 "java/lang/String" "COMPACT_STRINGS" "Z")) s1 (fun _ _ h => by rw [hh0]; exact h) (g := (mkF m 0 #[.val (.ref x)] [])) rfl (hb hbytes d0)
  have hh2 := q2.trans hh0
  have c3 : Steps p.tables e below (s₁.setTop (entryFrame m #[.ref x] 1)) (T2.setTop (mkF m 7 #[.val (.ref x)] [.ref x])) := (c1.trans (st2 _ (Steps.refl _))).trans (by
    refine XS.ifNo X2.here hexec rfl (hb hbytes d3) rfl (i0_eq_f hz) ?_
    refine XS.aloadN X2.here hexec rfl (hb hbytes d6) rfl rfl ?_
    exact Steps.refl _)
  obtain ⟨T4, X4, q4, st4⟩ := X2.hget hexec hown (wk W (.fieldLink "java/lang/String" 15 "java/lang/String" "coder" "B")) (hx.mv X2.warmed.alike hh2) (g := (mkF m 7 #[.val (.ref x)] [.ref x])) rfl (rest := []) rfl (hb hbytes d7)
  have c5 : Steps p.tables e below (s₁.setTop (entryFrame m #[.ref x] 1)) (T4.setTop (mkF m 14 #[.val (.ref x)] [.int cd])) := (c3.trans (st4 _ (Steps.refl _))).trans (by
    refine XS.goto X4.here hexec rfl (pc0 := 10) rfl (hb hbytes d10) (by decide) rfl ?_
    exact Steps.refl _)
  exact ⟨T4, some (.int cd), _, _, _, X4, rfl, rfl, rfl, (fun h => by cases h), ⟨rfl, q4.trans hh2⟩, fun fs hl => c5.trans (X4.ireturnOut hexec hret (by rcases hc with rfl | rfl <;> rfl) (Or.inr (Or.inr (Or.inl rfl))) (hb hbytes d14) hl)⟩
end Cdr
namespace Len
def yN : MethodName := ⟨"java/lang/String", "length", "()I"⟩
abbrev yB : ByteArray := jdk_42_method_54_code
theorem d0 : decode yB 0 = .ok (.aload_n 0, 1) := by decide +kernel
theorem d1 : decode yB 1 = .ok (.getfield 9, 3) := by decide +kernel
theorem d4 : decode yB 4 = .ok (.arraylength, 1) := by decide +kernel
theorem d5 : decode yB 5 = .ok (.aload_n 0, 1) := by decide +kernel
theorem d6 : decode yB 6 = .ok (.invokevirtual 335, 3) := by decide +kernel
theorem d9 : decode yB 9 = .ok (.ishr, 1) := by decide +kernel
theorem d10 : decode yB 10 = .ok (.ireturn, 1) := by decide +kernel
def site : List Cond := [.fieldLink "java/lang/String" 9 "java/lang/String" "value" "[B", Cdr.tab] ++ virtW "java/lang/String" 335 "java/lang/String" Cdr.yN Cdr.yN
def tab : Cond := tabOf yN yB 1 (some .int) site
def P (x t : Addr) (V : Cell) (cd : Int32) (n : Nat) (f : Nat → Int32) (z : Int32) (args : Array Value) (s : State) : Prop := args = #[.ref x] ∧ Txt x t V cd n f s ∧ StaticIs s "java/lang/String" "COMPACT_STRINGS" "Z" (.int z) ∧ ¬ z = 0
def E (n : Nat) (r : Option Value) (s u : State) : Prop := XT.PureE (some (.int (Int32.ofNat n))) r s u
/-- length() of a String of n chars, in either coding -/
theorem law (l : Launch) (x t : Addr) (V : Cell) (cd : Int32) (n : Nat) (f : Nat → Int32) (z : Int32) : Law l yN 1 0 1 13 yB 1 (some .int) site (P x t V cd n f z) (E n) [] 0 0 := by
  refine Law.of_walk (plainFor_of_name (by decide +kernel)) (by decide +kernel) (by decide +kernel) (by decide) (fun _ _ h => by rw [h.1]; rfl) (fun _ U U' hal hh h => ⟨h.1, h.2.1.mv hal hh, h.2.2.1.there hal hh, h.2.2.2⟩) (fun r U U' V V' h1 hal h2 h => XT.PureE.mv r U U' V V' h1 hal h2 h) ?_
  intro p e s m args below meth c s₁ X0 hexec hbytes hml hret hlk hnm hown hh0 W hP
  obtain ⟨rfl, hx, s1, hz⟩ := hP
  have v31 := hx.2.2.2.1.2.2.2
  have c1 : Steps p.tables e below (s₁.setTop (entryFrame m #[.ref x] 1)) (s₁.setTop (mkF m 1 #[.val (.ref x)] [.ref x])) := Steps.trans (entry rfl) (by
    show Steps p.tables e below (s₁.setTop (mkF m 0 #[.val (.ref x)] [])) _
    refine XS.aloadN X0.here hexec rfl (hb hbytes d0) rfl rfl ?_
    exact Steps.refl _)
  obtain ⟨T2, X2, q2, st2⟩ := X0.hget hexec hown (wk W (.fieldLink "java/lang/String" 9 "java/lang/String" "value" "[B")) (hx.mv X0.warmed.alike hh0).2.1 (g := (mkF m 1 #[.val (.ref x)] [.ref x])) rfl (rest := []) rfl (hb hbytes d1)
  have hh2 := q2.trans hh0
  have hx2 := hx.mv X2.warmed.alike hh2
  have c3 : Steps p.tables e below (s₁.setTop (entryFrame m #[.ref x] 1)) (T2.setTop (mkF m 6 #[.val (.ref x)] [.ref x, .int (Int32.ofNat V.slots.size)])) := (c1.trans (st2 _ (Steps.refl _))).trans (by
    refine X2.alen hexec hx2.2.2.2.1 rfl rfl (hb hbytes d4) ?_
    refine XS.aloadN X2.here hexec rfl (hb hbytes d5) rfl rfl ?_
    exact Steps.refl _)
  obtain ⟨v4, T4, X4, E4, g4⟩ := X2.callV hexec (Cdr.law l x cd z) hown (wks W (virtW "java/lang/String" 335 "java/lang/String" Cdr.yN Cdr.yN)) rfl (by decide) (wk W Cdr.tab) (W := 1) (Nat.le_of_ble_eq_true rfl) (Nat.le_of_ble_eq_true rfl) (Nat.le_refl _) (Nat.le_refl _) (hx2.1.fc X2.warmed.alike) hx2.1.is (g := (mkF m 6 #[.val (.ref x)] [.ref x, .int (Int32.ofNat V.slots.size)])) rfl (by rw [hml]; rfl) c3 (argsL := []) (rest := [.int (Int32.ofNat V.slots.size)]) rfl rfl (by show 2 * 0 + (1 + 0) ≤ _; decide) (hb hbytes d6) (⟨rfl, hx2.2.2.1, hx.2.2.2.2.1.cd, s1.there X2.warmed.alike hh2, hz⟩)
  obtain ⟨rfl, q4⟩ := E4
  have c5 : Steps p.tables e below (s₁.setTop (entryFrame m #[.ref x] 1)) (T4.setTop (mkF m 10 #[.val (.ref x)] [.int (Int32.ofNat V.slots.size >>> (cd &&& 31))])) := Steps.trans g4 (by
    refine ishr X4.here hexec rfl (hb hbytes d9) rfl ?_
    exact Steps.refl _)
  rw [hx.2.2.2.2.1.len v31] at c5
  exact ⟨T4, some (.int (Int32.ofNat n)), _, _, _, X4, rfl, rfl, rfl, (fun h => by cases h), ⟨rfl, q4.trans hh2⟩, fun fs hl => c5.trans (X4.ireturnOut hexec hret rfl (Or.inl rfl) (hb hbytes d10) hl)⟩
theorem pays {l : Launch} {R : Room} {p : Program} {e : Env} {below : List Frame} {s : State} {sargs : Array Value} {len W : Nat} (x t : Addr) (V : Cell) (cd : Int32) (n : Nat) (f : Nat → Int32) (z : Int32) (htab : tab.before sargs s = true) (hfr : 2 ≤ R.frames) (hlo : W + 25 ≤ R.locals) :
    Back l R p e below s sargs yN len W (fun A₁ a₁ => A₁.cells + 0 ≤ R.cells ∧ A₁.slots + 0 ≤ R.slots ∧ P x t V cd n f z a₁ A₁.U) (fun A₁ _ v₁ B₁ => E n v₁ A₁.U B₁.U ∧ B₁.locs = A₁.locs ++ [] ∧ B₁.cells = A₁.cells + 0 ∧ B₁.slots = A₁.slots + 0) :=
  (law l x t V cd n f z).pays htab hfr (by omega)
end Len
namespace IsL
def yN : MethodName := ⟨"java/lang/String", "isLatin1", "()Z"⟩
abbrev yB : ByteArray := jdk_42_method_154_code
theorem d0 : decode yB 0 = .ok (.getstatic 38, 3) := by decide +kernel
theorem d3 : decode yB 3 = .ok (.ifCond (.eq) 14, 3) := by decide +kernel
theorem d6 : decode yB 6 = .ok (.aload_n 0, 1) := by decide +kernel
theorem d7 : decode yB 7 = .ok (.getfield 15, 3) := by decide +kernel
theorem d10 : decode yB 10 = .ok (.ifCond (.ne) 7, 3) := by decide +kernel
theorem d13 : decode yB 13 = .ok (.iconst 1, 1) := by decide +kernel
theorem d14 : decode yB 14 = .ok (.goto 4, 3) := by decide +kernel
theorem d17 : decode yB 17 = .ok (.iconst 0, 1) := by decide +kernel
theorem d18 : decode yB 18 = .ok (.ireturn, 1) := by decide +kernel
def site : List Cond := [.fieldLink "java/lang/String" 38 "java/lang/String" "COMPACT_STRINGS" "Z", .fieldLink "java/lang/String" 15 "java/lang/String" "coder" "B"]
def tab : Cond := tabOf yN yB 1 (some .boolean) site
def P (x : Addr) (cd z : Int32) (args : Array Value) (s : State) : Prop := args = #[.ref x] ∧ Has x "java/lang/String" "coder" "B" (.int cd) s ∧ (cd = 0 ∨ cd = 1) ∧ StaticIs s "java/lang/String" "COMPACT_STRINGS" "Z" (.int z) ∧ ¬ z = 0
def E (cd : Int32) (r : Option Value) (s u : State) : Prop := XT.PureE (some (.int (1 - cd))) r s u
theorem law (l : Launch) (x : Addr) (cd z : Int32) : Law l yN 1 0 0 0 yB 1 (some .boolean) site (P x cd z) (E cd) [] 0 0 := by
  refine Law.of_walk (plainFor_of_name (by decide +kernel)) (by decide +kernel) (by decide +kernel) (by decide) (fun _ _ h => by rw [h.1]; rfl) (fun _ U U' hal hh h => ⟨h.1, h.2.1.mv hal hh, h.2.2.1, h.2.2.2.1.there hal hh, h.2.2.2.2⟩) (fun r U U' V V' h1 hal h2 h => XT.PureE.mv r U U' V V' h1 hal h2 h) ?_
  intro p e s m args below meth c s₁ X0 hexec hbytes hml hret hlk hnm hown hh0 W hP
  obtain ⟨rfl, hx, hc, s1, hz⟩ := hP
  have c1 : Steps p.tables e below (s₁.setTop (entryFrame m #[.ref x] 1)) (s₁.setTop (mkF m 0 #[.val (.ref x)] [])) := entry rfl
  obtain ⟨T2, X2, q2, st2⟩ := X0.sget hexec hown (wk W (.fieldLink "java/lang/String" 38 "java/lang/String" "COMPACT_STRINGS" "Z")) s1 (fun _ _ h => by rw [hh0]; exact h) (g := (mkF m 0 #[.val (.ref x)] [])) rfl (hb hbytes d0)
  have hh2 := q2.trans hh0
  have c3 : Steps p.tables e below (s₁.setTop (entryFrame m #[.ref x] 1)) (T2.setTop (mkF m 7 #[.val (.ref x)] [.ref x])) := (c1.trans (st2 _ (Steps.refl _))).trans (by
    refine XS.ifNo X2.here hexec rfl (hb hbytes d3) rfl (i0_eq_f hz) ?_
    refine XS.aloadN X2.here hexec rfl (hb hbytes d6) rfl rfl ?_
    exact Steps.refl _)
  obtain ⟨T4, X4, q4, st4⟩ := X2.hget hexec hown (wk W (.fieldLink "java/lang/String" 15 "java/lang/String" "coder" "B")) (hx.mv X2.warmed.alike hh2) (g := (mkF m 7 #[.val (.ref x)] [.ref x])) rfl (rest := []) rfl (hb hbytes d7)
  have c5 : Steps p.tables e below (s₁.setTop (entryFrame m #[.ref x] 1)) (T4.setTop (mkF m 10 #[.val (.ref x)] [.int cd])) := c3.trans (st4 _ (Steps.refl _))
  have c6 : Steps p.tables e below (s₁.setTop (entryFrame m #[.ref x] 1)) (T4.setTop (mkF m 18 #[.val (.ref x)] [.int (1 - cd)])) := by
    rcases hc with rfl | rfl
    · exact c5.trans (by
        refine XS.ifNo X4.here hexec rfl (hb hbytes d10) rfl (i0_ne_f rfl) ?_
        refine iconstV X4.here hexec rfl 1 (hb hbytes d13) (by decide) ?_
        refine XS.goto X4.here hexec rfl (pc0 := 14) rfl (hb hbytes d14) (by decide) rfl ?_
        exact Steps.refl _)
    · exact c5.trans (by
        refine XS.ifYes X4.here hexec rfl (pc0 := 10) rfl (hb hbytes d10) rfl (i0_ne_t (by decide)) (by decide) rfl ?_
        refine iconstV X4.here hexec rfl 0 (hb hbytes d17) (by decide) ?_
        exact Steps.refl _)
  exact ⟨T4, some (.int (1 - cd)), _, _, _, X4, rfl, rfl, rfl, (fun h => by cases h), ⟨rfl, q4.trans hh2⟩, fun fs hl => c6.trans (X4.ireturnOut hexec hret (by rcases hc with rfl | rfl <;> rfl) (Or.inr (Or.inl rfl)) (hb hbytes d18) hl)⟩
end IsL
namespace LChA
def yN : MethodName := ⟨"java/lang/StringLatin1", "charAt", "([BI)C"⟩
abbrev yB : ByteArray := jdk_43_method_2_code
theorem d0 : decode yB 0 = .ok (.iload_n 1, 1) := by decide +kernel
theorem d1 : decode yB 1 = .ok (.aload_n 0, 1) := by decide +kernel
theorem d2 : decode yB 2 = .ok (.arraylength, 1) := by decide +kernel
theorem d3 : decode yB 3 = .ok (.invokestatic 9, 3) := by decide +kernel
theorem d6 : decode yB 6 = .ok (.aload_n 0, 1) := by decide +kernel
theorem d7 : decode yB 7 = .ok (.iload_n 1, 1) := by decide +kernel
theorem d8 : decode yB 8 = .ok (.baload, 1) := by decide +kernel
theorem d9 : decode yB 9 = .ok (.sipush 255, 3) := by decide +kernel
theorem d12 : decode yB 12 = .ok (.iand, 1) := by decide +kernel
theorem d13 : decode yB 13 = .ok (.i2c, 1) := by decide +kernel
theorem d14 : decode yB 14 = .ok (.ireturn, 1) := by decide +kernel
def site : List Cond := [JO.Str_checkIndex.tab] ++ staticW "java/lang/StringLatin1" 9 JO.Str_checkIndex.yN
def tab : Cond := tabOf yN yB 2 (some .char) site
def P (t : Addr) (V : Cell) (i : Nat) (u : Int32) (fm : Value) (args : Array Value) (s : State) : Prop := args = #[.ref t, .int (Int32.ofNat i)] ∧ XT.Arr .byte t V s ∧ V.slots[i]? = some (.int u) ∧ (StaticIs s "jdk/internal/util/Preconditions" "SIOOBE_FORMATTER" "Ljava/util/function/BiFunction;" fm ∧ fm.isRef = true)
def E (u : Int32) (r : Option Value) (s w : State) : Prop := XT.PureE (some (.int (chr8 u))) r s w
theorem law (l : Launch) (t : Addr) (V : Cell) (i : Nat) (u : Int32) (fm : Value) : Law l yN 2 2 2 27 yB 2 (some .char) site (P t V i u fm) (E u) [] 0 0 := by
  refine Law.of_walk (plainFor_of_name (by decide +kernel)) (by decide +kernel) (by decide +kernel) (by decide) (fun _ _ h => by rw [h.1]; rfl) (fun _ U U' hal hh h => ⟨h.1, h.2.1.mv hal hh, h.2.2.1, h.2.2.2.1.there hal hh, h.2.2.2.2⟩) (fun r U U' V V' h1 hal h2 h => XT.PureE.mv r U U' V V' h1 hal h2 h) ?_
  intro p e s m args below meth c s₁ X0 hexec hbytes hml hret hlk hnm hown hh0 W hP
  obtain ⟨rfl, hV, hu, s1, rf⟩ := hP
  have v31 := hV.2.2.2
  have hi : i < V.slots.size := (Array.getElem?_eq_some_iff.mp hu).1
  have c1 : Steps p.tables e below (s₁.setTop (entryFrame m #[.ref t, .int (Int32.ofNat i)] 2)) (s₁.setTop (mkF m 0 #[.val (.ref t), .val (.int (Int32.ofNat i))] [])) := entry rfl
  have c2 : Steps p.tables e below (s₁.setTop (entryFrame m #[.ref t, .int (Int32.ofNat i)] 2)) (s₁.setTop (mkF m 3 #[.val (.ref t), .val (.int (Int32.ofNat i))] [.int (Int32.ofNat V.slots.size), .int (Int32.ofNat i)])) := c1.trans (by
    refine XS.iloadN X0.here hexec rfl (hb hbytes d0) rfl ?_
    refine XS.aloadN X0.here hexec rfl (hb hbytes d1) rfl rfl ?_
    refine X0.alen hexec (hV.mv X0.warmed.alike hh0) rfl rfl (hb hbytes d2) ?_
    exact Steps.refl _)
  obtain ⟨v3, T3, X3, E3, g3⟩ := X0.callS hexec (JO.Str_checkIndex.law l (Int32.ofNat i) (Int32.ofNat V.slots.size) fm) hown (wks W (staticW "java/lang/StringLatin1" 9 JO.Str_checkIndex.yN)) (wk W JO.Str_checkIndex.tab) (W := 0) (Nat.le_of_ble_eq_true rfl) (Nat.le_of_ble_eq_true rfl) (Nat.le_refl _) (Nat.le_refl _) (g := (mkF m 3 #[.val (.ref t), .val (.int (Int32.ofNat i))] [.int (Int32.ofNat V.slots.size), .int (Int32.ofNat i)])) rfl (by rw [hml]; rfl) c2 (argsL := [.int (Int32.ofNat i), .int (Int32.ofNat V.slots.size)]) (rest := []) rfl rfl (by show 2 * 0 + 0 ≤ _; decide) (hb hbytes d3) (⟨rfl, rf, s1.there X0.warmed.alike hh0, Int32.ofNat_not_neg (by omega), lt32 v31 hi⟩)
  obtain ⟨rfl, q3⟩ := E3
  have hh3 := q3.trans hh0
  have c4 : Steps p.tables e below (s₁.setTop (entryFrame m #[.ref t, .int (Int32.ofNat i)] 2)) (T3.setTop (mkF m 14 #[.val (.ref t), .val (.int (Int32.ofNat i))] [.int (chr8 u)])) := Steps.trans g3 (by
    refine XS.aloadN X3.here hexec rfl (hb hbytes d6) rfl rfl ?_
    refine XS.iloadN X3.here hexec rfl (hb hbytes d7) rfl ?_
    refine X3.aget hexec (hV.mv X3.warmed.alike hh3) rfl hu rfl rfl (hb hbytes d8) ?_
    refine sipushV X3.here hexec rfl 255 (hb hbytes d9) (by decide) ?_
    refine XS.iand X3.here hexec rfl (hb hbytes d12) rfl ?_
    refine i2c X3.here hexec rfl (hb hbytes d13) rfl ?_
    exact Steps.refl _)
  exact ⟨T3, some (.int (chr8 u)), _, _, _, X3, rfl, rfl, rfl, (fun h => by cases h), ⟨rfl, hh3⟩, fun fs hl => c4.trans (X3.ireturnOut hexec hret (narrow_c _) (Or.inr (Or.inr (Or.inr (Or.inl rfl)))) (hb hbytes d14) hl)⟩
end LChA
end StrChars
namespace StrChars.Road
open Jvm Sem ClassFile Op Lib Jvm.Stand Jvm.Free Jvm.Free.XT
open Jvm.Lib.Cold (StaticIs)
theorem consq {a : Array Value} {s : State} {c : Jvm.Cond} {L : List Jvm.Cond} (h0 : c.before a s = true) (h : ∀ w ∈ L, w.before a s = true) : ∀ w ∈ c :: L, w.before a s = true := fun w hw => (List.mem_cons.mp hw).elim (fun e => e ▸ h0) (h w)
/-- the words of String.length(), either coding -/
abbrev wordsLen : List Jvm.Cond := [.code Len.yN Len.yB 1 (some .int), .initialized ST, .fieldLink ST 9 ST "value" "[B", .fieldLink ST 38 ST "COMPACT_STRINGS" "Z", .fieldLink ST 15 ST "coder" "B", .code Cdr.yN Cdr.yB 1 (some .byte), .methodLink ST 335 Cdr.yN, .declares Cdr.yN, .selects ST Cdr.yN Cdr.yN, .instanceMethod Cdr.yN]
theorem tabLen_of {a : Array Value} {s : State} (h : ∀ w ∈ wordsLen, w.before a s = true) : Len.tab.before a s = true := by
  have hc : Cdr.tab.before a s = true := unparts (wk h (.code Cdr.yN Cdr.yB 1 (some .byte))) (wks h (.initialized Cdr.yN.cls :: Cdr.site))
  have q := consq hc h
  exact unparts (wk q (.code Len.yN Len.yB 1 (some .int))) (wks q (.initialized Len.yN.cls :: Len.site))
theorem movedLen {Z s : State} {a0 args : Array Value} (hZ : Z.Warmed39 s.vm) (hw : ∀ d ∈ wordsLen, d.before a0 Z = true) : ∀ d ∈ wordsLen, d.before args s = true := fun d hd => by
  have q := hw d hd
  have t : ∀ d ∈ wordsLen, d = .arrayClass .byte ∨ (d.onTables && d.keepsFace) = true := by decide +kernel
  rcases t d hd with rfl | t
  · exact RoadKit.mvA hZ q
  · exact RoadKit.mv hZ q t
/-- the bytes of the chars cs, low before high -/
def wideBytes : List Int32 → List Value
  | [] => []
  | c :: cs => .int (lo8 c) :: .int (hi8 c) :: wideBytes cs
theorem wide_lo (d : Value) : ∀ (cs : List Int32) (j : Nat), j < cs.length → (wideBytes cs).getD (2 * j) d = .int (lo8 (cs.getD j 0))
  | [], j, h => absurd h (Nat.not_lt_zero j)
  | c :: cs, 0, _ => rfl
  | c :: cs, j + 1, h => by
    have q := wide_lo d cs j (by simpa using h)
    rw [show 2 * (j + 1) = 2 * j + 1 + 1 from by omega]
    simpa [wideBytes] using q
theorem wide_hi (d : Value) : ∀ (cs : List Int32) (j : Nat), j < cs.length → (wideBytes cs).getD (2 * j + 1) d = .int (hi8 (cs.getD j 0))
  | [], j, h => absurd h (Nat.not_lt_zero j)
  | c :: cs, 0, _ => rfl
  | c :: cs, j + 1, h => by
    have q := wide_hi d cs j (by simpa using h)
    rw [show 2 * (j + 1) + 1 = 2 * j + 1 + 1 + 1 from by omega]
    simpa [wideBytes] using q
theorem low_at (d : Value) (cs : List Int32) (j : Nat) (h : j < cs.length) : (cs.map fun c => Value.int (lo8 c)).getD j d = .int (lo8 (cs.getD j 0)) := by
  simp [List.getD_eq_getElem?_getD, h]
/-- an array of N2 bytes vs codes the chars cs by the coder cd -/
def CodA (cs : List Int32) (cd N2 : Int32) (vs : List Value) : Prop := (cd = 0 ∧ N2 = Int32.ofNat cs.length ∧ vs = (cs.map fun c => Value.int (lo8 c)) ∧ ∀ c ∈ cs, ¬ 255 < c) ∨ (cd = 1 ∧ N2 = Int32.ofNat (2 * cs.length) ∧ vs = wideBytes cs ∧ ∃ c ∈ cs, 255 < c)
theorem CodA.cod {cs : List Int32} {cd N2 : Int32} {vs : List Value} {V : Cell} (h : CodA cs cd N2 vs) (hn : 2 * cs.length < 2 ^ 31) (hs : V.slots.size = N2.toNatClampNeg) (hv : RoadKit.Has V vs (.int 0)) : Cod cd cs.length (fun j => cs.getD j 0) V := by
  rcases h with ⟨rfl, rfl, rfl, h⟩ | ⟨rfl, rfl, rfl, c, hc, hw⟩
  · rw [n32 (by omega)] at hs
    exact Or.inl ⟨rfl, hs, fun j hj => ⟨by rw [hv j (by omega), low_at _ _ _ hj], by
      have e : cs.getD j 0 = cs[j] := by simp [List.getD_eq_getElem?_getD, hj]
      show ¬ 255 < cs.getD j 0
      rw [e]; exact h _ (List.getElem_mem _)⟩⟩
  · rw [n32 (by omega)] at hs
    obtain ⟨j, hj, rfl⟩ := List.getElem_of_mem hc
    exact Or.inr ⟨rfl, hs, fun j hj => ⟨by rw [hv _ (by omega), wide_lo _ _ _ hj], by rw [hv _ (by omega), wide_hi _ _ _ hj]⟩, j, hj, by
      have e : cs.getD j 0 = cs[j] := by simp [List.getD_eq_getElem?_getD, hj]
      show 255 < cs.getD j 0
      rw [e]; exact hw⟩
/-- an object of exactly java/lang/String, its two fields found: as the laws ask it -/
theorem strObj {Z U : State} {a0 : Array Value} {kI : Nat} (wi : (Jvm.Cond.instantiable ST kI).before a0 Z = true) (al : Z.vm.Alike U.vm) {x : Addr} {v0 c0 : Value} (E : RoadKit.Exa Z U.heap x ST) (V : RoadKit.Fld Z U.heap x ST "value" "[B" v0) (C : RoadKit.Fld Z U.heap x ST "coder" "B" c0) :
    ∃ (D : Cell) (fV fC : Field), Blank ST x D U ∧ Found ST "value" "[B" fV U ∧ Found ST "coder" "B" fC U ∧ D.slots[fV.slot]? = some v0 ∧ D.slots[fC.slot]? = some c0 ∧ RoadKit.slotOf Z ST "value" "[B" = fV.slot ∧ RoadKit.slotOf Z ST "coder" "B" = fC.slot := by
  obtain ⟨D, cfV, kV, iV, fV, hD, gV, stV, knV, obV, asV, slV⟩ := V
  obtain ⟨D', cfC, kC, iC, fC, hD', gC, stC, -, -, asC, slC⟩ := C
  cases hD.symm.trans hD'
  obtain ⟨D2, kD, e1, e2, e3, e4, e5⟩ := E
  cases hD.symm.trans e1
  obtain ⟨c2, k2, i1, i2, i3, -⟩ := Cond.instantiable_spec wi
  cases e2.symm.trans i1
  cases e3.symm.trans i2
  obtain ⟨kU, u1, u2⟩ := al.2.2 _ _ e3
  exact ⟨D, fV, fC, ⟨hD, ⟨knV, fun q hq => by rw [hq] at obV; cases obV⟩, by rw [al.findClass]; exact e2, kU, u1, by rw [u2]; exact i3, by rw [u2]; exact e5 i3⟩, ⟨SBG.found_only al ⟨cfV, kV, iV, gV⟩, stV⟩, ⟨SBG.found_only al ⟨cfC, kC, iC, gC⟩, stC⟩, slV, slC, by simp [RoadKit.slotOf, gV], by simp [RoadKit.slotOf, gC]⟩
theorem sta_is {Z U : State} (al : Z.vm.Alike U.vm) {C n d : String} {v : Value} (S : RoadKit.Sta Z U.heap C n d v) : StaticIs U C n d v := by
  obtain ⟨cfS, iS, kS, fS, st, cS, t1, t2, t3, t4, t5, t6, t7⟩ := S
  exact StaticIs.there (s := { Z with heap := U.heap }) ⟨cfS, iS, kS, fS, st, cS, t1, t2, t3, t4, t5, (fun q => by rw [q] at t6; cases t6), t7⟩ al rfl
/-- **length() OF SUCH A STRING** -/
theorem lenW {p : Program} {l : Launch} {e : Env} {R : Room} {s : State} {args : Array Value} {below : List Frame} {len W : Nat} {Z : State} {a0 : Array Value} {h : Heap} (hZ : Z.Warmed39 s.vm) (hw : ∀ d ∈ wordsLen, d.before a0 Z = true) {kI : Nat} (wi : (Jvm.Cond.instantiable ST kI).before a0 Z = true)
    {x t : Addr} {kb : ClassId} {cs : List Int32} {cd N2 z : Int32} {vs : List Value} (E : RoadKit.Exa Z h x ST) (V : RoadKit.Fld Z h x ST "value" "[B" (.ref t)) (C : RoadKit.Fld Z h x ST "coder" "B" (.int cd)) (K : RoadKit.Arv Z h t kb .byte N2 vs (.int 0)) (hc : CodA cs cd N2 vs) (hb : ∀ c ∈ cs, ¬ c < 0 ∧ ¬ (65535 : Int32) < c)
    (S : RoadKit.Sta Z h ST "COMPACT_STRINGS" "Z" (.int z)) (hz : ¬ z = 0) (l2 : cs.length ≤ 4000) (hfr : 2 ≤ R.frames) (hlo : W + 25 ≤ R.locals) :
    Back l R p e below s args (⟨"java/lang/String", "length", "()I"⟩ : MethodName) len W (fun P a => a = #[.ref x] ∧ P.U.heap = h ∧ P.cells + 0 ≤ R.cells ∧ P.slots + 0 ≤ R.slots)
      (fun P _ v B => ∃ L, (v = some (.int (Int32.ofNat cs.length)) ∧ L = [] ∧ B.U.heap = h) ∧ B.locs = P.locs ++ L ∧ B.cells = P.cells + 0 ∧ B.slots = P.slots + 0) := by
  obtain ⟨A, K1, K2, K3, K4, K5, K6⟩ := K
  have hcod := hc.cod (by omega) K3 K5
  intro m meth c P g ig mk a X hg hsize hdg hW hn hp'
  obtain ⟨rfl, rfl, r1, r2⟩ := hp'
  have al : Z.vm.Alike P.U.vm := hZ.alike.trans X.warmed.alike
  obtain ⟨D, fV, fC, hB, F1, F2, g1, g2, -, -⟩ := strObj wi al E V C
  have hx : Txt x t A cd cs.length (fun j => cs.getD j 0) P.U := ⟨⟨_, hB.2.2.1, D, hB.1, rfl, by cases q : D.vm <;> first | rfl | exact absurd q (hB.2.1.2 _)⟩, Has.of hB F1 g1, Has.of hB F2 g2, ⟨K1.1, State.isArrayOf_alike al K1.2.1, K1.2.2, by rcases hcod with ⟨-, q, -⟩ | ⟨-, q, -⟩ <;> omega⟩, hcod, fun j hj => by
    have e : cs.getD j 0 = cs[j] := by simp [List.getD_eq_getElem?_getD, hj]
    show ¬ cs.getD j 0 < 0 ∧ ¬ 65535 < cs.getD j 0
    rw [e]; exact hb _ (List.getElem_mem _)⟩
  obtain ⟨v, B, X', ⟨⟨hv, hh⟩, hl, hk, hs⟩, st⟩ := Len.pays x t A cd cs.length (fun j => cs.getD j 0) z (tabLen_of (movedLen hZ hw)) hfr hlo m meth c P g ig mk _ X hg hsize hdg hW hn ⟨r1, r2, rfl, hx, sta_is al S, hz⟩
  exact ⟨v, B, X', ⟨[], ⟨hv, rfl, hh⟩, hl, hk, hs⟩, st⟩
end StrChars.Road
namespace StrChars.Road
open Jvm Sem ClassFile Op Lib Jvm.Stand Jvm.Free Jvm.Free.XT
open Jvm.Lib.Cold (StaticIs)
/-- the road's facts of a String, as the laws ask it -/
theorem txt_of {Z U : State} {a0 : Array Value} {kI : Nat} (wi : (Jvm.Cond.instantiable ST kI).before a0 Z = true) (al : Z.vm.Alike U.vm) {x t : Addr} {kb : ClassId} {cs : List Int32} {cd N2 : Int32} {vs : List Value} (E : RoadKit.Exa Z U.heap x ST) (V : RoadKit.Fld Z U.heap x ST "value" "[B" (.ref t)) (C : RoadKit.Fld Z U.heap x ST "coder" "B" (.int cd)) (K : RoadKit.Arv Z U.heap t kb .byte N2 vs (.int 0)) (hc : CodA cs cd N2 vs) (hb : ∀ c ∈ cs, ¬ c < 0 ∧ ¬ (65535 : Int32) < c) (l2 : cs.length ≤ 4000) :
    ∃ A, Txt x t A cd cs.length (fun j => cs.getD j 0) U := by
  obtain ⟨A, K1, K2, K3, K4, K5, K6⟩ := K
  have hcod := hc.cod (by omega) K3 K5
  obtain ⟨D, fV, fC, hB, F1, F2, g1, g2, -, -⟩ := strObj wi al E V C
  exact ⟨A, ⟨_, hB.2.2.1, D, hB.1, rfl, by cases q : D.vm <;> first | rfl | exact absurd q (hB.2.1.2 _)⟩, Has.of hB F1 g1, Has.of hB F2 g2, ⟨K1.1, State.isArrayOf_alike al K1.2.1, K1.2.2, by rcases hcod with ⟨-, q, -⟩ | ⟨-, q, -⟩ <;> omega⟩, hcod, fun j hj => by
    have e : cs.getD j 0 = cs[j] := by simp [List.getD_eq_getElem?_getD, hj]
    show ¬ cs.getD j 0 < 0 ∧ ¬ 65535 < cs.getD j 0
    rw [e]; exact hb _ (List.getElem_mem _)⟩
end StrChars.Road
namespace StrChars
open Jvm Sem ClassFile Op Lib Jvm.Stand Jvm.Free.XT Jvm.Free.ALB Jvm.Free.JM Jvm.Free
open Jvm.Lib.Cold (StaticIs)
namespace ChN
def yN : MethodName := ⟨"java/lang/String", "charAt", "(I)C"⟩
abbrev yB : ByteArray := jdk_42_method_56_code
theorem d0 : decode yB 0 = .ok (.aload_n 0, 1) := by decide +kernel
theorem d1 : decode yB 1 = .ok (.invokevirtual 492, 3) := by decide +kernel
theorem d4 : decode yB 4 = .ok (.ifCond (.eq) 12, 3) := by decide +kernel
theorem d7 : decode yB 7 = .ok (.aload_n 0, 1) := by decide +kernel
theorem d8 : decode yB 8 = .ok (.getfield 9, 3) := by decide +kernel
theorem d11 : decode yB 11 = .ok (.iload_n 1, 1) := by decide +kernel
theorem d12 : decode yB 12 = .ok (.invokestatic 495, 3) := by decide +kernel
theorem d15 : decode yB 15 = .ok (.ireturn, 1) := by decide +kernel
def site : List Cond := [.fieldLink "java/lang/String" 9 "java/lang/String" "value" "[B", IsL.tab, LChA.tab] ++ virtW "java/lang/String" 492 "java/lang/String" IsL.yN IsL.yN ++ staticW "java/lang/String" 495 LChA.yN
def tab : Cond := tabOf yN yB 2 (some .char) site
def P (x t : Addr) (V : Cell) (n : Nat) (f : Nat → Int32) (z : Int32) (fm : Value) (i : Nat) (args : Array Value) (s : State) : Prop := args = #[.ref x, .int (Int32.ofNat i)] ∧ Txt x t V 0 n f s ∧ i < n ∧ StaticIs s "java/lang/String" "COMPACT_STRINGS" "Z" (.int z) ∧ ¬ z = 0 ∧ StaticIs s "jdk/internal/util/Preconditions" "SIOOBE_FORMATTER" "Ljava/util/function/BiFunction;" fm ∧ fm.isRef = true
def E (f : Nat → Int32) (i : Nat) (r : Option Value) (s u : State) : Prop := XT.PureE (some (.int (f i))) r s u
/-- charAt(i) of a Latin-1 String of n chars, i < n: f i -/
theorem law (l : Launch) (x t : Addr) (V : Cell) (n : Nat) (f : Nat → Int32) (z : Int32) (fm : Value) (i : Nat) : Law l yN 2 1 3 40 yB 2 (some .char) site (P x t V n f z fm i) (E f i) [] 0 0 := by
  refine Law.of_walk (plainFor_of_name (by decide +kernel)) (by decide +kernel) (by decide +kernel) (by decide) (fun _ _ h => by rw [h.1]; rfl) (fun _ U U' hal hh h => ⟨h.1, h.2.1.mv hal hh, h.2.2.1, h.2.2.2.1.there hal hh, h.2.2.2.2.1, h.2.2.2.2.2.1.there hal hh, h.2.2.2.2.2.2⟩) (fun r U U' V V' h1 hal h2 h => XT.PureE.mv r U U' V V' h1 hal h2 h) ?_
  intro p e s m args below meth c s₁ X0 hexec hbytes hml hret hlk hnm hown hh0 W hP
  obtain ⟨rfl, hx, hi, s1, hz, s3, rf⟩ := hP
  have v31 := hx.2.2.2.1.2.2.2
  have hr := hx.2.2.2.2.2 i hi
  have hx0 := hx.mv X0.warmed.alike hh0
  have c1 : Steps p.tables e below (s₁.setTop (entryFrame m #[.ref x, .int (Int32.ofNat i)] 2)) (s₁.setTop (mkF m 1 #[.val (.ref x), .val (.int (Int32.ofNat i))] [.ref x])) := Steps.trans (entry rfl) (by
    show Steps p.tables e below (s₁.setTop (mkF m 0 #[.val (.ref x), .val (.int (Int32.ofNat i))] [])) _
    refine XS.aloadN X0.here hexec rfl (hb hbytes d0) rfl rfl ?_
    exact Steps.refl _)
  obtain ⟨v2, T2, X2, E2, g2⟩ := X0.callV hexec (IsL.law l x 0 z) hown (wks W (virtW "java/lang/String" 492 "java/lang/String" IsL.yN IsL.yN)) rfl (by decide) (wk W IsL.tab) (W := 0) (Nat.le_of_ble_eq_true rfl) (Nat.le_of_ble_eq_true rfl) (Nat.le_refl _) (Nat.le_refl _) (hx0.1.fc X0.warmed.alike) hx0.1.is (g := (mkF m 1 #[.val (.ref x), .val (.int (Int32.ofNat i))] [.ref x])) rfl (by rw [hml]; rfl) c1 (argsL := []) (rest := []) rfl rfl (by show 2 * 0 + 0 ≤ _; decide) (hb hbytes d1) (⟨rfl, hx0.2.2.1, hx.2.2.2.2.1.cd, s1.there X0.warmed.alike hh0, hz⟩)
  obtain ⟨rfl, q2⟩ := E2
  have hh2 := q2.trans hh0
  have hx2 := hx.mv X2.warmed.alike hh2
  obtain ⟨-, k1, k2⟩ | ⟨k0, -⟩ := hx.2.2.2.2.1
  · have c3 : Steps p.tables e below (s₁.setTop (entryFrame m #[.ref x, .int (Int32.ofNat i)] 2)) (T2.setTop (mkF m 8 #[.val (.ref x), .val (.int (Int32.ofNat i))] [.ref x])) := Steps.trans g2 (by
      refine XS.ifNo X2.here hexec rfl (hb hbytes d4) rfl (i0_eq_f (by decide)) ?_
      refine XS.aloadN X2.here hexec rfl (hb hbytes d7) rfl rfl ?_
      exact Steps.refl _)
    obtain ⟨T4, X4, q4, st4⟩ := X2.hget hexec hown (wk W (.fieldLink "java/lang/String" 9 "java/lang/String" "value" "[B")) hx2.2.1 (g := (mkF m 8 #[.val (.ref x), .val (.int (Int32.ofNat i))] [.ref x])) rfl (rest := []) rfl (hb hbytes d8)
    have hh4 := q4.trans hh2
    have c5 : Steps p.tables e below (s₁.setTop (entryFrame m #[.ref x, .int (Int32.ofNat i)] 2)) (T4.setTop (mkF m 12 #[.val (.ref x), .val (.int (Int32.ofNat i))] [.int (Int32.ofNat i), .ref t])) := (c3.trans (st4 _ (Steps.refl _))).trans (by
      refine XS.iloadN X4.here hexec rfl (hb hbytes d11) rfl ?_
      exact Steps.refl _)
    obtain ⟨v6, T6, X6, E6, g6⟩ := X4.callS hexec (LChA.law l t V i (lo8 (f i)) fm) hown (wks W (staticW "java/lang/String" 495 LChA.yN)) (wk W LChA.tab) (W := 0) (Nat.le_of_ble_eq_true rfl) (Nat.le_of_ble_eq_true rfl) (Nat.le_refl _) (Nat.le_refl _) (g := (mkF m 12 #[.val (.ref x), .val (.int (Int32.ofNat i))] [.int (Int32.ofNat i), .ref t])) rfl (by rw [hml]; rfl) c5 (argsL := [.ref t, .int (Int32.ofNat i)]) (rest := []) rfl rfl (by show 2 * 0 + 0 ≤ _; decide) (hb hbytes d12) (⟨rfl, hx.2.2.2.1.mv X4.warmed.alike hh4, (k2 i hi).1, s3.there X4.warmed.alike hh4, rf⟩)
    obtain ⟨rfl, q6⟩ := E6
    rw [chr8_lo8 hr.1 (k2 i hi).2] at g6
    exact ⟨T6, some (.int (f i)), _, _, _, X6, rfl, rfl, rfl, (fun h => by cases h), ⟨rfl, q6.trans hh4⟩, fun fs hl => Steps.trans g6 (X6.ireturnOut hexec hret (narrow_ch hr.1 hr.2) (Or.inr (Or.inr (Or.inr (Or.inl rfl)))) (hb hbytes d15) hl)⟩
  · exact absurd k0 (by decide)
theorem pays {l : Launch} {R : Room} {p : Program} {e : Env} {below : List Frame} {s : State} {sargs : Array Value} {len W : Nat} (x t : Addr) (V : Cell) (n : Nat) (f : Nat → Int32) (z : Int32) (fm : Value) (i : Nat) (htab : tab.before sargs s = true) (hfr : 4 ≤ R.frames) (hlo : W + 53 ≤ R.locals) :
    Back l R p e below s sargs yN len W (fun A₁ a₁ => A₁.cells + 0 ≤ R.cells ∧ A₁.slots + 0 ≤ R.slots ∧ P x t V n f z fm i a₁ A₁.U) (fun A₁ _ v₁ B₁ => E f i v₁ A₁.U B₁.U ∧ B₁.locs = A₁.locs ++ [] ∧ B₁.cells = A₁.cells + 0 ∧ B₁.slots = A₁.slots + 0) :=
  (law l x t V n f z fm i).pays htab hfr (by omega)
end ChN
end StrChars
namespace StrChars.Road
open Jvm Sem ClassFile Op Lib Jvm.Stand Jvm.Free Jvm.Free.XT
open Jvm.Lib.Cold (StaticIs)
/-- the words of String.charAt(int), the Latin-1 road alone -/
abbrev wordsChN : List Jvm.Cond := [.code ChN.yN ChN.yB 2 (some .char), .initialized ST, .fieldLink ST 9 ST "value" "[B", .fieldLink ST 38 ST "COMPACT_STRINGS" "Z", .fieldLink ST 15 ST "coder" "B", .code IsL.yN IsL.yB 1 (some .boolean), .methodLink ST 492 IsL.yN, .declares IsL.yN, .selects ST IsL.yN IsL.yN, .instanceMethod IsL.yN,
  .methodLink ST 495 LChA.yN, .static LChA.yN, .code LChA.yN LChA.yB 2 (some .char), .initialized "java/lang/StringLatin1", .methodLink "java/lang/StringLatin1" 9 JO.Str_checkIndex.yN, .static JO.Str_checkIndex.yN, .code JO.Str_checkIndex.yN JO.Str_checkIndex.yB 2 none,
  .fieldLink ST 1053 "jdk/internal/util/Preconditions" "SIOOBE_FORMATTER" "Ljava/util/function/BiFunction;", .methodLink ST 1059 JC.PreCheck.yN, .static JC.PreCheck.yN, .code JC.PreCheck.yN JC.PreCheck.yB 3 (some .int), .initialized "jdk/internal/util/Preconditions"]
theorem tabChN_of {a : Array Value} {s : State} (h : ∀ w ∈ wordsChN, w.before a s = true) : ChN.tab.before a s = true := by
  have hp : JC.PreCheck.tab.before a s = true := unparts (wk h (.code JC.PreCheck.yN JC.PreCheck.yB 3 (some .int))) (wks h (.initialized JC.PreCheck.yN.cls :: JC.PreCheck.site))
  have qk := consq hp h
  have hk : JO.Str_checkIndex.tab.before a s = true := unparts (wk qk (.code JO.Str_checkIndex.yN JO.Str_checkIndex.yB 2 none)) (wks qk (.initialized JO.Str_checkIndex.yN.cls :: JO.Str_checkIndex.site))
  have ql := consq hk h
  have hl : LChA.tab.before a s = true := unparts (wk ql (.code LChA.yN LChA.yB 2 (some .char))) (wks ql (.initialized LChA.yN.cls :: LChA.site))
  have hi : IsL.tab.before a s = true := unparts (wk h (.code IsL.yN IsL.yB 1 (some .boolean))) (wks h (.initialized IsL.yN.cls :: IsL.site))
  have q := consq hi (consq hl h)
  exact unparts (wk q (.code ChN.yN ChN.yB 2 (some .char))) (wks q (.initialized ChN.yN.cls :: ChN.site))
theorem movedChN {Z s : State} {a0 args : Array Value} (hZ : Z.Warmed39 s.vm) (hw : ∀ d ∈ wordsChN, d.before a0 Z = true) : ∀ d ∈ wordsChN, d.before args s = true := fun d hd => by
  have t : ∀ d ∈ wordsChN, (d.onTables && d.keepsFace) = true := by decide +kernel
  exact RoadKit.mv hZ (hw d hd) (t d hd)
/-- **charAt(i) OF A LATIN-1 STRING**, i < n: the char -/
theorem chN {p : Program} {l : Launch} {e : Env} {R : Room} {s : State} {args : Array Value} {below : List Frame} {len W : Nat} {Z : State} {a0 : Array Value} {h : Heap} (hZ : Z.Warmed39 s.vm) (hw : ∀ d ∈ wordsChN, d.before a0 Z = true) {kI : Nat} (wi : (Jvm.Cond.instantiable ST kI).before a0 Z = true)
    {x t : Addr} {kb : ClassId} {cs : List Int32} {N2 z : Int32} {vs : List Value} {fm : Value} {i : Nat} {j : Int32} (E : RoadKit.Exa Z h x ST) (V : RoadKit.Fld Z h x ST "value" "[B" (.ref t)) (C : RoadKit.Fld Z h x ST "coder" "B" (.int 0)) (K : RoadKit.Arv Z h t kb .byte N2 vs (.int 0)) (hc : CodA cs 0 N2 vs) (hb : ∀ c ∈ cs, ¬ c < 0 ∧ ¬ (65535 : Int32) < c)
    (S : RoadKit.Sta Z h ST "COMPACT_STRINGS" "Z" (.int z)) (hz : ¬ z = 0) (F : RoadKit.Sta Z h "jdk/internal/util/Preconditions" "SIOOBE_FORMATTER" "Ljava/util/function/BiFunction;" fm) (rf : fm.isRef = true) (l2 : cs.length ≤ 4000) (hi : i < cs.length) (hj : j = Int32.ofNat i) (hfr : 4 ≤ R.frames) (hlo : W + 53 ≤ R.locals) :
    Back l R p e below s args (⟨"java/lang/String", "charAt", "(I)C"⟩ : MethodName) len W (fun P a => a = #[.ref x, .int j] ∧ P.U.heap = h ∧ P.cells + 0 ≤ R.cells ∧ P.slots + 0 ≤ R.slots)
      (fun P _ v B => ∃ L, (v = some (.int (cs.getD i 0)) ∧ L = [] ∧ B.U.heap = h) ∧ B.locs = P.locs ++ L ∧ B.cells = P.cells + 0 ∧ B.slots = P.slots + 0) := by
  subst hj
  intro m meth c P g ig mk a X hg hsize hdg hW hn hp'
  obtain ⟨rfl, rfl, r1, r2⟩ := hp'
  have al : Z.vm.Alike P.U.vm := hZ.alike.trans X.warmed.alike
  obtain ⟨A, hx⟩ := txt_of wi al E V C K hc hb l2
  obtain ⟨v, B, X', ⟨⟨hv, hh⟩, hl, hk, hs⟩, st⟩ := ChN.pays x t A cs.length (fun j => cs.getD j 0) z fm i (tabChN_of (movedChN hZ hw)) hfr hlo m meth c P g ig mk _ X hg hsize hdg hW hn ⟨r1, r2, rfl, hx, hi, sta_is al S, hz, sta_is al F, rf⟩
  exact ⟨v, B, X', ⟨[], ⟨hv, rfl, hh⟩, hl, hk, hs⟩, st⟩
/-- what backV says of its String, as the contracts of this text ask it: cs's low bytes, coder 0 -/
theorem codOf {cs : List Int32} {n : Nat} (hn : cs.length = n) (hb : ∀ c ∈ cs, ¬ 255 < c) : CodA cs 0 (Int32.ofNat n) ((cs.map lo8).map Value.int) := Or.inl ⟨rfl, by rw [hn], by simp [List.map_map, Function.comp_def], hb⟩
end StrChars.Road
end Jvm.Pilot.@@N@@
namespace Jvm.Pilot.@@N@@
open Jvm Jvm.ClassFile Sem Op Lib Jvm.Free Jvm.Stand Jvm.LawKit Jvm.RoadKit Jvm.OwnKit
/-- the object at a is a String of these chars -/
def SV (Z : State) (h : Heap) (a : Addr) (cs : List Int32) : Prop :=
  Exa Z h a "java/lang/String" ∧ ∃ (cd : Int32) (b : Addr) (kb : ClassId) (N2 : Int32) (vs : List Value), Fld Z h a "java/lang/String" "coder" "B" (.int cd) ∧ Fld Z h a "java/lang/String" "value" "[B" (.ref b) ∧ Arv Z h b kb .byte N2 vs (.int 0) ∧ StrChars.Road.CodA cs cd N2 vs ∧ (∀ c ∈ cs, ¬ c < 0 ∧ ¬ (65535 : Int32) < c) ∧ cs.length ≤ 4000
theorem SV.exa {Z : State} {h : Heap} {a : Addr} {cs : List Int32} (S : SV Z h a cs) : Exa Z h a "java/lang/String" := S.1
theorem SV.lt {Z : State} {h : Heap} {a : Addr} {cs : List Int32} (S : SV Z h a cs) : a < h.size := S.1.lt
theorem SV.ext {Z : State} {h h' : Heap} {a : Addr} {cs : List Int32} (S : SV Z h a cs) (E : Ext h h') : SV Z h' a cs := by
  obtain ⟨X, cd, b, kb, N2, vs, C, V, A, r⟩ := S
  exact ⟨X.ext E, cd, b, kb, N2, vs, C.ext E, V.ext E, A.ext E, r⟩
theorem SV.keepX {Z : State} {h h' : Heap} {a : Addr} {cs : List Int32} {ws : List Addr} (S : SV Z h a cs) (K : Keep h h' ws) (q : ∀ x ∈ ws, x ≠ a ∧ NB Z h x) : SV Z h' a cs := by
  obtain ⟨X, cd, b, kb, N2, vs, C, V, A, r⟩ := S
  have ha : a ∉ ws := fun z => (q a z).1 rfl
  have hb : b ∉ ws := fun z => by obtain ⟨c, A', -⟩ := A; exact (q b z).2 c A'
  exact ⟨X.keep K, cd, b, kb, N2, vs, C.keep K ha, V.keep K ha, A.keep K hb, r⟩
section Str
variable {p : Program} {l : Launch} {e : Env} {R : Room} {s : State} {args : Array Value} {below : List Frame} {len Wd : Nat} {Z : State} {a0 : Array Value} {h : Heap} {vm0 : Vm}
/-- new String(char[]) of one or more chars below 256 -/
theorem newS (hZ : Z.Warmed39 vm0) (hw : ∀ d ∈ StrChars.Road.words, d.before a0 Z = true) (wi : (Jvm.Cond.instantiable "java/lang/String" 4).before a0 Z = true) (O : Ext Z.heap h) {x b : Addr} {kC : ClassId} {cs : List Int32} {d v0 c0 : Value} {z N : Int32}
    (hx0 : Z.heap.size ≤ x) (E : Exa Z h x "java/lang/String") (V : Fld Z h x "java/lang/String" "value" "[B" v0) (C : Fld Z h x "java/lang/String" "coder" "B" c0) (K : Arv Z h b kC .char N (cs.map Value.int) d) (S : Sta Z Z.heap "java/lang/String" "COMPACT_STRINGS" "Z" (.int z)) (hz : ¬ z = 0)
    (n : Nat) (hn : cs.length = n) (hN : N = Int32.ofNat n) (l0 : 0 < n) (l2 : n ≤ 4000) (hp : ∀ c ∈ cs, C8 c) (hfr : 4 ≤ R.frames) (hlo : Wd + 65 ≤ R.locals) :
    Back l R p e below (s.setVm vm0) args (⟨"java/lang/String", "<init>", "([C)V"⟩ : MethodName) len Wd (PreB R #[.ref x, .ref b] h 1 n) (PostB Z h [x] (fun v h' => v = none ∧ SV Z h' x cs) 1 n) := by
  refine Back.mono (StrChars.Road.backV (s := s.setVm vm0) hZ hw wi (bs := cs.map (fun c => c.toInt8.toInt32)) hx0 O.1 E V C K (S.ext O) hz hn hN l0 l2 hp rfl hfr hlo) (fun _ _ q => q) (fun P a v B hp' hq => ?_)
  obtain ⟨L, ⟨q1, q2, q3, q4, q5, t, kb, -, -, -, q6, q7⟩, hl, hc, hs⟩ := hq
  exact ⟨L, ⟨q2, q3, q1, q4, 0, t, kb, N, _, q5, q6, q7, by rw [hN]; exact StrChars.Road.codOf hn (fun c hc => (hp c hc).2), fun c hc => (hp c hc).up, by omega⟩, hl, hc, hs⟩
end Str
end Jvm.Pilot.@@N@@
namespace Jvm.Pilot.@@N@@
open Jvm Jvm.ClassFile Sem Op Lib Jvm.Free Jvm.Stand Jvm.LawKit Jvm.RoadKit Jvm.OwnKit
theorem lenS {p : Program} {l : Launch} {e : Env} {R : Room} {s : State} {args : Array Value} {below : List Frame} {len Wd : Nat} {Z : State} {a0 : Array Value} {h : Heap} {vm0 : Vm} (hZ : Z.Warmed39 vm0) (hw : ∀ d ∈ StrChars.Road.wordsLen, d.before a0 Z = true) (wi : (Jvm.Cond.instantiable "java/lang/String" 4).before a0 Z = true) (O : Ext Z.heap h) {x : Addr} {cs : List Int32} {z : Int32}
    (S : SV Z h x cs) (hC : Sta Z Z.heap "java/lang/String" "COMPACT_STRINGS" "Z" (.int z)) (hz : ¬ z = 0) (hfr : 2 ≤ R.frames) (hlo : Wd + 25 ≤ R.locals) :
    Back l R p e below (s.setVm vm0) args (⟨"java/lang/String", "length", "()I"⟩ : MethodName) len Wd (PreB R #[.ref x] h 0 0) (PostB Z h [] (fun v h' => v = some (.int (Int32.ofNat cs.length)) ∧ h' = h) 0 0) := by
  obtain ⟨E, cd, b, kb, N2, vs, C, V, A, hc, hb, l2⟩ := S
  refine Back.mono (StrChars.Road.lenW (s := s.setVm vm0) hZ hw wi E V C A hc hb (hC.ext O) hz l2 hfr hlo) (fun _ _ q => q) (fun P a v B hp hq => ?_)
  obtain ⟨L, ⟨q1, q2, q3⟩, hl, hk, hs⟩ := hq
  exact ⟨L, ⟨by rw [q2]; exact Fr.nil _, by rw [q3]; exact Keep.refl _ _, q1, q3⟩, hl, hk, hs⟩
end Jvm.Pilot.@@N@@
namespace Jvm.Pilot.@@N@@
open Jvm Jvm.ClassFile Sem Op Lib Jvm.Free Jvm.Stand Jvm.LawKit Jvm.RoadKit Jvm.OwnKit
theorem chS {p : Program} {l : Launch} {e : Env} {R : Room} {s : State} {args : Array Value} {below : List Frame} {len Wd : Nat} {Z : State} {a0 : Array Value} {h : Heap} {vm0 : Vm} (hZ : Z.Warmed39 vm0) (hw : ∀ d ∈ StrChars.Road.wordsChN, d.before a0 Z = true) (wi : (Jvm.Cond.instantiable "java/lang/String" 4).before a0 Z = true) (O : Ext Z.heap h) {x : Addr} {cs : List Int32} {z : Int32} {fm : Value}
    (S : SV Z h x cs) (h8 : ∀ c ∈ cs, C8 c) (hC : Sta Z Z.heap "java/lang/String" "COMPACT_STRINGS" "Z" (.int z)) (hz : ¬ z = 0) (hF : Sta Z Z.heap "jdk/internal/util/Preconditions" "SIOOBE_FORMATTER" "Ljava/util/function/BiFunction;" fm) (rf : fm.isRef = true) (i : Nat) (hi : i < cs.length) {j : Int32} (hj : j = Int32.ofNat i) (hfr : 4 ≤ R.frames) (hlo : Wd + 53 ≤ R.locals) :
    Back l R p e below (s.setVm vm0) args (⟨"java/lang/String", "charAt", "(I)C"⟩ : MethodName) len Wd (PreB R #[.ref x, .int j] h 0 0) (PostB Z h [] (fun v h' => v = some (.int (cs.getD i 0)) ∧ h' = h) 0 0) := by
  obtain ⟨E, cd, b, kb, N2, vs, C, V, A, hc, hb, l2⟩ := S
  have hcd : cd = 0 := by
    rcases hc with ⟨q, -⟩ | ⟨-, -, -, c, hc1, hc2⟩
    · exact q
    · exact absurd hc2 (h8 c hc1).2
  subst hcd
  refine Back.mono (StrChars.Road.chN (s := s.setVm vm0) hZ hw wi E V C A hc hb (hC.ext O) hz (hF.ext O) rf l2 hi hj hfr hlo) (fun _ _ q => q) (fun P a v B hp hq => ?_)
  obtain ⟨L, ⟨q1, q2, q3⟩, hl, hk, hs⟩ := hq
  exact ⟨L, ⟨by rw [q2]; exact Fr.nil _, by rw [q3]; exact Keep.refl _ _, q1, q3⟩, hl, hk, hs⟩
end Jvm.Pilot.@@N@@
namespace Jvm.Pilot.@@N@@
open Jvm Jvm.ClassFile Sem Op Lib Jvm.Free Jvm.Stand Jvm.LawKit Jvm.RoadKit Jvm.OwnKit
/-- a String of chars below 256: its bytes -/
theorem SV.lat {Z : State} {h : Heap} {a : Addr} {cs : List Int32} (S : SV Z h a cs) (h8 : ∀ c ∈ cs, C8 c) : ∃ (b : Addr) (kb : ClassId), Fld Z h a "java/lang/String" "coder" "B" (.int 0) ∧ Fld Z h a "java/lang/String" "value" "[B" (.ref b) ∧ Arv Z h b kb .byte (Int32.ofNat cs.length) ((cs.map OwnKit.i2b).map Value.int) (.int 0) ∧ cs.length ≤ 4000 := by
  obtain ⟨X, cd, b, kb, N2, vs, C, V, A, r, c16, ln⟩ := S
  rcases r with ⟨rfl, rfl, rfl, -⟩ | ⟨-, -, -, c, hc, q⟩
  · refine ⟨b, kb, C, V, ?_, ln⟩
    rw [List.map_map]; exact A
  · exact absurd q (h8 c hc).2
theorem SV.ofLat {Z : State} {h : Heap} {a b : Addr} {kb : ClassId} {n : Int32} {cs : List Int32} (X : Exa Z h a "java/lang/String") (V : Fld Z h a "java/lang/String" "value" "[B" (.ref b)) (C : Fld Z h a "java/lang/String" "coder" "B" (.int 0)) (A : Arv Z h b kb .byte n ((cs.map OwnKit.i2b).map Value.int) (.int 0)) (hn : n = Int32.ofNat cs.length) (h8 : ∀ c ∈ cs, C8 c) (hl : cs.length ≤ 4000) : SV Z h a cs := by
  rw [List.map_map] at A
  exact ⟨X, 0, b, kb, n, _, C, V, A, Or.inl ⟨rfl, hn, rfl, fun c hc => (h8 c hc).2⟩, fun c hc => (h8 c hc).up, hl⟩
end Jvm.Pilot.@@N@@
namespace Jvm.Pilot.@@N@@
open Jvm Jvm.ClassFile Sem Op Lib Jvm.Free Jvm.Stand Jvm.LawKit Jvm.RoadKit Jvm.OwnKit
/-- the bytes of a builder of 16 places that holds these chars -/
def sbl (L : List Int32) : List Value := (L.map OwnKit.i2b ++ List.replicate (16 - L.length) 0).map Value.int
theorem shl0 (x : Int32) : x <<< ((0 : Int32) &&& 31) = x := by
  have e : (0 : Int32) &&& 31 = 0 := by decide
  rw [e]
  apply Int32.toBitVec_inj.mp
  show x.toBitVec <<< ((0 : Int32).toBitVec.smod 32) = x.toBitVec
  rw [show ((0 : Int32).toBitVec.smod 32) = 0#32 from by decide]
  simp
theorem ofn_add (a b : Nat) : Int32.ofNat a + Int32.ofNat b = Int32.ofNat (a + b) := (Int32.ofNat_add a b).symm
theorem sbl_room {a b : Nat} (h : a + b ≤ 16) : ¬ 0 < (Int32.ofNat a + Int32.ofNat b) - (16 : Int32) := by
  rw [ofn_add, i32lt]
  have e : (Int32.ofNat (a + b)).toInt = ((a + b : Nat) : Int) := ofn (by omega)
  have e16 : (16 : Int32).toInt = 16 := rfl
  have e0 : (0 : Int32).toInt = 0 := rfl
  rw [Jvm.Kit.i32_sub (by omega) (by omega)]; omega
theorem sbl_app {L cs : List Int32} (h : L.length + cs.length ≤ 16) : (sbl L).take (Int32.ofNat L.length).toNatClampNeg ++ (cs.map OwnKit.i2b).map Value.int ++ (sbl L).drop ((Int32.ofNat L.length).toNatClampNeg + (Int32.ofNat cs.length).toNatClampNeg) = sbl (L ++ cs) := by
  rw [ofn_clamp (by omega), ofn_clamp (by omega)]
  unfold sbl
  rw [← List.map_take, ← List.map_drop, ← List.map_append, ← List.map_append]
  congr 1
  have hl : (L.map OwnKit.i2b).length = L.length := List.length_map ..
  have e1 : (L.map OwnKit.i2b ++ List.replicate (16 - L.length) 0).take L.length = L.map OwnKit.i2b := by
    rw [← hl]; exact List.take_left ..
  have e2 : (L.map OwnKit.i2b ++ List.replicate (16 - L.length) 0).drop (L.length + cs.length) = List.replicate (16 - (L ++ cs).length) 0 := by
    rw [← List.drop_drop]
    have e3 : (L.map OwnKit.i2b ++ List.replicate (16 - L.length) 0).drop L.length = List.replicate (16 - L.length) (0 : Int32) := by
      rw [← hl]; exact List.drop_left ..
    rw [e3, List.drop_replicate, List.length_append]; congr 1; omega
  rw [e1, e2, List.map_append]
theorem sbl_set {L : List Int32} {c : Int32} (h : L.length < 16) : (sbl L).set L.length (.int (OwnKit.i2b c)) = sbl (L ++ [c]) := by
  unfold sbl
  rw [← List.map_set]
  congr 1
  have e : 16 - L.length = (16 - (L ++ [c]).length) + 1 := by simp; omega
  have hl : (L.map OwnKit.i2b).length = L.length := List.length_map ..
  rw [e, List.replicate_succ, List.set_append_right _ _ (by rw [hl]; exact Nat.le_refl _), hl, Nat.sub_self, List.set_cons_zero]
  simp
theorem sbl_len {L : List Int32} (h : L.length ≤ 16) : (sbl L).length = 16 := by
  unfold sbl; simp; omega
theorem sbl_us {cs : List Int32} (hl : cs.length ≤ 4000) : (cs.map OwnKit.i2b).map Value.int = (List.range (Int32.ofNat cs.length).toNatClampNeg).map fun i => ((cs.map OwnKit.i2b).map Value.int).getD ((0 : Int32).toNatClampNeg + i) (.int 0) := by
  have e0 : (0 : Int32).toNatClampNeg = 0 := rfl
  rw [ofn_clamp hl, e0]
  apply List.ext_getElem
  · simp
  · intro i h1 h2
    have h3 : i < cs.length := by simpa using h1
    simp [List.getD_eq_getElem?_getD, h3]
/-- what copyOfRange(value, 0, count) asks of a builder that is not full -/
theorem sb_copy {L : List Int32} (h : L.length < 16) : (((0 : Int32) = 0 → ¬ Int32.ofNat L.length = (16 : Int32)) ∧ ¬ (0 : Int32) < 0 ∧ ¬ Int32.ofNat L.length < 0 ∧ ¬ (Int32.ofNat L.length - 0) < 0 ∧ (Int32.ofNat L.length - 0).toNatClampNeg ≤ 16) ∧ (0 : Int32).toNatClampNeg + (Int32.ofNat L.length - 0).toNatClampNeg ≤ (16 : Int32).toNatClampNeg ∧ (L.map OwnKit.i2b).map Value.int = (List.range (Int32.ofNat L.length - 0).toNatClampNeg).map fun i => (sbl L).getD ((0 : Int32).toNatClampNeg + i) (.int 0) := by
  have e0 : (0 : Int32).toNatClampNeg = 0 := rfl
  have e16 : (16 : Int32).toNatClampNeg = 16 := rfl
  rw [Int32.sub_zero, ofn_clamp (by omega), e0, e16]
  refine ⟨⟨fun _ q => ?_, by decide, ofn_n0 (by omega), ofn_n0 (by omega), by omega⟩, by omega, ?_⟩
  · have q2 := congrArg Int32.toInt q
    rw [ofn (by omega)] at q2
    have : (16 : Int32).toInt = 16 := rfl
    omega
  · apply List.ext_getElem
    · simp
    · intro i h1 h2
      have h3 : i < L.length := by simpa using h1
      unfold sbl
      simp [List.getD_eq_getElem?_getD, List.getElem?_append, h3]
end Jvm.Pilot.@@N@@
namespace Jvm.Pilot.@@N@@
open Jvm Jvm.ClassFile Sem Op Lib Jvm.Free Jvm.Stand Jvm.LawKit Jvm.RoadKit Jvm.OwnKit
/-- n places, of which the first hold these chars and the others 0 -/
def arN (n : Nat) (L : List Int32) : List Value := (L ++ List.replicate (n - L.length) 0).map Value.int
theorem arN_len {n : Nat} {L : List Int32} (h : L.length ≤ n) : (arN n L).length = n := by
  unfold arN; simp; omega
theorem arN_set {n : Nat} {L : List Int32} {c : Int32} (h : L.length < n) : (arN n L).set L.length (.int c) = arN n (L ++ [c]) := by
  unfold arN
  rw [← List.map_set]
  congr 1
  have e : n - L.length = (n - (L ++ [c]).length) + 1 := by simp; omega
  rw [e, List.replicate_succ, List.set_append_right _ _ (Nat.le_refl _), Nat.sub_self, List.set_cons_zero]
  simp
theorem arN_get {n : Nat} {L : List Int32} {i : Nat} (h : i < L.length) : (arN n L).getD i (.int 0) = .int (L.getD i 0) := by
  unfold arN
  simp [List.getD_eq_getElem?_getD, List.getElem?_append, h]
theorem c8_app {A B : List Int32} (h : ∀ c ∈ A, C8 c) (h' : ∀ c ∈ B, C8 c) : ∀ c ∈ A ++ B, C8 c := fun c hc => (List.mem_append.mp hc).elim (h c) (h' c)
end Jvm.Pilot.@@N@@
namespace Jvm.Pilot.@@N@@
open Jvm Jvm.ClassFile Sem Op Lib Jvm.Free Jvm.Stand Jvm.LawKit Jvm.RoadKit Jvm.OwnKit Bundle Jvm.Pilot.@@N@@.Jvm.D
theorem wd {a0 : Array Value} {Z : State} (hw : ∀ d ∈ tables_1, d.before a0 Z = true) (k : Nat) {d : Jvm.Cond} (h : tables_1[k]? = some d) : d.before a0 Z = true := hw _ (List.mem_of_getElem? h)
theorem wsNew {a0 : Array Value} {Z : State} (hw : ∀ d ∈ tables_1, d.before a0 Z = true) : ∀ d ∈ StrChars.Road.words, d.before a0 Z = true := fun d hd => hw d ((by decide +kernel : ∀ d ∈ StrChars.Road.words, d ∈ tables_1) d hd)
theorem wsLen {a0 : Array Value} {Z : State} (hw : ∀ d ∈ tables_1, d.before a0 Z = true) : ∀ d ∈ StrChars.Road.wordsLen, d.before a0 Z = true := fun d hd => hw d ((by decide +kernel : ∀ d ∈ StrChars.Road.wordsLen, d ∈ tables_1) d hd)
theorem wsCh {a0 : Array Value} {Z : State} (hw : ∀ d ∈ tables_1, d.before a0 Z = true) : ∀ d ∈ StrChars.Road.wordsChN, d.before a0 Z = true := fun d hd => hw d ((by decide +kernel : ∀ d ∈ StrChars.Road.wordsChN, d ∈ tables_1) d hd)
theorem elw {a0 : Array Value} {Z : State} (hw : ∀ d ∈ tables_1, d.before a0 Z = true) : EW Z a0 consts_1 := EW.cons (wd hw 115 rfl) (by decide) (EW.cons (wd hw 24 rfl) (by decide) (EW.nil))
theorem wsStr {a0 : Array Value} {Z : State} (hw : ∀ d ∈ tables_1, d.before a0 Z = true) : ∀ d ∈ Bundle.stringAtoms, d.before a0 Z = true := fun d hd => hw d ((by decide +kernel : ∀ d ∈ Bundle.stringAtoms, d ∈ tables_1) d hd)
theorem pn0 : plainName "java/lang/String" = true := by first | (simp [plainName, overriddenIn]; done) | decide +kernel
theorem pn1 : plainName "java/lang/StringLatin1" = true := by first | (simp [plainName, overriddenIn]; done) | decide +kernel
theorem pn2 : plainName "com/example/proper_grant/propergrant/bench/RequestToStringPinLaw" = true := by first | (simp [plainName, overriddenIn]; done) | decide +kernel
theorem pn3 : plainName "com/example/proper_grant/propergrant/bench/Request" = true := by first | (simp [plainName, overriddenIn]; done) | decide +kernel
theorem pn4 : plainName "java/lang/AbstractStringBuilder" = true := by first | (simp [plainName, overriddenIn]; done) | decide +kernel
theorem pn5 : plainName "java/lang/StringBuilder" = true := by first | (simp [plainName, overriddenIn]; done) | decide +kernel
theorem pn6 : plainName "java/util/Arrays" = true := by first | (simp [plainName, overriddenIn]; done) | decide +kernel
theorem d1_0 : decode method_5_code 0 = .ok (.iload_n 0, 1) := by decide +kernel
theorem d1_1 : decode method_5_code 1 = .ok (.invokestatic 7, 3) := by decide +kernel
theorem d1_4 : decode method_5_code 4 = .ok (.istore_n 1, 1) := by decide +kernel
theorem d1_5 : decode method_5_code 5 = .ok (.iload_n 1, 1) := by decide +kernel
theorem d1_6 : decode method_5_code 6 = .ok (.ifCond .ne 14, 3) := by decide +kernel
theorem d1_9 : decode method_5_code 9 = .ok (.new 13, 3) := by decide +kernel
theorem d1_12 : decode method_5_code 12 = .ok (.dup, 1) := by decide +kernel
theorem d1_13 : decode method_5_code 13 = .ok (.iconst 0, 1) := by decide +kernel
theorem d1_14 : decode method_5_code 14 = .ok (.newarray .char, 2) := by decide +kernel
theorem d1_16 : decode method_5_code 16 = .ok (.invokespecial 15, 3) := by decide +kernel
theorem d1_19 : decode method_5_code 19 = .ok (.areturn, 1) := by decide +kernel
theorem d1_20 : decode method_5_code 20 = .ok (.iload_n 1, 1) := by decide +kernel
theorem d1_21 : decode method_5_code 21 = .ok (.iconst 1, 1) := by decide +kernel
theorem d1_22 : decode method_5_code 22 = .ok (.if_icmp .ne 11, 3) := by decide +kernel
theorem d1_25 : decode method_5_code 25 = .ok (.iload_n 0, 1) := by decide +kernel
theorem d1_26 : decode method_5_code 26 = .ok (.invokestatic 18, 3) := by decide +kernel
theorem d1_29 : decode method_5_code 29 = .ok (.invokestatic 22, 3) := by decide +kernel
theorem d1_32 : decode method_5_code 32 = .ok (.areturn, 1) := by decide +kernel
theorem d1_33 : decode method_5_code 33 = .ok (.iconst 2, 1) := by decide +kernel
theorem d1_34 : decode method_5_code 34 = .ok (.newarray .char, 2) := by decide +kernel
theorem d1_36 : decode method_5_code 36 = .ok (.astore_n 2, 1) := by decide +kernel
theorem d1_37 : decode method_5_code 37 = .ok (.aload_n 2, 1) := by decide +kernel
theorem d1_38 : decode method_5_code 38 = .ok (.iconst 0, 1) := by decide +kernel
theorem d1_39 : decode method_5_code 39 = .ok (.iload_n 0, 1) := by decide +kernel
theorem d1_40 : decode method_5_code 40 = .ok (.invokestatic 18, 3) := by decide +kernel
theorem d1_43 : decode method_5_code 43 = .ok (.castore, 1) := by decide +kernel
theorem d1_44 : decode method_5_code 44 = .ok (.aload_n 2, 1) := by decide +kernel
theorem d1_45 : decode method_5_code 45 = .ok (.iconst 1, 1) := by decide +kernel
theorem d1_46 : decode method_5_code 46 = .ok (.iload_n 0, 1) := by decide +kernel
theorem d1_47 : decode method_5_code 47 = .ok (.invokestatic 26, 3) := by decide +kernel
theorem d1_50 : decode method_5_code 50 = .ok (.castore, 1) := by decide +kernel
theorem d1_51 : decode method_5_code 51 = .ok (.new 13, 3) := by decide +kernel
theorem d1_54 : decode method_5_code 54 = .ok (.dup, 1) := by decide +kernel
theorem d1_55 : decode method_5_code 55 = .ok (.aload_n 2, 1) := by decide +kernel
theorem d1_56 : decode method_5_code 56 = .ok (.invokespecial 15, 3) := by decide +kernel
theorem d1_59 : decode method_5_code 59 = .ok (.areturn, 1) := by decide +kernel
theorem d2_0 : decode method_2_code 0 = .ok (.iload_n 0, 1) := by decide +kernel
theorem d2_1 : decode method_2_code 1 = .ok (.bipush 16, 2) := by decide +kernel
theorem d2_3 : decode method_2_code 3 = .ok (.iushr, 1) := by decide +kernel
theorem d2_4 : decode method_2_code 4 = .ok (.sipush 32767, 3) := by decide +kernel
theorem d2_7 : decode method_2_code 7 = .ok (.iand, 1) := by decide +kernel
theorem d2_8 : decode method_2_code 8 = .ok (.iconst 3, 1) := by decide +kernel
theorem d2_9 : decode method_2_code 9 = .ok (.irem, 1) := by decide +kernel
theorem d2_10 : decode method_2_code 10 = .ok (.ireturn, 1) := by decide +kernel
theorem d3_0 : decode jdk_42_method_3_code 0 = .ok (.aload_n 0, 1) := by decide +kernel
theorem d3_1 : decode jdk_42_method_3_code 1 = .ok (.aload_n 1, 1) := by decide +kernel
theorem d3_2 : decode jdk_42_method_3_code 2 = .ok (.iconst 0, 1) := by decide +kernel
theorem d3_3 : decode jdk_42_method_3_code 3 = .ok (.aload_n 1, 1) := by decide +kernel
theorem d3_4 : decode jdk_42_method_3_code 4 = .ok (.arraylength, 1) := by decide +kernel
theorem d3_5 : decode jdk_42_method_3_code 5 = .ok (.aconst_null, 1) := by decide +kernel
theorem d3_6 : decode jdk_42_method_3_code 6 = .ok (.invokespecial 27, 3) := by decide +kernel
theorem d3_9 : decode jdk_42_method_3_code 9 = .ok (.return_, 1) := by decide +kernel
theorem d4_0 : decode jdk_42_method_149_code 0 = .ok (.aload_n 0, 1) := by decide +kernel
theorem d4_1 : decode jdk_42_method_149_code 1 = .ok (.invokespecial 1, 3) := by decide +kernel
theorem d4_4 : decode jdk_42_method_149_code 4 = .ok (.iload_n 3, 1) := by decide +kernel
theorem d4_5 : decode jdk_42_method_149_code 5 = .ok (.ifCond .ne 22, 3) := by decide +kernel
theorem d4_8 : decode jdk_42_method_149_code 8 = .ok (.aload_n 0, 1) := by decide +kernel
theorem d4_9 : decode jdk_42_method_149_code 9 = .ok (.ldc 7, 2) := by decide +kernel
theorem d4_11 : decode jdk_42_method_149_code 11 = .ok (.getfield 9, 3) := by decide +kernel
theorem d4_14 : decode jdk_42_method_149_code 14 = .ok (.putfield 9, 3) := by decide +kernel
theorem d4_17 : decode jdk_42_method_149_code 17 = .ok (.aload_n 0, 1) := by decide +kernel
theorem d4_18 : decode jdk_42_method_149_code 18 = .ok (.ldc 7, 2) := by decide +kernel
theorem d4_20 : decode jdk_42_method_149_code 20 = .ok (.getfield 15, 3) := by decide +kernel
theorem d4_23 : decode jdk_42_method_149_code 23 = .ok (.putfield 15, 3) := by decide +kernel
theorem d4_26 : decode jdk_42_method_149_code 26 = .ok (.return_, 1) := by decide +kernel
theorem d6_0 : decode prog_20_method_1_code 0 = .ok (.aload_n 0, 1) := by decide +kernel
theorem d6_1 : decode prog_20_method_1_code 1 = .ok (.invokespecial 1, 3) := by decide +kernel
theorem d6_4 : decode prog_20_method_1_code 4 = .ok (.aload_n 0, 1) := by decide +kernel
theorem d6_5 : decode prog_20_method_1_code 5 = .ok (.aload_n 1, 1) := by decide +kernel
theorem d6_6 : decode prog_20_method_1_code 6 = .ok (.putfield 7, 3) := by decide +kernel
theorem d6_9 : decode prog_20_method_1_code 9 = .ok (.aload_n 0, 1) := by decide +kernel
theorem d6_10 : decode prog_20_method_1_code 10 = .ok (.aload_n 2, 1) := by decide +kernel
theorem d6_11 : decode prog_20_method_1_code 11 = .ok (.putfield 13, 3) := by decide +kernel
theorem d6_14 : decode prog_20_method_1_code 14 = .ok (.aload_n 0, 1) := by decide +kernel
theorem d6_15 : decode prog_20_method_1_code 15 = .ok (.aload_n 3, 1) := by decide +kernel
theorem d6_16 : decode prog_20_method_1_code 16 = .ok (.putfield 16, 3) := by decide +kernel
theorem d6_19 : decode prog_20_method_1_code 19 = .ok (.aload_n 0, 1) := by decide +kernel
theorem d6_20 : decode prog_20_method_1_code 20 = .ok (.iload 4, 2) := by decide +kernel
theorem d6_22 : decode prog_20_method_1_code 22 = .ok (.putfield 19, 3) := by decide +kernel
theorem d6_25 : decode prog_20_method_1_code 25 = .ok (.return_, 1) := by decide +kernel
theorem d7_0 : decode prog_20_method_6_code 0 = .ok (.new 23, 3) := by decide +kernel
theorem d7_3 : decode prog_20_method_6_code 3 = .ok (.dup, 1) := by decide +kernel
theorem d7_4 : decode prog_20_method_6_code 4 = .ok (.invokespecial 25, 3) := by decide +kernel
theorem d7_7 : decode prog_20_method_6_code 7 = .ok (.aload_n 0, 1) := by decide +kernel
theorem d7_8 : decode prog_20_method_6_code 8 = .ok (.getfield 7, 3) := by decide +kernel
theorem d7_11 : decode prog_20_method_6_code 11 = .ok (.invokevirtual 26, 3) := by decide +kernel
theorem d7_14 : decode prog_20_method_6_code 14 = .ok (.ldc 30, 2) := by decide +kernel
theorem d7_16 : decode prog_20_method_6_code 16 = .ok (.invokevirtual 26, 3) := by decide +kernel
theorem d7_19 : decode prog_20_method_6_code 19 = .ok (.aload_n 0, 1) := by decide +kernel
theorem d7_20 : decode prog_20_method_6_code 20 = .ok (.getfield 13, 3) := by decide +kernel
theorem d7_23 : decode prog_20_method_6_code 23 = .ok (.invokevirtual 26, 3) := by decide +kernel
theorem d7_26 : decode prog_20_method_6_code 26 = .ok (.ldc 30, 2) := by decide +kernel
theorem d7_28 : decode prog_20_method_6_code 28 = .ok (.invokevirtual 26, 3) := by decide +kernel
theorem d7_31 : decode prog_20_method_6_code 31 = .ok (.aload_n 0, 1) := by decide +kernel
theorem d7_32 : decode prog_20_method_6_code 32 = .ok (.getfield 16, 3) := by decide +kernel
theorem d7_35 : decode prog_20_method_6_code 35 = .ok (.invokevirtual 26, 3) := by decide +kernel
theorem d7_38 : decode prog_20_method_6_code 38 = .ok (.invokevirtual 32, 3) := by decide +kernel
theorem d7_41 : decode prog_20_method_6_code 41 = .ok (.areturn, 1) := by decide +kernel
theorem d8_0 : decode jdk_67_method_1_code 0 = .ok (.aload_n 0, 1) := by decide +kernel
theorem d8_1 : decode jdk_67_method_1_code 1 = .ok (.bipush 16, 2) := by decide +kernel
theorem d8_3 : decode jdk_67_method_1_code 3 = .ok (.invokespecial 1, 3) := by decide +kernel
theorem d8_6 : decode jdk_67_method_1_code 6 = .ok (.return_, 1) := by decide +kernel
theorem d9_0 : decode jdk_68_method_2_code 0 = .ok (.aload_n 0, 1) := by decide +kernel
theorem d9_1 : decode jdk_68_method_2_code 1 = .ok (.invokespecial 3, 3) := by decide +kernel
theorem d9_4 : decode jdk_68_method_2_code 4 = .ok (.getstatic 18, 3) := by decide +kernel
theorem d9_7 : decode jdk_68_method_2_code 7 = .ok (.ifCond .eq 18, 3) := by decide +kernel
theorem d9_10 : decode jdk_68_method_2_code 10 = .ok (.aload_n 0, 1) := by decide +kernel
theorem d9_11 : decode jdk_68_method_2_code 11 = .ok (.iload_n 1, 1) := by decide +kernel
theorem d9_12 : decode jdk_68_method_2_code 12 = .ok (.newarray .byte, 2) := by decide +kernel
theorem d9_14 : decode jdk_68_method_2_code 14 = .ok (.putfield 15, 3) := by decide +kernel
theorem d9_17 : decode jdk_68_method_2_code 17 = .ok (.aload_n 0, 1) := by decide +kernel
theorem d9_18 : decode jdk_68_method_2_code 18 = .ok (.iconst 0, 1) := by decide +kernel
theorem d9_19 : decode jdk_68_method_2_code 19 = .ok (.putfield 22, 3) := by decide +kernel
theorem d9_22 : decode jdk_68_method_2_code 22 = .ok (.goto 16, 3) := by decide +kernel
theorem d9_38 : decode jdk_68_method_2_code 38 = .ok (.return_, 1) := by decide +kernel
theorem d10_0 : decode jdk_67_method_7_code 0 = .ok (.aload_n 0, 1) := by decide +kernel
theorem d10_1 : decode jdk_67_method_7_code 1 = .ok (.aload_n 1, 1) := by decide +kernel
theorem d10_2 : decode jdk_67_method_7_code 2 = .ok (.invokespecial 29, 3) := by decide +kernel
theorem d10_5 : decode jdk_67_method_7_code 5 = .ok (.pop, 1) := by decide +kernel
theorem d10_6 : decode jdk_67_method_7_code 6 = .ok (.aload_n 0, 1) := by decide +kernel
theorem d10_7 : decode jdk_67_method_7_code 7 = .ok (.areturn, 1) := by decide +kernel
theorem d11_0 : decode jdk_68_method_22_code 0 = .ok (.aload_n 1, 1) := by decide +kernel
theorem d11_1 : decode jdk_68_method_22_code 1 = .ok (.ifnonnull 8, 3) := by decide +kernel
theorem d11_9 : decode jdk_68_method_22_code 9 = .ok (.aload_n 1, 1) := by decide +kernel
theorem d11_10 : decode jdk_68_method_22_code 10 = .ok (.invokevirtual 32, 3) := by decide +kernel
theorem d11_13 : decode jdk_68_method_22_code 13 = .ok (.istore_n 2, 1) := by decide +kernel
theorem d11_14 : decode jdk_68_method_22_code 14 = .ok (.aload_n 0, 1) := by decide +kernel
theorem d11_15 : decode jdk_68_method_22_code 15 = .ok (.aload_n 0, 1) := by decide +kernel
theorem d11_16 : decode jdk_68_method_22_code 16 = .ok (.getfield 79, 3) := by decide +kernel
theorem d11_19 : decode jdk_68_method_22_code 19 = .ok (.iload_n 2, 1) := by decide +kernel
theorem d11_20 : decode jdk_68_method_22_code 20 = .ok (.iadd, 1) := by decide +kernel
theorem d11_21 : decode jdk_68_method_22_code 21 = .ok (.invokevirtual 100, 3) := by decide +kernel
theorem d11_24 : decode jdk_68_method_22_code 24 = .ok (.aload_n 0, 1) := by decide +kernel
theorem d11_25 : decode jdk_68_method_22_code 25 = .ok (.aload_n 0, 1) := by decide +kernel
theorem d11_26 : decode jdk_68_method_22_code 26 = .ok (.getfield 79, 3) := by decide +kernel
theorem d11_29 : decode jdk_68_method_22_code 29 = .ok (.aload_n 1, 1) := by decide +kernel
theorem d11_30 : decode jdk_68_method_22_code 30 = .ok (.invokevirtual 208, 3) := by decide +kernel
theorem d11_33 : decode jdk_68_method_22_code 33 = .ok (.aload_n 0, 1) := by decide +kernel
theorem d11_34 : decode jdk_68_method_22_code 34 = .ok (.dup, 1) := by decide +kernel
theorem d11_35 : decode jdk_68_method_22_code 35 = .ok (.getfield 79, 3) := by decide +kernel
theorem d11_38 : decode jdk_68_method_22_code 38 = .ok (.iload_n 2, 1) := by decide +kernel
theorem d11_39 : decode jdk_68_method_22_code 39 = .ok (.iadd, 1) := by decide +kernel
theorem d11_40 : decode jdk_68_method_22_code 40 = .ok (.putfield 79, 3) := by decide +kernel
theorem d11_43 : decode jdk_68_method_22_code 43 = .ok (.aload_n 0, 1) := by decide +kernel
theorem d11_44 : decode jdk_68_method_22_code 44 = .ok (.areturn, 1) := by decide +kernel
theorem d13_0 : decode jdk_42_method_152_code 0 = .ok (.getstatic 38, 3) := by decide +kernel
theorem d13_3 : decode jdk_42_method_152_code 3 = .ok (.ifCond .eq 10, 3) := by decide +kernel
theorem d13_6 : decode jdk_42_method_152_code 6 = .ok (.aload_n 0, 1) := by decide +kernel
theorem d13_7 : decode jdk_42_method_152_code 7 = .ok (.getfield 15, 3) := by decide +kernel
theorem d13_10 : decode jdk_42_method_152_code 10 = .ok (.goto 4, 3) := by decide +kernel
theorem d13_14 : decode jdk_42_method_152_code 14 = .ok (.ireturn, 1) := by decide +kernel
theorem d14_0 : decode jdk_68_method_9_code 0 = .ok (.aload_n 0, 1) := by decide +kernel
theorem d14_1 : decode jdk_68_method_9_code 1 = .ok (.getfield 15, 3) := by decide +kernel
theorem d14_4 : decode jdk_68_method_9_code 4 = .ok (.arraylength, 1) := by decide +kernel
theorem d14_5 : decode jdk_68_method_9_code 5 = .ok (.aload_n 0, 1) := by decide +kernel
theorem d14_6 : decode jdk_68_method_9_code 6 = .ok (.getfield 22, 3) := by decide +kernel
theorem d14_9 : decode jdk_68_method_9_code 9 = .ok (.ishr, 1) := by decide +kernel
theorem d14_10 : decode jdk_68_method_9_code 10 = .ok (.istore_n 2, 1) := by decide +kernel
theorem d14_11 : decode jdk_68_method_9_code 11 = .ok (.iload_n 1, 1) := by decide +kernel
theorem d14_12 : decode jdk_68_method_9_code 12 = .ok (.iload_n 2, 1) := by decide +kernel
theorem d14_13 : decode jdk_68_method_9_code 13 = .ok (.isub, 1) := by decide +kernel
theorem d14_14 : decode jdk_68_method_9_code 14 = .ok (.ifCond .le 24, 3) := by decide +kernel
theorem d14_38 : decode jdk_68_method_9_code 38 = .ok (.return_, 1) := by decide +kernel
theorem d15_0 : decode jdk_68_method_73_code 0 = .ok (.aload_n 0, 1) := by decide +kernel
theorem d15_1 : decode jdk_68_method_73_code 1 = .ok (.aload_n 2, 1) := by decide +kernel
theorem d15_2 : decode jdk_68_method_73_code 2 = .ok (.invokevirtual 397, 3) := by decide +kernel
theorem d15_5 : decode jdk_68_method_73_code 5 = .ok (.aload_n 2, 1) := by decide +kernel
theorem d15_6 : decode jdk_68_method_73_code 6 = .ok (.aload_n 0, 1) := by decide +kernel
theorem d15_7 : decode jdk_68_method_73_code 7 = .ok (.getfield 15, 3) := by decide +kernel
theorem d15_10 : decode jdk_68_method_73_code 10 = .ok (.iload_n 1, 1) := by decide +kernel
theorem d15_11 : decode jdk_68_method_73_code 11 = .ok (.aload_n 0, 1) := by decide +kernel
theorem d15_12 : decode jdk_68_method_73_code 12 = .ok (.getfield 22, 3) := by decide +kernel
theorem d15_15 : decode jdk_68_method_73_code 15 = .ok (.invokevirtual 399, 3) := by decide +kernel
theorem d15_18 : decode jdk_68_method_73_code 18 = .ok (.return_, 1) := by decide +kernel
theorem d16_0 : decode jdk_68_method_71_code 0 = .ok (.getstatic 18, 3) := by decide +kernel
theorem d16_3 : decode jdk_68_method_71_code 3 = .ok (.ifCond .eq 18, 3) := by decide +kernel
theorem d16_6 : decode jdk_68_method_71_code 6 = .ok (.aload_n 0, 1) := by decide +kernel
theorem d16_7 : decode jdk_68_method_71_code 7 = .ok (.getfield 22, 3) := by decide +kernel
theorem d16_10 : decode jdk_68_method_71_code 10 = .ok (.aload_n 1, 1) := by decide +kernel
theorem d16_11 : decode jdk_68_method_71_code 11 = .ok (.invokevirtual 40, 3) := by decide +kernel
theorem d16_14 : decode jdk_68_method_71_code 14 = .ok (.if_icmp .eq 7, 3) := by decide +kernel
theorem d16_21 : decode jdk_68_method_71_code 21 = .ok (.return_, 1) := by decide +kernel
theorem d17_0 : decode jdk_42_method_147_code 0 = .ok (.aload_n 0, 1) := by decide +kernel
theorem d17_1 : decode jdk_42_method_147_code 1 = .ok (.invokevirtual 335, 3) := by decide +kernel
theorem d17_4 : decode jdk_42_method_147_code 4 = .ok (.iload_n 3, 1) := by decide +kernel
theorem d17_5 : decode jdk_42_method_147_code 5 = .ok (.if_icmp .ne 23, 3) := by decide +kernel
theorem d17_8 : decode jdk_42_method_147_code 8 = .ok (.aload_n 0, 1) := by decide +kernel
theorem d17_9 : decode jdk_42_method_147_code 9 = .ok (.getfield 9, 3) := by decide +kernel
theorem d17_12 : decode jdk_42_method_147_code 12 = .ok (.iconst 0, 1) := by decide +kernel
theorem d17_13 : decode jdk_42_method_147_code 13 = .ok (.aload_n 1, 1) := by decide +kernel
theorem d17_14 : decode jdk_42_method_147_code 14 = .ok (.iload_n 2, 1) := by decide +kernel
theorem d17_15 : decode jdk_42_method_147_code 15 = .ok (.iload_n 3, 1) := by decide +kernel
theorem d17_16 : decode jdk_42_method_147_code 16 = .ok (.ishl, 1) := by decide +kernel
theorem d17_17 : decode jdk_42_method_147_code 17 = .ok (.aload_n 0, 1) := by decide +kernel
theorem d17_18 : decode jdk_42_method_147_code 18 = .ok (.getfield 9, 3) := by decide +kernel
theorem d17_21 : decode jdk_42_method_147_code 21 = .ok (.arraylength, 1) := by decide +kernel
theorem d17_22 : decode jdk_42_method_147_code 22 = .ok (.invokestatic 212, 3) := by decide +kernel
theorem d17_25 : decode jdk_42_method_147_code 25 = .ok (.goto 18, 3) := by decide +kernel
theorem d17_43 : decode jdk_42_method_147_code 43 = .ok (.return_, 1) := by decide +kernel
theorem d18_0 : decode jdk_67_method_42_code 0 = .ok (.new 18, 3) := by decide +kernel
theorem d18_3 : decode jdk_67_method_42_code 3 = .ok (.dup, 1) := by decide +kernel
theorem d18_4 : decode jdk_67_method_42_code 4 = .ok (.aload_n 0, 1) := by decide +kernel
theorem d18_5 : decode jdk_67_method_42_code 5 = .ok (.invokespecial 137, 3) := by decide +kernel
theorem d18_8 : decode jdk_67_method_42_code 8 = .ok (.areturn, 1) := by decide +kernel
theorem d19_0 : decode jdk_42_method_53_code 0 = .ok (.aload_n 0, 1) := by decide +kernel
theorem d19_1 : decode jdk_42_method_53_code 1 = .ok (.aload_n 1, 1) := by decide +kernel
theorem d19_2 : decode jdk_42_method_53_code 2 = .ok (.aconst_null, 1) := by decide +kernel
theorem d19_3 : decode jdk_42_method_53_code 3 = .ok (.invokespecial 489, 3) := by decide +kernel
theorem d19_6 : decode jdk_42_method_53_code 6 = .ok (.return_, 1) := by decide +kernel
theorem d20_0 : decode jdk_42_method_150_code 0 = .ok (.aload_n 0, 1) := by decide +kernel
theorem d20_1 : decode jdk_42_method_150_code 1 = .ok (.invokespecial 1, 3) := by decide +kernel
theorem d20_4 : decode jdk_42_method_150_code 4 = .ok (.aload_n 1, 1) := by decide +kernel
theorem d20_5 : decode jdk_42_method_150_code 5 = .ok (.invokevirtual 552, 3) := by decide +kernel
theorem d20_8 : decode jdk_42_method_150_code 8 = .ok (.astore_n 3, 1) := by decide +kernel
theorem d20_9 : decode jdk_42_method_150_code 9 = .ok (.aload_n 1, 1) := by decide +kernel
theorem d20_10 : decode jdk_42_method_150_code 10 = .ok (.invokevirtual 549, 3) := by decide +kernel
theorem d20_13 : decode jdk_42_method_150_code 13 = .ok (.istore 4, 2) := by decide +kernel
theorem d20_15 : decode jdk_42_method_150_code 15 = .ok (.aload_n 1, 1) := by decide +kernel
theorem d20_16 : decode jdk_42_method_150_code 16 = .ok (.invokevirtual 1047, 3) := by decide +kernel
theorem d20_19 : decode jdk_42_method_150_code 19 = .ok (.ifCond .eq 22, 3) := by decide +kernel
theorem d20_22 : decode jdk_42_method_150_code 22 = .ok (.aload_n 0, 1) := by decide +kernel
theorem d20_23 : decode jdk_42_method_150_code 23 = .ok (.iconst 0, 1) := by decide +kernel
theorem d20_24 : decode jdk_42_method_150_code 24 = .ok (.putfield 15, 3) := by decide +kernel
theorem d20_27 : decode jdk_42_method_150_code 27 = .ok (.aload_n 0, 1) := by decide +kernel
theorem d20_28 : decode jdk_42_method_150_code 28 = .ok (.aload_n 3, 1) := by decide +kernel
theorem d20_29 : decode jdk_42_method_150_code 29 = .ok (.iconst 0, 1) := by decide +kernel
theorem d20_30 : decode jdk_42_method_150_code 30 = .ok (.iload 4, 2) := by decide +kernel
theorem d20_32 : decode jdk_42_method_150_code 32 = .ok (.invokestatic 54, 3) := by decide +kernel
theorem d20_35 : decode jdk_42_method_150_code 35 = .ok (.putfield 9, 3) := by decide +kernel
theorem d20_38 : decode jdk_42_method_150_code 38 = .ok (.goto 59, 3) := by decide +kernel
theorem d20_97 : decode jdk_42_method_150_code 97 = .ok (.return_, 1) := by decide +kernel
theorem d21_0 : decode jdk_68_method_64_code 0 = .ok (.aload_n 0, 1) := by decide +kernel
theorem d21_1 : decode jdk_68_method_64_code 1 = .ok (.getfield 15, 3) := by decide +kernel
theorem d21_4 : decode jdk_68_method_64_code 4 = .ok (.areturn, 1) := by decide +kernel
theorem d22_0 : decode jdk_67_method_93_code 0 = .ok (.aload_n 0, 1) := by decide +kernel
theorem d22_1 : decode jdk_67_method_93_code 1 = .ok (.invokespecial 343, 3) := by decide +kernel
theorem d22_4 : decode jdk_67_method_93_code 4 = .ok (.ireturn, 1) := by decide +kernel
theorem d23_0 : decode jdk_68_method_6_code 0 = .ok (.aload_n 0, 1) := by decide +kernel
theorem d23_1 : decode jdk_68_method_6_code 1 = .ok (.getfield 79, 3) := by decide +kernel
theorem d23_4 : decode jdk_68_method_6_code 4 = .ok (.ireturn, 1) := by decide +kernel
theorem d24_0 : decode jdk_68_method_68_code 0 = .ok (.getstatic 18, 3) := by decide +kernel
theorem d24_3 : decode jdk_68_method_68_code 3 = .ok (.ifCond .eq 14, 3) := by decide +kernel
theorem d24_6 : decode jdk_68_method_68_code 6 = .ok (.aload_n 0, 1) := by decide +kernel
theorem d24_7 : decode jdk_68_method_68_code 7 = .ok (.getfield 22, 3) := by decide +kernel
theorem d24_10 : decode jdk_68_method_68_code 10 = .ok (.ifCond .ne 7, 3) := by decide +kernel
theorem d24_13 : decode jdk_68_method_68_code 13 = .ok (.iconst 1, 1) := by decide +kernel
theorem d24_14 : decode jdk_68_method_68_code 14 = .ok (.goto 4, 3) := by decide +kernel
theorem d24_18 : decode jdk_68_method_68_code 18 = .ok (.ireturn, 1) := by decide +kernel
theorem d25_0 : decode jdk_65_method_132_code 0 = .ok (.iload_n 1, 1) := by decide +kernel
theorem d25_1 : decode jdk_65_method_132_code 1 = .ok (.ifCond .ne 9, 3) := by decide +kernel
theorem d25_4 : decode jdk_65_method_132_code 4 = .ok (.iload_n 2, 1) := by decide +kernel
theorem d25_5 : decode jdk_65_method_132_code 5 = .ok (.aload_n 0, 1) := by decide +kernel
theorem d25_6 : decode jdk_65_method_132_code 6 = .ok (.arraylength, 1) := by decide +kernel
theorem d25_7 : decode jdk_65_method_132_code 7 = .ok (.if_icmp .eq 10, 3) := by decide +kernel
theorem d25_10 : decode jdk_65_method_132_code 10 = .ok (.aload_n 0, 1) := by decide +kernel
theorem d25_11 : decode jdk_65_method_132_code 11 = .ok (.iload_n 1, 1) := by decide +kernel
theorem d25_12 : decode jdk_65_method_132_code 12 = .ok (.iload_n 2, 1) := by decide +kernel
theorem d25_13 : decode jdk_65_method_132_code 13 = .ok (.invokestatic 339, 3) := by decide +kernel
theorem d25_16 : decode jdk_65_method_132_code 16 = .ok (.areturn, 1) := by decide +kernel
theorem d26_0 : decode jdk_65_method_133_code 0 = .ok (.iload_n 1, 1) := by decide +kernel
theorem d26_1 : decode jdk_65_method_133_code 1 = .ok (.iload_n 2, 1) := by decide +kernel
theorem d26_2 : decode jdk_65_method_133_code 2 = .ok (.invokestatic 343, 3) := by decide +kernel
theorem d26_5 : decode jdk_65_method_133_code 5 = .ok (.iload_n 2, 1) := by decide +kernel
theorem d26_6 : decode jdk_65_method_133_code 6 = .ok (.iload_n 1, 1) := by decide +kernel
theorem d26_7 : decode jdk_65_method_133_code 7 = .ok (.isub, 1) := by decide +kernel
theorem d26_8 : decode jdk_65_method_133_code 8 = .ok (.istore_n 3, 1) := by decide +kernel
theorem d26_9 : decode jdk_65_method_133_code 9 = .ok (.iload_n 3, 1) := by decide +kernel
theorem d26_10 : decode jdk_65_method_133_code 10 = .ok (.newarray .byte, 2) := by decide +kernel
theorem d26_12 : decode jdk_65_method_133_code 12 = .ok (.astore 4, 2) := by decide +kernel
theorem d26_14 : decode jdk_65_method_133_code 14 = .ok (.aload_n 0, 1) := by decide +kernel
theorem d26_15 : decode jdk_65_method_133_code 15 = .ok (.iload_n 1, 1) := by decide +kernel
theorem d26_16 : decode jdk_65_method_133_code 16 = .ok (.aload 4, 2) := by decide +kernel
theorem d26_18 : decode jdk_65_method_133_code 18 = .ok (.iconst 0, 1) := by decide +kernel
theorem d26_19 : decode jdk_65_method_133_code 19 = .ok (.aload_n 0, 1) := by decide +kernel
theorem d26_20 : decode jdk_65_method_133_code 20 = .ok (.arraylength, 1) := by decide +kernel
theorem d26_21 : decode jdk_65_method_133_code 21 = .ok (.iload_n 1, 1) := by decide +kernel
theorem d26_22 : decode jdk_65_method_133_code 22 = .ok (.isub, 1) := by decide +kernel
theorem d26_23 : decode jdk_65_method_133_code 23 = .ok (.iload_n 3, 1) := by decide +kernel
theorem d26_24 : decode jdk_65_method_133_code 24 = .ok (.invokestatic 304, 3) := by decide +kernel
theorem d26_27 : decode jdk_65_method_133_code 27 = .ok (.invokestatic 150, 3) := by decide +kernel
theorem d26_30 : decode jdk_65_method_133_code 30 = .ok (.aload 4, 2) := by decide +kernel
theorem d26_32 : decode jdk_65_method_133_code 32 = .ok (.areturn, 1) := by decide +kernel
theorem d27_0 : decode jdk_65_method_131_code 0 = .ok (.iload_n 1, 1) := by decide +kernel
theorem d27_1 : decode jdk_65_method_131_code 1 = .ok (.iload_n 0, 1) := by decide +kernel
theorem d27_2 : decode jdk_65_method_131_code 2 = .ok (.if_icmp .ge 35, 3) := by decide +kernel
theorem d27_37 : decode jdk_65_method_131_code 37 = .ok (.return_, 1) := by decide +kernel
theorem d28_0 : decode jdk_29_method_69_code 0 = .ok (.iload_n 0, 1) := by decide +kernel
theorem d28_1 : decode jdk_29_method_69_code 1 = .ok (.iload_n 1, 1) := by decide +kernel
theorem d28_2 : decode jdk_29_method_69_code 2 = .ok (.if_icmp .gt 7, 3) := by decide +kernel
theorem d28_5 : decode jdk_29_method_69_code 5 = .ok (.iload_n 0, 1) := by decide +kernel
theorem d28_6 : decode jdk_29_method_69_code 6 = .ok (.goto 4, 3) := by decide +kernel
theorem d28_9 : decode jdk_29_method_69_code 9 = .ok (.iload_n 1, 1) := by decide +kernel
theorem d28_10 : decode jdk_29_method_69_code 10 = .ok (.ireturn, 1) := by decide +kernel
theorem d29_0 : decode method_6_code 0 = .ok (.iload_n 2, 1) := by decide +kernel
theorem d29_1 : decode method_6_code 1 = .ok (.invokestatic 7, 3) := by decide +kernel
theorem d29_4 : decode method_6_code 4 = .ok (.istore_n 3, 1) := by decide +kernel
theorem d29_5 : decode method_6_code 5 = .ok (.iload_n 3, 1) := by decide +kernel
theorem d29_6 : decode method_6_code 6 = .ok (.ifCond .le 10, 3) := by decide +kernel
theorem d29_9 : decode method_6_code 9 = .ok (.aload_n 0, 1) := by decide +kernel
theorem d29_10 : decode method_6_code 10 = .ok (.iload_n 1, 1) := by decide +kernel
theorem d29_11 : decode method_6_code 11 = .ok (.iload_n 2, 1) := by decide +kernel
theorem d29_12 : decode method_6_code 12 = .ok (.invokestatic 18, 3) := by decide +kernel
theorem d29_15 : decode method_6_code 15 = .ok (.castore, 1) := by decide +kernel
theorem d29_16 : decode method_6_code 16 = .ok (.iload_n 3, 1) := by decide +kernel
theorem d29_17 : decode method_6_code 17 = .ok (.iconst 1, 1) := by decide +kernel
theorem d29_18 : decode method_6_code 18 = .ok (.if_icmp .le 12, 3) := by decide +kernel
theorem d29_21 : decode method_6_code 21 = .ok (.aload_n 0, 1) := by decide +kernel
theorem d29_22 : decode method_6_code 22 = .ok (.iload_n 1, 1) := by decide +kernel
theorem d29_23 : decode method_6_code 23 = .ok (.iconst 1, 1) := by decide +kernel
theorem d29_24 : decode method_6_code 24 = .ok (.iadd, 1) := by decide +kernel
theorem d29_25 : decode method_6_code 25 = .ok (.iload_n 2, 1) := by decide +kernel
theorem d29_26 : decode method_6_code 26 = .ok (.invokestatic 26, 3) := by decide +kernel
theorem d29_29 : decode method_6_code 29 = .ok (.castore, 1) := by decide +kernel
theorem d29_30 : decode method_6_code 30 = .ok (.iload_n 1, 1) := by decide +kernel
theorem d29_31 : decode method_6_code 31 = .ok (.iload_n 3, 1) := by decide +kernel
theorem d29_32 : decode method_6_code 32 = .ok (.iadd, 1) := by decide +kernel
theorem d29_33 : decode method_6_code 33 = .ok (.ireturn, 1) := by decide +kernel
theorem d30_0 : decode method_7_code 0 = .ok (.iload_n 3, 1) := by decide +kernel
theorem d30_1 : decode method_7_code 1 = .ok (.iload_n 2, 1) := by decide +kernel
theorem d30_2 : decode method_7_code 2 = .ok (.if_icmp .ge 14, 3) := by decide +kernel
theorem d30_5 : decode method_7_code 5 = .ok (.aload_n 0, 1) := by decide +kernel
theorem d30_6 : decode method_7_code 6 = .ok (.iload_n 3, 1) := by decide +kernel
theorem d30_7 : decode method_7_code 7 = .ok (.invokevirtual 29, 3) := by decide +kernel
theorem d30_10 : decode method_7_code 10 = .ok (.aload_n 1, 1) := by decide +kernel
theorem d30_11 : decode method_7_code 11 = .ok (.iload_n 3, 1) := by decide +kernel
theorem d30_12 : decode method_7_code 12 = .ok (.caload, 1) := by decide +kernel
theorem d30_13 : decode method_7_code 13 = .ok (.if_icmp .ne 7, 3) := by decide +kernel
theorem d30_16 : decode method_7_code 16 = .ok (.iconst 1, 1) := by decide +kernel
theorem d30_17 : decode method_7_code 17 = .ok (.goto 4, 3) := by decide +kernel
theorem d30_21 : decode method_7_code 21 = .ok (.ireturn, 1) := by decide +kernel
theorem d36_0 : decode method_3_code 0 = .ok (.iload_n 0, 1) := by decide +kernel
theorem d36_1 : decode method_3_code 1 = .ok (.sipush 255, 3) := by decide +kernel
theorem d36_4 : decode method_3_code 4 = .ok (.iand, 1) := by decide +kernel
theorem d36_5 : decode method_3_code 5 = .ok (.i2c, 1) := by decide +kernel
theorem d36_6 : decode method_3_code 6 = .ok (.ireturn, 1) := by decide +kernel
theorem d37_0 : decode jdk_42_method_139_code 0 = .ok (.getstatic 38, 3) := by decide +kernel
theorem d37_3 : decode jdk_42_method_139_code 3 = .ok (.ifCond .eq 23, 3) := by decide +kernel
theorem d37_6 : decode jdk_42_method_139_code 6 = .ok (.iload_n 0, 1) := by decide +kernel
theorem d37_7 : decode jdk_42_method_139_code 7 = .ok (.invokestatic 1015, 3) := by decide +kernel
theorem d37_10 : decode jdk_42_method_139_code 10 = .ok (.ifCond .eq 16, 3) := by decide +kernel
theorem d37_13 : decode jdk_42_method_139_code 13 = .ok (.new 10, 3) := by decide +kernel
theorem d37_16 : decode jdk_42_method_139_code 16 = .ok (.dup, 1) := by decide +kernel
theorem d37_17 : decode jdk_42_method_139_code 17 = .ok (.iload_n 0, 1) := by decide +kernel
theorem d37_18 : decode jdk_42_method_139_code 18 = .ok (.invokestatic 1018, 3) := by decide +kernel
theorem d37_21 : decode jdk_42_method_139_code 21 = .ok (.iconst 0, 1) := by decide +kernel
theorem d37_22 : decode jdk_42_method_139_code 22 = .ok (.invokespecial 209, 3) := by decide +kernel
theorem d37_25 : decode jdk_42_method_139_code 25 = .ok (.areturn, 1) := by decide +kernel
theorem d38_0 : decode jdk_43_method_3_code 0 = .ok (.iload_n 0, 1) := by decide +kernel
theorem d38_1 : decode jdk_43_method_3_code 1 = .ok (.sipush 255, 3) := by decide +kernel
theorem d38_4 : decode jdk_43_method_3_code 4 = .ok (.if_icmp .gt 7, 3) := by decide +kernel
theorem d38_7 : decode jdk_43_method_3_code 7 = .ok (.iconst 1, 1) := by decide +kernel
theorem d38_8 : decode jdk_43_method_3_code 8 = .ok (.goto 4, 3) := by decide +kernel
theorem d38_12 : decode jdk_43_method_3_code 12 = .ok (.ireturn, 1) := by decide +kernel
theorem d39_0 : decode jdk_43_method_46_code 0 = .ok (.iconst 1, 1) := by decide +kernel
theorem d39_1 : decode jdk_43_method_46_code 1 = .ok (.newarray .byte, 2) := by decide +kernel
theorem d39_3 : decode jdk_43_method_46_code 3 = .ok (.dup, 1) := by decide +kernel
theorem d39_4 : decode jdk_43_method_46_code 4 = .ok (.iconst 0, 1) := by decide +kernel
theorem d39_5 : decode jdk_43_method_46_code 5 = .ok (.iload_n 0, 1) := by decide +kernel
theorem d39_6 : decode jdk_43_method_46_code 6 = .ok (.i2b, 1) := by decide +kernel
theorem d39_7 : decode jdk_43_method_46_code 7 = .ok (.bastore, 1) := by decide +kernel
theorem d39_8 : decode jdk_43_method_46_code 8 = .ok (.areturn, 1) := by decide +kernel
theorem d40_0 : decode jdk_42_method_151_code 0 = .ok (.aload_n 0, 1) := by decide +kernel
theorem d40_1 : decode jdk_42_method_151_code 1 = .ok (.invokespecial 1, 3) := by decide +kernel
theorem d40_4 : decode jdk_42_method_151_code 4 = .ok (.aload_n 0, 1) := by decide +kernel
theorem d40_5 : decode jdk_42_method_151_code 5 = .ok (.aload_n 1, 1) := by decide +kernel
theorem d40_6 : decode jdk_42_method_151_code 6 = .ok (.putfield 9, 3) := by decide +kernel
theorem d40_9 : decode jdk_42_method_151_code 9 = .ok (.aload_n 0, 1) := by decide +kernel
theorem d40_10 : decode jdk_42_method_151_code 10 = .ok (.iload_n 2, 1) := by decide +kernel
theorem d40_11 : decode jdk_42_method_151_code 11 = .ok (.putfield 15, 3) := by decide +kernel
theorem d40_14 : decode jdk_42_method_151_code 14 = .ok (.return_, 1) := by decide +kernel
theorem d41_0 : decode method_4_code 0 = .ok (.iload_n 0, 1) := by decide +kernel
theorem d41_1 : decode method_4_code 1 = .ok (.bipush 8, 2) := by decide +kernel
theorem d41_3 : decode method_4_code 3 = .ok (.iushr, 1) := by decide +kernel
theorem d41_4 : decode method_4_code 4 = .ok (.sipush 255, 3) := by decide +kernel
theorem d41_7 : decode method_4_code 7 = .ok (.iand, 1) := by decide +kernel
theorem d41_8 : decode method_4_code 8 = .ok (.i2c, 1) := by decide +kernel
theorem d41_9 : decode method_4_code 9 = .ok (.ireturn, 1) := by decide +kernel
theorem pd0 : parseMethodDescriptor "([CIILjava/lang/Void;)V" = some ⟨[(.array .char), .int, .int, (.object "java/lang/Void")], none⟩ := by decide +kernel
theorem pd1 : parseMethodDescriptor "(C)Z" = some ⟨[.char], some .boolean⟩ := by decide +kernel
theorem pd2 : parseMethodDescriptor "(C)[B" = some ⟨[.char], some (.array .byte)⟩ := by decide +kernel
theorem pd3 : parseMethodDescriptor "([BB)V" = some ⟨[(.array .byte), .byte], none⟩ := by decide +kernel
theorem pd4 : parseMethodDescriptor "(I)I" = some ⟨[.int], some .int⟩ := by decide +kernel
theorem pd5 : parseMethodDescriptor "([C)V" = some ⟨[(.array .char)], none⟩ := by decide +kernel
theorem pd6 : parseMethodDescriptor "(I)C" = some ⟨[.int], some .char⟩ := by decide +kernel
theorem pd7 : parseMethodDescriptor "(C)Ljava/lang/String;" = some ⟨[.char], some (.object "java/lang/String")⟩ := by decide +kernel
theorem pd8 : parseMethodDescriptor "(I)V" = some ⟨[.int], none⟩ := by decide +kernel
theorem pd9 : parseMethodDescriptor "()B" = some ⟨[], some .byte⟩ := by decide +kernel
theorem pd10 : parseMethodDescriptor "(Ljava/lang/String;)V" = some ⟨[(.object "java/lang/String")], none⟩ := by decide +kernel
theorem pd11 : parseMethodDescriptor "([BIB)V" = some ⟨[(.array .byte), .int, .byte], none⟩ := by decide +kernel
theorem pd12 : parseMethodDescriptor "()I" = some ⟨[], some .int⟩ := by decide +kernel
theorem pd13 : parseMethodDescriptor "(ILjava/lang/String;)V" = some ⟨[.int, (.object "java/lang/String")], none⟩ := by decide +kernel
theorem pd14 : parseMethodDescriptor "(Ljava/lang/String;)Ljava/lang/AbstractStringBuilder;" = some ⟨[(.object "java/lang/String")], some (.object "java/lang/AbstractStringBuilder")⟩ := by decide +kernel
theorem pd15 : parseMethodDescriptor "(II)V" = some ⟨[.int, .int], none⟩ := by decide +kernel
theorem pd16 : parseMethodDescriptor "(II)I" = some ⟨[.int, .int], some .int⟩ := by decide +kernel
theorem pd17 : parseMethodDescriptor "([BII)[B" = some ⟨[(.array .byte), .int, .int], some (.array .byte)⟩ := by decide +kernel
theorem pd18 : parseMethodDescriptor "()[B" = some ⟨[], some (.array .byte)⟩ := by decide +kernel
theorem pd19 : parseMethodDescriptor "()Z" = some ⟨[], some .boolean⟩ := by decide +kernel
theorem pd20 : parseMethodDescriptor "(Ljava/lang/AbstractStringBuilder;Ljava/lang/Void;)V" = some ⟨[(.object "java/lang/AbstractStringBuilder"), (.object "java/lang/Void")], none⟩ := by decide +kernel
theorem pd21 : parseMethodDescriptor "(Ljava/lang/StringBuilder;)V" = some ⟨[(.object "java/lang/StringBuilder")], none⟩ := by decide +kernel
theorem pd22 : parseMethodDescriptor "()V" = some ⟨[], none⟩ := by decide +kernel
theorem pd23 : parseMethodDescriptor "(Ljava/lang/String;)Ljava/lang/StringBuilder;" = some ⟨[(.object "java/lang/String")], some (.object "java/lang/StringBuilder")⟩ := by decide +kernel
theorem pd24 : parseMethodDescriptor "()Ljava/lang/String;" = some ⟨[], some (.object "java/lang/String")⟩ := by decide +kernel
theorem pd25 : parseMethodDescriptor "(I)Ljava/lang/String;" = some ⟨[.int], some (.object "java/lang/String")⟩ := by decide +kernel
theorem pd26 : parseMethodDescriptor "(Ljava/lang/String;Ljava/lang/String;Ljava/lang/String;Z)V" = some ⟨[(.object "java/lang/String"), (.object "java/lang/String"), (.object "java/lang/String"), .boolean], none⟩ := by decide +kernel
theorem pd27 : parseMethodDescriptor "([CII)I" = some ⟨[(.array .char), .int, .int], some .int⟩ := by decide +kernel
theorem pd28 : parseMethodDescriptor "(Ljava/lang/String;[CII)Z" = some ⟨[(.object "java/lang/String"), (.array .char), .int, .int], some .boolean⟩ := by decide +kernel
theorem ef0 (m : MethodId) (x0 : Addr) (x1 : Addr) (x2 : Int32) (x3 : Int32) : entryFrame m #[(.ref x0), (.ref x1), (.int x2), (.int x3), .null] 6 = mkF m 0 #[.val (.ref x0), .val (.ref x1), .val (.int x2), .val (.int x3), .val .null, .unset] [] := by first | (simp [entryFrame, mkF, argsToLocals, cat_int, cat_long, cat_refv, cat_null]; done) | rfl
theorem ef1 (m : MethodId) (x0 : Addr) (x1 : Addr) : entryFrame m #[(.ref x0), (.ref x1)] 2 = mkF m 0 #[.val (.ref x0), .val (.ref x1)] [] := by first | (simp [entryFrame, mkF, argsToLocals, cat_int, cat_long, cat_refv, cat_null]; done) | rfl
theorem ef2 (m : MethodId) (x0 : Int32) : entryFrame m #[(.int x0)] 1 = mkF m 0 #[.val (.int x0)] [] := by first | (simp [entryFrame, mkF, argsToLocals, cat_int, cat_long, cat_refv, cat_null]; done) | rfl
theorem ef3 (m : MethodId) (x0 : Addr) (x1 : Addr) (x2 : Int32) : entryFrame m #[(.ref x0), (.ref x1), (.int x2)] 3 = mkF m 0 #[.val (.ref x0), .val (.ref x1), .val (.int x2)] [] := by first | (simp [entryFrame, mkF, argsToLocals, cat_int, cat_long, cat_refv, cat_null]; done) | rfl
theorem ef4 (m : MethodId) (x0 : Int32) : entryFrame m #[(.int x0)] 3 = mkF m 0 #[.val (.int x0), .unset, .unset] [] := by first | (simp [entryFrame, mkF, argsToLocals, cat_int, cat_long, cat_refv, cat_null]; done) | rfl
theorem ef5 (m : MethodId) (x0 : Addr) (x1 : Value) (c1 : x1.category = 1) (x2 : Value) (c2 : x2.category = 1) (x3 : Value) (c3 : x3.category = 1) (x4 : Int32) : entryFrame m #[(.ref x0), x1, x2, x3, (.int x4)] 5 = mkF m 0 #[.val (.ref x0), .val x1, .val x2, .val x3, .val (.int x4)] [] := by first | (simp [entryFrame, mkF, argsToLocals, cat_int, cat_long, cat_refv, cat_null, c1, c2, c3]; done) | rfl
theorem ef6 (m : MethodId) (x0 : Addr) : entryFrame m #[(.ref x0)] 1 = mkF m 0 #[.val (.ref x0)] [] := by first | (simp [entryFrame, mkF, argsToLocals, cat_int, cat_long, cat_refv, cat_null]; done) | rfl
theorem ef7 (m : MethodId) (x0 : Addr) (x1 : Int32) : entryFrame m #[(.ref x0), (.int x1)] 2 = mkF m 0 #[.val (.ref x0), .val (.int x1)] [] := by first | (simp [entryFrame, mkF, argsToLocals, cat_int, cat_long, cat_refv, cat_null]; done) | rfl
theorem ef8 (m : MethodId) (x0 : Addr) (x1 : Int32) : entryFrame m #[(.ref x0), (.int x1)] 3 = mkF m 0 #[.val (.ref x0), .val (.int x1), .unset] [] := by first | (simp [entryFrame, mkF, argsToLocals, cat_int, cat_long, cat_refv, cat_null]; done) | rfl
theorem ef9 (m : MethodId) (x0 : Addr) (x1 : Addr) (x2 : Int32) (x3 : Int32) : entryFrame m #[(.ref x0), (.ref x1), (.int x2), (.int x3)] 4 = mkF m 0 #[.val (.ref x0), .val (.ref x1), .val (.int x2), .val (.int x3)] [] := by first | (simp [entryFrame, mkF, argsToLocals, cat_int, cat_long, cat_refv, cat_null]; done) | rfl
theorem ef10 (m : MethodId) (x0 : Addr) (x1 : Int32) (x2 : Addr) : entryFrame m #[(.ref x0), (.int x1), (.ref x2)] 3 = mkF m 0 #[.val (.ref x0), .val (.int x1), .val (.ref x2)] [] := by first | (simp [entryFrame, mkF, argsToLocals, cat_int, cat_long, cat_refv, cat_null]; done) | rfl
theorem ef11 (m : MethodId) (x0 : Addr) (x1 : Addr) : entryFrame m #[(.ref x0), (.ref x1)] 3 = mkF m 0 #[.val (.ref x0), .val (.ref x1), .unset] [] := by first | (simp [entryFrame, mkF, argsToLocals, cat_int, cat_long, cat_refv, cat_null]; done) | rfl
theorem ef12 (m : MethodId) (x0 : Int32) (x1 : Int32) : entryFrame m #[(.int x0), (.int x1)] 2 = mkF m 0 #[.val (.int x0), .val (.int x1)] [] := by first | (simp [entryFrame, mkF, argsToLocals, cat_int, cat_long, cat_refv, cat_null]; done) | rfl
theorem ef13 (m : MethodId) (x0 : Addr) (x1 : Int32) (x2 : Int32) : entryFrame m #[(.ref x0), (.int x1), (.int x2)] 5 = mkF m 0 #[.val (.ref x0), .val (.int x1), .val (.int x2), .unset, .unset] [] := by first | (simp [entryFrame, mkF, argsToLocals, cat_int, cat_long, cat_refv, cat_null]; done) | rfl
theorem ef14 (m : MethodId) (x0 : Addr) (x1 : Int32) (x2 : Int32) : entryFrame m #[(.ref x0), (.int x1), (.int x2)] 3 = mkF m 0 #[.val (.ref x0), .val (.int x1), .val (.int x2)] [] := by first | (simp [entryFrame, mkF, argsToLocals, cat_int, cat_long, cat_refv, cat_null]; done) | rfl
theorem ef15 (m : MethodId) (x0 : Addr) (x1 : Addr) : entryFrame m #[(.ref x0), (.ref x1), .null] 5 = mkF m 0 #[.val (.ref x0), .val (.ref x1), .val .null, .unset, .unset] [] := by first | (simp [entryFrame, mkF, argsToLocals, cat_int, cat_long, cat_refv, cat_null]; done) | rfl
theorem ef16 (m : MethodId) (x0 : Addr) (x1 : Int32) (x2 : Int32) : entryFrame m #[(.ref x0), (.int x1), (.int x2)] 4 = mkF m 0 #[.val (.ref x0), .val (.int x1), .val (.int x2), .unset] [] := by first | (simp [entryFrame, mkF, argsToLocals, cat_int, cat_long, cat_refv, cat_null]; done) | rfl
theorem ef17 (m : MethodId) (x0 : Int32) (x1 : Int32) (x2 : Int32) (x3 : Int32) : entryFrame m #[(.int x0), (.int x1), (.int x2), (.int x3)] maxLocals = mkF m 0 #[.val (.int x0), .val (.int x1), .val (.int x2), .val (.int x3), .unset, .unset, .unset, .unset, .unset] [] := by first | (simp [entryFrame, mkF, argsToLocals, cat_int, cat_long, cat_refv, cat_null, maxLocals]; done) | rfl
theorem own_b {x : Int32} {P : Prop} [Decidable P] (h : x = (if P then (0 : Int32) else (1 : Int32))) : x = 0 ∨ x = 1 := by subst h; split <;> simp
theorem rng3 {v : Int32} (h0 : 0 ≤ v.toInt) (h : v.toInt < 3) : v = 0 ∨ v = 1 ∨ v = 2 := by
  have q : v.toInt = 0 ∨ v.toInt = 1 ∨ v.toInt = 2 := by omega
  rcases q with q | q | q
  · exact Or.inl (Int32.toInt_inj.mp (q.trans rfl))
  · exact Or.inr (Or.inl (Int32.toInt_inj.mp (q.trans rfl)))
  · exact Or.inr (Or.inr (Int32.toInt_inj.mp (q.trans rfl)))
theorem m3 (x : Int32) : (x &&& (32767 : Int32)) % (3 : Int32) = 0 ∨ (x &&& (32767 : Int32)) % (3 : Int32) = 1 ∨ (x &&& (32767 : Int32)) % (3 : Int32) = 2 := by
  have h1 : (x &&& (32767 : Int32)).toInt = x.toInt % 2 ^ 15 := Jvm.Kit.i32_mask x 32767 (k := 15) (by decide) (by decide)
  have h2 := Jvm.Kit.i32_rem_nonneg (x := x &&& (32767 : Int32)) (y := 3) (by rw [h1]; omega)
  have e3 : (3 : Int32).toInt = 3 := rfl
  exact rng3 (by rw [h2, e3]; omega) (by rw [h2, e3]; omega)
def QEm4 (Z : State) (a : Addr) (b : Addr) (h0 : Heap) : Option Value → Heap → Prop := fun v h => v = none ∧ SV Z h a []
set_option maxRecDepth 65536 in
set_option maxHeartbeats 40000000 in
theorem rmEm4 (l : Launch) (Z : State) (a0 : Array Value) (hw : ∀ d ∈ tables_1, d.before a0 Z = true) (a : Addr) (b : Addr) (h0 : Heap) (O : Ext Z.heap h0) (gz_a : Z.heap.size ≤ a) (Ea : Exa Z h0 a "java/lang/String") (Fv : Fld Z h0 a "java/lang/String" "value" "[B" .null) (Fc : Fld Z h0 a "java/lang/String" "coder" "B" (.int 0)) :
    CW [] l Z consts_1 (⟨"java/lang/String", "<init>", "([CIILjava/lang/Void;)V"⟩ : MethodName) jdk_42_method_149_code 6 (Option.none : Option Jvm.ClassFile.FieldType) ({ frames := 1, cells := 4, slots := 8, locals := 14 } : Room) #[(.ref a), (.ref b), (.int (0 : Int32)), (.int (0 : Int32)), .null] h0 [a] (QEm4 Z a b h0) := by
  refine CW.of_walk (plainFor_of_name pn0) O (ala gz_a ala0) ?_
  intro p e s m below meth c T0 W0 hsf hx hby hml hoZ hnm hret hlk
  have H0 := W0.here; have hz0 := W0.zsize; have hEL := elw hw
  refine Goes.cast (ef0 m a b (0 : Int32) (0 : Int32)) ?_
  have la := ltN Ea.lt
  refine G.aloadN H0 hx 1 (hb hby d4_0) rfl rfl rfl ?_
  refine Wk.initO W0 hx hoZ (wd hw 21 rfl) (wd hw 22 rfl) (wd hw 23 rfl) (by rw [hml]; rfl) 4 (hb hby d4_1) rfl (by decide) 0 (Nat.le_of_eq rfl) (by decide) ?_
  intro T1 W1; have H1 := W1.here
  refine G.iloadN H1 hx 5 (hb hby d4_4) rfl rfl ?_
  refine G.ifN H1 hx 8 (hb hby d4_5) (zeq (by decide)).2 rfl ?_
  refine G.aloadN H1 hx 9 (hb hby d4_8) rfl rfl rfl ?_
  refine Wk.ldcE W1 hx hoZ (text := "") (wd hw 24 rfl) (wsStr hw) hEL (by decide) (vs := []) (z := 0) ⟨by decide, by decide⟩ (by decide) (by decide) 11 (hb hby d4_9) rfl 0 (by decide) (by decide) (by decide) (by decide) ?_
  intro vm2 T2 h2 a2 b2 k2 W2 E2 Ch2 X2 F2c F2v V2 sep2
  have H2 := W2.here; have z2 := E2.1; have l2 := ltN X2.lt; have m2 := ltN V2.lt
  obtain ⟨nA2_a, nB2_a⟩ := sep2 a (Ch2.safe (ltA (by omega)) (hsf a (by simp)))
  have pA2_a := neN nA2_a; have pB2_a := neN nB2_a
  refine Wk.getF W2 hx hoZ (host := "") (Or.inl (wd hw 30 rfl)) Via.refl F2v 14 (hb hby d4_11) rfl ?_
  intro T3 W3; have H3 := W3.here
  refine Wk.putF W3 hx hoZ (wd hw 30 rfl) Via.refl (.ref b2) (Fv.ext E2) (Ea.ext E2) (Or.inr ⟨(wd hw 26 rfl), rfl, hnm⟩) (wd hw 11 rfl) (ty := (.array .byte)) (by decide) rfl rfl (Or.inl (by simp)) (Ch2.safe (ltA (by omega)) (hsf a (by simp))) 17 (hb hby d4_14) rfl ?_
  intro T4 h4 W4 R4 Ch4; have H4 := W4.here; have z4 := R4.size
  have F4 := ((Fv.ext E2)).same R4
  refine G.aloadN H4 hx 18 (hb hby d4_17) rfl rfl rfl ?_
  refine Wk.ldcE W4 hx hoZ (text := "") (wd hw 24 rfl) (wsStr hw) hEL (by decide) (vs := []) (z := 0) ⟨by decide, by decide⟩ (by decide) (by decide) 20 (hb hby d4_18) rfl 0 (by decide) (by decide) (by decide) (by decide) ?_
  intro vm5 T5 h5 a5 b5 k5 W5 E5 Ch5 X5 F5c F5v V5 sep5
  have H5 := W5.here; have z5 := E5.1; have l5 := ltN X5.lt; have m5 := ltN V5.lt
  obtain ⟨nA5_a, nB5_a⟩ := sep5 a (Ch5.safe (ltA (by omega)) (Ch4.safe (ltA (by omega)) (Ch2.safe (ltA (by omega)) (hsf a (by simp)))))
  have pA5_a := neN nA5_a; have pB5_a := neN nB5_a
  refine Wk.getF W5 hx hoZ (host := "") (Or.inl (wd hw 31 rfl)) Via.refl F5c 23 (hb hby d4_20) rfl ?_
  intro T6 W6; have H6 := W6.here
  refine Wk.putF W6 hx hoZ (wd hw 31 rfl) Via.refl (.int (0 : Int32)) (((Fc.ext E2).other R4 (Or.inr (slot_ne (Or.inr (wd hw 27 rfl)) (Or.inr (wd hw 26 rfl)) (by decide) (t := .byte) (t' := (.array .byte)) (by decide) (by decide)))).ext E5) (((Ea.ext E2).wr R4).ext E5) (Or.inr ⟨(wd hw 27 rfl), rfl, hnm⟩) (wd hw 11 rfl) (ty := .byte) (by decide) rfl rfl (Or.inl (by simp)) (Ch5.safe (ltA (by omega)) (Ch4.safe (ltA (by omega)) (Ch2.safe (ltA (by omega)) (hsf a (by simp))))) 26 (hb hby d4_23) rfl ?_
  intro T7 h7 W7 R7 Ch7; have H7 := W7.here; have z7 := R7.size
  have F7 := ((((Fc.ext E2).other R4 (Or.inr (slot_ne (Or.inr (wd hw 27 rfl)) (Or.inr (wd hw 26 rfl)) (by decide) (t := .byte) (t' := (.array .byte)) (by decide) (by decide)))).ext E5)).same R7
  exact Wk.retVW W7 hx hEL hret hlk (hb hby d4_26) (by decide) (by decide) ⟨rfl, ((((Ea.ext E2).wr R4).ext E5).wr R7), 0, _, _, 0, [], F7, ((F4.ext E5).other R7 (Or.inr (slot_ne (Or.inr (wd hw 26 rfl)) (Or.inr (wd hw 27 rfl)) (by decide) (t := (.array .byte)) (t' := .byte) (by decide) (by decide)))), (((V2.other R4 (neA (by omega))).ext E5).other R7 (neA (by omega))), Or.inl ⟨rfl, rfl, rfl, ala0⟩, ala0, by decide⟩
def QEm1 (Z : State) (a : Addr) (b : Addr) (kb : ClassId) (h0 : Heap) : Option Value → Heap → Prop := fun v h => v = none ∧ SV Z h a []
set_option maxRecDepth 65536 in
set_option maxHeartbeats 40000000 in
theorem rmEm1 (l : Launch) (Z : State) (a0 : Array Value) (hw : ∀ d ∈ tables_1, d.before a0 Z = true) (a : Addr) (b : Addr) (kb : ClassId) (h0 : Heap) (O : Ext Z.heap h0) (gz_a : Z.heap.size ≤ a) (Ea : Exa Z h0 a "java/lang/String") (Fv : Fld Z h0 a "java/lang/String" "value" "[B" .null) (Fc : Fld Z h0 a "java/lang/String" "coder" "B" (.int 0)) (Vb : Arv Z h0 b kb .char 0 [] (.int 0)) :
    CW [] l Z consts_1 (⟨"java/lang/String", "<init>", "([C)V"⟩ : MethodName) jdk_42_method_3_code 2 (Option.none : Option Jvm.ClassFile.FieldType) ({ frames := 2, cells := 4, slots := 8, locals := 32 } : Room) #[(.ref a), (.ref b)] h0 [a] (QEm1 Z a b kb h0) := by
  refine CW.of_walk (plainFor_of_name pn0) O (ala gz_a ala0) ?_
  intro p e s m below meth c T0 W0 hsf hx hby hml hoZ hnm hret hlk
  have H0 := W0.here; have hz0 := W0.zsize; have hEL := elw hw
  refine Goes.cast (ef1 m a b) ?_
  have la := ltN Ea.lt
  refine G.aloadN H0 hx 1 (hb hby d3_0) rfl rfl rfl ?_
  refine G.aloadN H0 hx 2 (hb hby d3_1) rfl rfl rfl ?_
  refine G.iconst H0 hx 3 (0 : Int32) (hb hby d3_2) rfl rfl ?_
  refine G.aloadN H0 hx 4 (hb hby d3_3) rfl rfl rfl ?_
  refine Wk.arraylength W0 hx Vb 5 (hb hby d3_4) rfl ?_
  refine G.aconstNull H0 hx 6 (hb hby d3_5) rfl ?_
  refine Wk.specialW W0 hx hoZ (y := (⟨"java/lang/String", "<init>", "([CIILjava/lang/Void;)V"⟩ : MethodName)) rfl (wd hw 17 rfl) (wd hw 18 rfl) (wd hw 20 rfl) (by decide) (Wd := 0) (CW.back (rmEm4 l Z a0 hw a b h0 W0.old (by omega) Ea Fv Fc) W0.warm (wd hw 20 rfl) (wd hw 12 rfl) (by decide) (by decide) hEL W0.ch (all1 (by omega)) (ala (hsf a (by simp)) ala0)) a (by rw [hml]; rfl) [(.ref b), (.int (0 : Int32)), (.int (0 : Int32)), .null] [] (lenOf pd0 rfl) rfl rfl (Nat.le_of_eq rfl) 9 (hb hby d3_6) rfl (by decide) (by decide) (hws1 (Or.inl (by simp)) (hsf a (by simp))) ?_
  intro v1 vm1 T1 h1 W1 K1 Ch1 Q1
  have H1 := W1.here; have z1 := K1.1
  obtain ⟨rfl, Sv1⟩ := Q1
  show Goes p e below (PostW s Z consts_1 h0 [a] (QEm1 Z a b kb h0) ({ frames := 2, cells := 4, slots := 8, locals := 32 } : Room).cells ({ frames := 2, cells := 4, slots := 8, locals := 32 } : Room).slots) (T1.setTop (mkF m 9 #[.val (.ref a), .val (.ref b)] []))
  exact Wk.retVW W1 hx hEL hret hlk (hb hby d3_9) (by decide) (by decide) ⟨rfl, Sv1⟩
def QCanE (Z : State) (x : Int32) (h0 : Heap) : Option Value → Heap → Prop := fun v h => v = some (.int 1) ∧ h = h0
set_option maxRecDepth 65536 in
set_option maxHeartbeats 40000000 in
theorem rmCanE (l : Launch) (Z : State) (a0 : Array Value) (hw : ∀ d ∈ tables_1, d.before a0 Z = true) (x : Int32) (h0 : Heap) (O : Ext Z.heap h0) (hx8 : C8 x) :
    CN [] l Z (⟨"java/lang/StringLatin1", "canEncode", "(C)Z"⟩ : MethodName) jdk_43_method_3_code 1 (Option.some Jvm.ClassFile.FieldType.boolean) ({ frames := 0, cells := 0, slots := 0, locals := 0 } : Room) #[(.int x)] h0 [] (QCanE Z x h0) := by
  refine CN.of_walk (plainFor_of_name pn1) O (fun _ q => nomatch q) ?_
  intro p e s m below meth c T0 W0 hx hby hml hoZ hnm hret hlk
  have H0 := W0.here; have hz0 := W0.zsize
  refine Goes.cast (ef2 m x) ?_
  refine G.iloadN H0 hx 1 (hb hby d38_0) rfl rfl ?_
  refine G.sipush H0 hx 4 (255 : Int32) (hb hby d38_1) rfl rfl ?_
  refine G.icmpN H0 hx 7 (hb hby d38_4) (flt hx8.2).2.2.1 rfl ?_
  refine G.iconst H0 hx 8 (1 : Int32) (hb hby d38_7) rfl rfl ?_
  refine G.goto H0 hx 12 (hb hby d38_8) (by decide) rfl ?_
  exact Wk.retN W0 hx (1 : Int32) (t := .boolean) rfl (by simp) hret hlk (hb hby d38_12) (by decide) (by decide) ⟨rfl, rfl⟩
def QToB (Z : State) (x : Int32) (h0 : Heap) : Option Value → Heap → Prop := fun v h => ∃ (b : Addr) (k : ClassId), v = some (.ref b) ∧ h0.size ≤ b ∧ Arv Z h b k .byte 1 [.int (OwnKit.i2b x)] (.int 0)
set_option maxRecDepth 65536 in
set_option maxHeartbeats 40000000 in
theorem rmToB (l : Launch) (Z : State) (a0 : Array Value) (hw : ∀ d ∈ tables_1, d.before a0 Z = true) (x : Int32) (h0 : Heap) (O : Ext Z.heap h0) :
    CN [] l Z (⟨"java/lang/StringLatin1", "toBytes", "(C)[B"⟩ : MethodName) jdk_43_method_46_code 1 (Option.some (Jvm.ClassFile.FieldType.array Jvm.ClassFile.FieldType.byte)) ({ frames := 0, cells := 1, slots := 1, locals := 0 } : Room) #[(.int x)] h0 [] (QToB Z x h0) := by
  refine CN.of_walk (plainFor_of_name pn1) O (fun _ q => nomatch q) ?_
  intro p e s m below meth c T0 W0 hx hby hml hoZ hnm hret hlk
  have H0 := W0.here; have hz0 := W0.zsize
  refine Goes.cast (ef2 m x) ?_
  refine G.iconst H0 hx 1 (1 : Int32) (hb hby d39_0) rfl rfl ?_
  refine Wk.newP W0 hx (wd hw 25 rfl) 3 (hb hby d39_1) (by decide) 1 (by decide) rfl (by decide) (by decide) (by decide) ?_
  intro T1 h1 a1 k1 W1 E1 g1 V1 S1
  have H1 := W1.here; have z1 := E1.1; have gu1 := Nat.le_of_eq g1; have gt1 := Nat.le_of_eq g1.symm; have l1 := ltN V1.lt
  have V1 : Arv Z h1 a1 k1 .byte (1 : Int32) [(.int (0 : Int32))] (.int (0 : Int32)) := V1
  refine G.dup H1 hx 4 (hb hby d39_3) rfl rfl ?_
  refine G.iconst H1 hx 5 (0 : Int32) (hb hby d39_4) rfl rfl ?_
  refine G.iloadN H1 hx 6 (hb hby d39_5) rfl rfl ?_
  refine G.i2b H1 hx 7 (hb hby d39_6) rfl ?_
  refine Wk.bastore W1 hx V1 (Or.inr (by omega)) S1 (OwnKit.i2b x) (i2b_i2b x) 0 rfl ⟨by decide, by decide⟩ (Nat.le_of_ble_eq_true rfl) 8 (hb hby d39_7) rfl ?_
  intro T2 h2 W2 K2 Ch2 V2; have H2 := W2.here; have z2 := K2.1
  have V2 : Arv Z h2 a1 k1 .byte (1 : Int32) [(.int (OwnKit.i2b x))] (.int (0 : Int32)) := V2
  exact Wk.retA W2 hx (t := (.array .byte)) rfl rfl hret hlk (hb hby d39_8) (by decide) (by decide) ⟨_, _, rfl, by omega, V2⟩
def QSBB (Z : State) (a : Addr) (b : Addr) (h0 : Heap) : Option Value → Heap → Prop := fun v h => v = none ∧ Exa Z h a "java/lang/String" ∧ Fld Z h a "java/lang/String" "value" "[B" (.ref b) ∧ Fld Z h a "java/lang/String" "coder" "B" (.int 0)
set_option maxRecDepth 65536 in
set_option maxHeartbeats 40000000 in
theorem rmSBB (l : Launch) (Z : State) (a0 : Array Value) (hw : ∀ d ∈ tables_1, d.before a0 Z = true) (a : Addr) (b : Addr) (h0 : Heap) (O : Ext Z.heap h0) (gz_a : Z.heap.size ≤ a) (Ea : Exa Z h0 a "java/lang/String") (Fv : Fld Z h0 a "java/lang/String" "value" "[B" .null) (Fc : Fld Z h0 a "java/lang/String" "coder" "B" (.int 0)) :
    CN [] l Z (⟨"java/lang/String", "<init>", "([BB)V"⟩ : MethodName) jdk_42_method_151_code 3 (Option.none : Option Jvm.ClassFile.FieldType) ({ frames := 1, cells := 0, slots := 0, locals := 12 } : Room) #[(.ref a), (.ref b), (.int (0 : Int32))] h0 [a] (QSBB Z a b h0) := by
  refine CN.of_walk (plainFor_of_name pn0) O (ala gz_a ala0) ?_
  intro p e s m below meth c T0 W0 hx hby hml hoZ hnm hret hlk
  have H0 := W0.here; have hz0 := W0.zsize
  refine Goes.cast (ef3 m a b (0 : Int32)) ?_
  refine G.aloadN H0 hx 1 (hb hby d40_0) rfl rfl rfl ?_
  refine Wk.initO W0 hx hoZ (wd hw 21 rfl) (wd hw 22 rfl) (wd hw 23 rfl) (by rw [hml]; rfl) 4 (hb hby d40_1) rfl (by decide) 0 (Nat.le_of_eq rfl) (by decide) ?_
  intro T1 W1; have H1 := W1.here
  refine G.aloadN H1 hx 5 (hb hby d40_4) rfl rfl rfl ?_
  refine G.aloadN H1 hx 6 (hb hby d40_5) rfl rfl rfl ?_
  refine Wk.putF W1 hx hoZ (wd hw 30 rfl) Via.refl (.ref b) Fv Ea (Or.inr ⟨(wd hw 26 rfl), rfl, hnm⟩) (wd hw 11 rfl) (ty := (.array .byte)) (by decide) rfl rfl (Or.inl (by simp)) safe0 9 (hb hby d40_6) rfl ?_
  intro T2 h2 W2 R2 Ch2; have H2 := W2.here; have z2 := R2.size
  have F2 := (Fv).same R2
  refine G.aloadN H2 hx 10 (hb hby d40_9) rfl rfl rfl ?_
  refine G.iloadN H2 hx 11 (hb hby d40_10) rfl rfl ?_
  refine Wk.putF W2 hx hoZ (wd hw 31 rfl) Via.refl (.int (0 : Int32)) (Fc.other R2 (Or.inr (slot_ne (Or.inr (wd hw 27 rfl)) (Or.inr (wd hw 26 rfl)) (by decide) (t := .byte) (t' := (.array .byte)) (by decide) (by decide)))) (Ea.wr R2) (Or.inr ⟨(wd hw 27 rfl), rfl, hnm⟩) (wd hw 11 rfl) (ty := .byte) (by decide) rfl rfl (Or.inl (by simp)) safe0 14 (hb hby d40_11) rfl ?_
  intro T3 h3 W3 R3 Ch3; have H3 := W3.here; have z3 := R3.size
  have F3 := ((Fc.other R2 (Or.inr (slot_ne (Or.inr (wd hw 27 rfl)) (Or.inr (wd hw 26 rfl)) (by decide) (t := .byte) (t' := (.array .byte)) (by decide) (by decide))))).same R3
  exact Wk.retV W3 hx hret hlk (hb hby d40_14) (by decide) (by decide) ⟨rfl, ((Ea.wr R2).wr R3), (F2.other R3 (Or.inr (slot_ne (Or.inr (wd hw 26 rfl)) (Or.inr (wd hw 27 rfl)) (by decide) (t := (.array .byte)) (t' := .byte) (by decide) (by decide)))), F3⟩
def QVOf (Z : State) (cz : Int32) (x : Int32) (h0 : Heap) : Option Value → Heap → Prop := fun v h => ∃ a : Addr, v = some (.ref a) ∧ h0.size ≤ a ∧ SV Z h a [x]
set_option maxRecDepth 65536 in
set_option maxHeartbeats 40000000 in
theorem rmVOf (l : Launch) (Z : State) (a0 : Array Value) (hw : ∀ d ∈ tables_1, d.before a0 Z = true) (cz : Int32) (x : Int32) (h0 : Heap) (O : Ext Z.heap h0) (hCS : Sta Z Z.heap "java/lang/String" "COMPACT_STRINGS" "Z" (.int cz)) (hcz : ¬ cz = 0) (hx8 : C8 x) :
    CN [] l Z (⟨"java/lang/String", "valueOf", "(C)Ljava/lang/String;"⟩ : MethodName) jdk_42_method_139_code 1 (Option.some (Jvm.ClassFile.FieldType.object "java/lang/String")) ({ frames := 2, cells := 2, slots := 5, locals := 30 } : Room) #[(.int x)] h0 [] (QVOf Z cz x h0) := by
  refine CN.of_walk (plainFor_of_name pn0) O (fun _ q => nomatch q) ?_
  intro p e s m below meth c T0 W0 hx hby hml hoZ hnm hret hlk
  have H0 := W0.here; have hz0 := W0.zsize
  refine Goes.cast (ef2 m x) ?_
  refine Wk.getS W0 hx hoZ (wd hw 87 rfl) Via.refl (hCS.ext W0.old) 3 (hb hby d37_0) rfl ?_
  intro T1 W1; have H1 := W1.here
  refine G.ifN H1 hx 6 (hb hby d37_3) (zne hcz).1 rfl ?_
  refine G.iloadN H1 hx 7 (hb hby d37_6) rfl rfl ?_
  refine Wk.callS W1 hx hoZ (y := (⟨"java/lang/StringLatin1", "canEncode", "(C)Z"⟩ : MethodName)) (wd hw 196 rfl) (wd hw 197 rfl) (wd hw 180 rfl) (wd hw 198 rfl) (by decide) (Wd := 0) (CN.back (rmCanE l Z a0 hw x h0 W1.old hx8) W1.warm (wd hw 198 rfl) (wd hw 180 rfl) (by decide) (by decide)) (by rw [hml]; rfl) [(.int x)] [] (lenOf pd1 rfl) rfl rfl (Nat.le_of_eq rfl) 10 (hb hby d37_7) rfl (by decide) (by decide) (fun _ q => nomatch q) ?_
  intro v2 T2 h2 W2 K2 Ch2 Q2
  have H2 := W2.here; have z2 := K2.1
  obtain ⟨rfl, eh2⟩ := Q2
  show Goes p e below (PostN s Z h0 [] (QVOf Z cz x h0) ({ frames := 2, cells := 2, slots := 5, locals := 30 } : Room).cells ({ frames := 2, cells := 2, slots := 5, locals := 30 } : Room).slots) (T2.setTop (mkF m 10 #[.val (.int x)] [(.int (1 : Int32))]))
  refine G.ifN H2 hx 13 (hb hby d37_10) (zne (by decide)).1 rfl ?_
  refine Wk.newO W2 hx hoZ (wd hw 199 rfl) (wd hw 11 rfl) (wd hw 12 rfl) 16 (hb hby d37_13) rfl (by decide) (by decide) ?_
  intro T3 h3 a3 W3 E3 g3 A3 D3 S3
  have H3 := W3.here; have z3 := E3.1; have gu3 := Nat.le_of_eq g3; have gt3 := Nat.le_of_eq g3.symm; have l3 := ltN A3.lt
  refine G.dup H3 hx 17 (hb hby d37_16) rfl rfl ?_
  refine G.iloadN H3 hx 18 (hb hby d37_17) rfl rfl ?_
  refine Wk.callS W3 hx hoZ (y := (⟨"java/lang/StringLatin1", "toBytes", "(C)[B"⟩ : MethodName)) (wd hw 200 rfl) (wd hw 201 rfl) (wd hw 180 rfl) (wd hw 202 rfl) (by decide) (Wd := 2) (CN.back (rmToB l Z a0 hw x h3 W3.old ) W3.warm (wd hw 202 rfl) (wd hw 180 rfl) (by decide) (by decide)) (by rw [hml]; rfl) [(.int x)] [(.ref a3), (.ref a3)] (lenOf pd2 rfl) rfl rfl (Nat.le_of_eq rfl) 21 (hb hby d37_18) rfl (by decide) (by decide) (fun _ q => nomatch q) ?_
  intro v4 T4 h4 W4 K4 Ch4 Q4
  have H4 := W4.here; have z4 := K4.1
  obtain ⟨b4, k4, rfl, g4, V4⟩ := Q4; have l4 := ltN V4.lt
  show Goes p e below (PostN s Z h0 [] (QVOf Z cz x h0) ({ frames := 2, cells := 2, slots := 5, locals := 30 } : Room).cells ({ frames := 2, cells := 2, slots := 5, locals := 30 } : Room).slots) (T4.setTop (mkF m 21 #[.val (.int x)] [(.ref b4), (.ref a3), (.ref a3)]))
  refine G.iconst H4 hx 22 (0 : Int32) (hb hby d37_21) rfl rfl ?_
  refine Wk.special W4 hx hoZ (y := (⟨"java/lang/String", "<init>", "([BB)V"⟩ : MethodName)) rfl (wd hw 203 rfl) (wd hw 204 rfl) (wd hw 205 rfl) (by decide) (Wd := 1) (CN.back (rmSBB l Z a0 hw a3 b4 h4 W4.old (by omega) (A3.keep K4) ((D3 (Or.inr (wd hw 26 rfl)) (ty := (.array .byte)) (by decide)).keep K4 nin0) ((D3 (Or.inr (wd hw 27 rfl)) (ty := .byte) (by decide)).keep K4 nin0)) W4.warm (wd hw 205 rfl) (wd hw 12 rfl) (by decide) (by decide)) a3 (by rw [hml]; rfl) [(.ref b4), (.int (0 : Int32))] [(.ref a3)] (lenOf pd3 rfl) rfl rfl (Nat.le_of_eq rfl) 25 (hb hby d37_22) rfl (by decide) (by decide) (hws1 (Or.inr (by omega)) safe0) ?_
  intro v5 T5 h5 W5 K5 Ch5 Q5
  have H5 := W5.here; have z5 := K5.1
  obtain ⟨rfl, X5, F5v, F5c⟩ := Q5
  show Goes p e below (PostN s Z h0 [] (QVOf Z cz x h0) ({ frames := 2, cells := 2, slots := 5, locals := 30 } : Room).cells ({ frames := 2, cells := 2, slots := 5, locals := 30 } : Room).slots) (T5.setTop (mkF m 25 #[.val (.int x)] [(.ref a3)]))
  exact Wk.retA W5 hx (t := (.object "java/lang/String")) rfl rfl hret hlk (hb hby d37_25) (by decide) (by decide) ⟨_, rfl, by omega, X5, 0, _, _, 1, _, F5c, F5v, (V4.keep K5 (ninS (neA (by omega)) nin0)), Or.inl ⟨rfl, rfl, rfl, ala hx8.2 ala0⟩, ala hx8.up ala0, Nat.le_of_ble_eq_true rfl⟩
def f_len (x0 : Int32) : Int32 := (((XT.ushr x0 (16 : Int32)) &&& (32767 : Int32)) % (3 : Int32))
def Qlen (Z : State) (x0 : Int32) (h0 : Heap) : Option Value → Heap → Prop := fun v h => v = some (.int (f_len x0)) ∧ h = h0
set_option maxRecDepth 65536 in
set_option maxHeartbeats 40000000 in
theorem rmlen (l : Launch) (Z : State) (a0 : Array Value) (hw : ∀ d ∈ tables_1, d.before a0 Z = true) (x0 : Int32) (h0 : Heap) (O : Ext Z.heap h0) :
    CN [] l Z (⟨"com/example/proper_grant/propergrant/bench/RequestToStringPinLaw", "len", "(I)I"⟩ : MethodName) method_2_code 1 (Option.some Jvm.ClassFile.FieldType.int) ({ frames := 0, cells := 0, slots := 0, locals := 0 } : Room) #[(.int x0)] h0 [] (Qlen Z x0 h0) := by
  refine CN.of_walk (plainFor_of_name pn2) O (fun _ q => nomatch q) ?_
  intro p e s m below meth c T0 W0 hx hby hml hoZ hnm hret hlk
  have H0 := W0.here; have hz0 := W0.zsize
  refine Goes.cast (ef2 m x0) ?_
  refine G.iloadN H0 hx 1 (hb hby d2_0) rfl rfl ?_
  refine G.bipush H0 hx 3 (16 : Int32) (hb hby d2_1) rfl rfl ?_
  refine G.iushr H0 hx 4 (hb hby d2_3) rfl ?_
  refine G.sipush H0 hx 7 (32767 : Int32) (hb hby d2_4) rfl rfl ?_
  refine G.iand H0 hx 8 (hb hby d2_7) rfl ?_
  refine G.iconst H0 hx 9 (3 : Int32) (hb hby d2_8) rfl rfl ?_
  refine G.irem H0 hx 10 (hb hby d2_9) (by decide) rfl ?_
  exact Wk.retI W0 hx hret hlk (hb hby d2_10) (by decide) (by decide) ⟨(by simp only [f_len]), rfl⟩
def f_c0 (x0 : Int32) : Int32 := (OwnKit.i2c (x0 &&& (255 : Int32)))
def Qc0 (Z : State) (x0 : Int32) (h0 : Heap) : Option Value → Heap → Prop := fun v h => v = some (.int (f_c0 x0)) ∧ h = h0
set_option maxRecDepth 65536 in
set_option maxHeartbeats 40000000 in
theorem rmc0 (l : Launch) (Z : State) (a0 : Array Value) (hw : ∀ d ∈ tables_1, d.before a0 Z = true) (x0 : Int32) (h0 : Heap) (O : Ext Z.heap h0) :
    CN [] l Z (⟨"com/example/proper_grant/propergrant/bench/RequestToStringPinLaw", "c0", "(I)C"⟩ : MethodName) method_3_code 1 (Option.some Jvm.ClassFile.FieldType.char) ({ frames := 0, cells := 0, slots := 0, locals := 0 } : Room) #[(.int x0)] h0 [] (Qc0 Z x0 h0) := by
  refine CN.of_walk (plainFor_of_name pn2) O (fun _ q => nomatch q) ?_
  intro p e s m below meth c T0 W0 hx hby hml hoZ hnm hret hlk
  have H0 := W0.here; have hz0 := W0.zsize
  refine Goes.cast (ef2 m x0) ?_
  refine G.iloadN H0 hx 1 (hb hby d36_0) rfl rfl ?_
  refine G.sipush H0 hx 4 (255 : Int32) (hb hby d36_1) rfl rfl ?_
  refine G.iand H0 hx 5 (hb hby d36_4) rfl ?_
  refine G.i2c H0 hx 6 (hb hby d36_5) rfl ?_
  exact Wk.retN W0 hx (OwnKit.i2c (x0 &&& (255 : Int32))) (t := .char) (nar_c16 (i2c_c16 _)) (by simp) hret hlk (hb hby d36_6) (by decide) (by decide) ⟨(by simp only [f_c0]), rfl⟩
theorem f_c0_c16 (x0 : Int32) : C16 (f_c0 x0) := by
  unfold f_c0
  repeat' (first | split | exact i2c_c16 _ | exact C16.of (by decide) | exact f_len_c16 _)
def f_c1 (x0 : Int32) : Int32 := (OwnKit.i2c ((XT.ushr x0 (8 : Int32)) &&& (255 : Int32)))
def Qc1 (Z : State) (x0 : Int32) (h0 : Heap) : Option Value → Heap → Prop := fun v h => v = some (.int (f_c1 x0)) ∧ h = h0
set_option maxRecDepth 65536 in
set_option maxHeartbeats 40000000 in
theorem rmc1 (l : Launch) (Z : State) (a0 : Array Value) (hw : ∀ d ∈ tables_1, d.before a0 Z = true) (x0 : Int32) (h0 : Heap) (O : Ext Z.heap h0) :
    CN [] l Z (⟨"com/example/proper_grant/propergrant/bench/RequestToStringPinLaw", "c1", "(I)C"⟩ : MethodName) method_4_code 1 (Option.some Jvm.ClassFile.FieldType.char) ({ frames := 0, cells := 0, slots := 0, locals := 0 } : Room) #[(.int x0)] h0 [] (Qc1 Z x0 h0) := by
  refine CN.of_walk (plainFor_of_name pn2) O (fun _ q => nomatch q) ?_
  intro p e s m below meth c T0 W0 hx hby hml hoZ hnm hret hlk
  have H0 := W0.here; have hz0 := W0.zsize
  refine Goes.cast (ef2 m x0) ?_
  refine G.iloadN H0 hx 1 (hb hby d41_0) rfl rfl ?_
  refine G.bipush H0 hx 3 (8 : Int32) (hb hby d41_1) rfl rfl ?_
  refine G.iushr H0 hx 4 (hb hby d41_3) rfl ?_
  refine G.sipush H0 hx 7 (255 : Int32) (hb hby d41_4) rfl rfl ?_
  refine G.iand H0 hx 8 (hb hby d41_7) rfl ?_
  refine G.i2c H0 hx 9 (hb hby d41_8) rfl ?_
  exact Wk.retN W0 hx (OwnKit.i2c ((XT.ushr x0 (8 : Int32)) &&& (255 : Int32))) (t := .char) (nar_c16 (i2c_c16 _)) (by simp) hret hlk (hb hby d41_9) (by decide) (by decide) ⟨(by simp only [f_c1]), rfl⟩
theorem f_c1_c16 (x0 : Int32) : C16 (f_c1 x0) := by
  unfold f_c1
  repeat' (first | split | exact i2c_c16 _ | exact C16.of (by decide) | exact f_len_c16 _ | exact f_c0_c16 _)
theorem c0_8 (x : Int32) : C8 (f_c0 x) := i2c_c8 x
theorem c1_8 (x : Int32) : C8 (f_c1 x) := i2c_c8 _
def nm (x : Int32) : List Int32 := if f_len x = 0 then [] else if f_len x = 1 then [f_c0 x] else [f_c0 x, f_c1 x]
theorem nm_len (x : Int32) : (nm x).length ≤ 2 := by
  unfold nm; split
  · decide
  · split
    · exact Nat.le_of_ble_eq_true rfl
    · exact Nat.le_of_ble_eq_true rfl
theorem nm_8 (x : Int32) : ∀ c ∈ nm x, C8 c := by
  unfold nm; split
  · exact ala0
  · split
    · exact ala (c0_8 x) ala0
    · exact ala (c0_8 x) (ala (c1_8 x) ala0)
theorem len3 (x : Int32) : f_len x = 0 ∨ f_len x = 1 ∨ f_len x = 2 := m3 _
def QMk (Z : State) (cz : Int32) (x0 : Int32) (h0 : Heap) : Option Value → Heap → Prop := fun v h => ∃ a : Addr, v = some (.ref a) ∧ h0.size ≤ a ∧ SV Z h a (nm x0)
set_option maxRecDepth 65536 in
set_option maxHeartbeats 40000000 in
theorem rmMk (l : Launch) (Z : State) (a0 : Array Value) (hw : ∀ d ∈ tables_1, d.before a0 Z = true) (cz : Int32) (x0 : Int32) (h0 : Heap) (O : Ext Z.heap h0) (hCS : Sta Z Z.heap "java/lang/String" "COMPACT_STRINGS" "Z" (.int cz)) (hcz : ¬ cz = 0) :
    CW [] l Z consts_1 (⟨"com/example/proper_grant/propergrant/bench/RequestToStringPinLaw", "name", "(I)Ljava/lang/String;"⟩ : MethodName) method_5_code 3 (Option.some (Jvm.ClassFile.FieldType.object "java/lang/String")) ({ frames := 4, cells := 6, slots := 12, locals := 80 } : Room) #[(.int x0)] h0 [] (QMk Z cz x0 h0) := by
  refine CW.of_walk (plainFor_of_name pn2) O (fun _ q => nomatch q) ?_
  intro p e s m below meth c T0 W0 hsf hx hby hml hoZ hnm hret hlk
  have H0 := W0.here; have hz0 := W0.zsize; have hEL := elw hw
  refine Goes.cast (ef4 m x0) ?_
  refine G.iloadN H0 hx 1 (hb hby d1_0) rfl rfl ?_
  refine Wk.callS W0 hx hoZ (y := (⟨"com/example/proper_grant/propergrant/bench/RequestToStringPinLaw", "len", "(I)I"⟩ : MethodName)) (wd hw 7 rfl) (wd hw 8 rfl) (wd hw 5 rfl) (wd hw 9 rfl) (by decide) (Wd := 0) (CN.back (rmlen l Z a0 hw x0 h0 W0.old ) W0.warm (wd hw 9 rfl) (wd hw 5 rfl) (by decide) (by decide)) (by rw [hml]; rfl) [(.int x0)] [] (lenOf pd4 rfl) rfl rfl (Nat.le_of_eq rfl) 4 (hb hby d1_1) rfl (by decide) (by decide) (fun _ q => nomatch q) ?_
  intro v1 T1 h1 W1 K1 Ch1 Q1
  have H1 := W1.here; have z1 := K1.1
  obtain ⟨rfl, eh1⟩ := Q1
  show Goes p e below (PostW s Z consts_1 h0 [] (QMk Z cz x0 h0) ({ frames := 4, cells := 6, slots := 12, locals := 80 } : Room).cells ({ frames := 4, cells := 6, slots := 12, locals := 80 } : Room).slots) (T1.setTop (mkF m 4 #[.val (.int x0), .unset, .unset] [(.int (f_len x0))]))
  refine G.istoreN H1 hx 5 (fun v => #[.val (.int x0), .val (.int v), .unset]) (hb hby d1_4) (fun _ => rfl) rfl ?_
  intro v2 hv2
  refine G.iloadN H1 hx 6 (hb hby d1_5) rfl rfl ?_
  by_cases c6_3 : v2 = 0
  ·
    refine G.ifN H1 hx 9 (hb hby d1_6) (zeq c6_3).2 rfl ?_
    refine Wk.newO W1 hx hoZ (wd hw 10 rfl) (wd hw 11 rfl) (wd hw 12 rfl) 12 (hb hby d1_9) rfl (by decide) (by decide) ?_
    intro T4 h4 a4 W4 E4 g4 A4 D4 S4
    have H4 := W4.here; have z4 := E4.1; have gu4 := Nat.le_of_eq g4; have gt4 := Nat.le_of_eq g4.symm; have l4 := ltN A4.lt
    refine G.dup H4 hx 13 (hb hby d1_12) rfl rfl ?_
    refine G.iconst H4 hx 14 (0 : Int32) (hb hby d1_13) rfl rfl ?_
    refine Wk.newP W4 hx (wd hw 13 rfl) 16 (hb hby d1_14) (by decide) 0 (by decide) rfl (by decide) (by decide) (by decide) ?_
    intro T5 h5 a5 k5 W5 E5 g5 V5 S5
    have H5 := W5.here; have z5 := E5.1; have gu5 := Nat.le_of_eq g5; have gt5 := Nat.le_of_eq g5.symm; have l5 := ltN V5.lt
    have V5 : Arv Z h5 a5 k5 .char (0 : Int32) [] (.int (0 : Int32)) := V5
    refine Wk.specialW W5 hx hoZ (y := (⟨"java/lang/String", "<init>", "([C)V"⟩ : MethodName)) rfl (wd hw 14 rfl) (wd hw 15 rfl) (wd hw 16 rfl) (by decide) (Wd := 1) (CW.back (rmEm1 l Z a0 hw a4 a5 k5 h5 W5.old (by omega) (A4.ext E5) ((D4 (Or.inr (wd hw 26 rfl)) (ty := (.array .byte)) (by decide)).ext E5) ((D4 (Or.inr (wd hw 27 rfl)) (ty := .byte) (by decide)).ext E5) V5) W5.warm (wd hw 16 rfl) (wd hw 12 rfl) (by decide) (by decide) hEL W5.ch (all1 (by omega)) (ala ((CHr.ext E5 W4.ch).safe (ltA (by omega)) S4) ala0)) a4 (by rw [hml]; rfl) [(.ref a5)] [(.ref a4)] (lenOf pd5 rfl) rfl rfl (Nat.le_of_eq rfl) 19 (hb hby d1_16) rfl (by decide) (by decide) (hws1 (Or.inr (by omega)) ((CHr.ext E5 W4.ch).safe (ltA (by omega)) S4)) ?_
    intro v6 vm6 T6 h6 W6 K6 Ch6 Q6
    have H6 := W6.here; have z6 := K6.1
    obtain ⟨rfl, Sv6⟩ := Q6
    show Goes p e below (PostW s Z consts_1 h0 [] (QMk Z cz x0 h0) ({ frames := 4, cells := 6, slots := 12, locals := 80 } : Room).cells ({ frames := 4, cells := 6, slots := 12, locals := 80 } : Room).slots) (T6.setTop (mkF m 19 #[.val (.int x0), .val (.int v2), .unset] [(.ref a4)]))
    exact Wk.retAW W6 hx hEL (t := (.object "java/lang/String")) rfl rfl hret hlk (hb hby d1_19) (by decide) (by decide) ⟨_, rfl, by omega, by have q := Sv6; simp only [nm, ← hv2]; simpa [c6_3] using q⟩
  ·
    refine G.ifY H1 hx 20 (hb hby d1_6) (zne c6_3).2 (by decide) rfl ?_
    refine G.iloadN H1 hx 21 (hb hby d1_20) rfl rfl ?_
    refine G.iconst H1 hx 22 (1 : Int32) (hb hby d1_21) rfl rfl ?_
    by_cases c22_7 : v2 = (1 : Int32)
    ·
      refine G.icmpN H1 hx 25 (hb hby d1_22) (teq c22_7).2 rfl ?_
      refine G.iloadN H1 hx 26 (hb hby d1_25) rfl rfl ?_
      refine Wk.callS W1 hx hoZ (y := (⟨"com/example/proper_grant/propergrant/bench/RequestToStringPinLaw", "c0", "(I)C"⟩ : MethodName)) (wd hw 190 rfl) (wd hw 191 rfl) (wd hw 5 rfl) (wd hw 192 rfl) (by decide) (Wd := 0) (CN.back (rmc0 l Z a0 hw x0 h1 W1.old ) W1.warm (wd hw 192 rfl) (wd hw 5 rfl) (by decide) (by decide)) (by rw [hml]; rfl) [(.int x0)] [] (lenOf pd6 rfl) rfl rfl (Nat.le_of_eq rfl) 29 (hb hby d1_26) rfl (by decide) (by decide) (fun _ q => nomatch q) ?_
      intro v8 T8 h8 W8 K8 Ch8 Q8
      have H8 := W8.here; have z8 := K8.1
      obtain ⟨rfl, eh8⟩ := Q8
      show Goes p e below (PostW s Z consts_1 h0 [] (QMk Z cz x0 h0) ({ frames := 4, cells := 6, slots := 12, locals := 80 } : Room).cells ({ frames := 4, cells := 6, slots := 12, locals := 80 } : Room).slots) (T8.setTop (mkF m 29 #[.val (.int x0), .val (.int v2), .unset] [(.int (f_c0 x0))]))
      refine Wk.callS W8 hx hoZ (y := (⟨"java/lang/String", "valueOf", "(C)Ljava/lang/String;"⟩ : MethodName)) (wd hw 193 rfl) (wd hw 194 rfl) (wd hw 12 rfl) (wd hw 195 rfl) (by decide) (Wd := 0) (CN.back (rmVOf l Z a0 hw cz (f_c0 x0) h8 W8.old hCS hcz (c0_8 _)) W8.warm (wd hw 195 rfl) (wd hw 12 rfl) (by decide) (by decide)) (by rw [hml]; rfl) [(.int (f_c0 x0))] [] (lenOf pd7 rfl) rfl rfl (Nat.le_of_eq rfl) 32 (hb hby d1_29) rfl (by decide) (by decide) (fun _ q => nomatch q) ?_
      intro v9 T9 h9 W9 K9 Ch9 Q9
      have H9 := W9.here; have z9 := K9.1
      obtain ⟨a9, rfl, g9, Sv9⟩ := Q9; have l9 := ltN Sv9.lt
      show Goes p e below (PostW s Z consts_1 h0 [] (QMk Z cz x0 h0) ({ frames := 4, cells := 6, slots := 12, locals := 80 } : Room).cells ({ frames := 4, cells := 6, slots := 12, locals := 80 } : Room).slots) (T9.setTop (mkF m 32 #[.val (.int x0), .val (.int v2), .unset] [(.ref a9)]))
      exact Wk.retAW W9 hx hEL (t := (.object "java/lang/String")) rfl rfl hret hlk (hb hby d1_32) (by decide) (by decide) ⟨_, rfl, by omega, by have q := Sv9; simp only [nm, ← hv2]; simpa [c6_3, c22_7] using q⟩
    ·
      refine G.icmpY H1 hx 33 (hb hby d1_22) (feq c22_7).2 (by decide) rfl ?_
      refine G.iconst H1 hx 34 (2 : Int32) (hb hby d1_33) rfl rfl ?_
      refine Wk.newP W1 hx (wd hw 13 rfl) 36 (hb hby d1_34) (by decide) 2 (by decide) rfl (by decide) (by decide) (by decide) ?_
      intro T10 h10 a10 k10 W10 E10 g10 V10 S10
      have H10 := W10.here; have z10 := E10.1; have gu10 := Nat.le_of_eq g10; have gt10 := Nat.le_of_eq g10.symm; have l10 := ltN V10.lt
      have V10 : Arv Z h10 a10 k10 .char (2 : Int32) [(.int (0 : Int32)), (.int (0 : Int32))] (.int (0 : Int32)) := V10
      refine G.astoreN H10 hx 37 #[.val (.int x0), .val (.int v2), .val (.ref a10)] (hb hby d1_36) rfl rfl rfl ?_
      refine G.aloadN H10 hx 38 (hb hby d1_37) rfl rfl rfl ?_
      refine G.iconst H10 hx 39 (0 : Int32) (hb hby d1_38) rfl rfl ?_
      refine G.iloadN H10 hx 40 (hb hby d1_39) rfl rfl ?_
      refine Wk.callS W10 hx hoZ (y := (⟨"com/example/proper_grant/propergrant/bench/RequestToStringPinLaw", "c0", "(I)C"⟩ : MethodName)) (wd hw 190 rfl) (wd hw 191 rfl) (wd hw 5 rfl) (wd hw 192 rfl) (by decide) (Wd := 2) (CN.back (rmc0 l Z a0 hw x0 h10 W10.old ) W10.warm (wd hw 192 rfl) (wd hw 5 rfl) (by decide) (by decide)) (by rw [hml]; rfl) [(.int x0)] [(.int (0 : Int32)), (.ref a10)] (lenOf pd6 rfl) rfl rfl (Nat.le_of_eq rfl) 43 (hb hby d1_40) rfl (by decide) (by decide) (fun _ q => nomatch q) ?_
      intro v11 T11 h11 W11 K11 Ch11 Q11
      have H11 := W11.here; have z11 := K11.1
      obtain ⟨rfl, eh11⟩ := Q11
      show Goes p e below (PostW s Z consts_1 h0 [] (QMk Z cz x0 h0) ({ frames := 4, cells := 6, slots := 12, locals := 80 } : Room).cells ({ frames := 4, cells := 6, slots := 12, locals := 80 } : Room).slots) (T11.setTop (mkF m 43 #[.val (.int x0), .val (.int v2), .val (.ref a10)] [(.int (f_c0 x0)), (.int (0 : Int32)), (.ref a10)]))
      refine Wk.castore W11 hx (V10.keep K11 nin0) (Or.inr (by omega)) (f_c0 x0) (nar_c16 (c0_8 _).up) 0 rfl ⟨by decide, by decide⟩ (Nat.le_of_ble_eq_true rfl) 44 (hb hby d1_43) rfl ?_
      intro T12 h12 W12 K12 Ch12 V12; have H12 := W12.here; have z12 := K12.1
      have V12 : Arv Z h12 a10 k10 .char (2 : Int32) [(.int (f_c0 x0)), (.int (0 : Int32))] (.int (0 : Int32)) := V12
      refine G.aloadN H12 hx 45 (hb hby d1_44) rfl rfl rfl ?_
      refine G.iconst H12 hx 46 (1 : Int32) (hb hby d1_45) rfl rfl ?_
      refine G.iloadN H12 hx 47 (hb hby d1_46) rfl rfl ?_
      refine Wk.callS W12 hx hoZ (y := (⟨"com/example/proper_grant/propergrant/bench/RequestToStringPinLaw", "c1", "(I)C"⟩ : MethodName)) (wd hw 206 rfl) (wd hw 207 rfl) (wd hw 5 rfl) (wd hw 208 rfl) (by decide) (Wd := 2) (CN.back (rmc1 l Z a0 hw x0 h12 W12.old ) W12.warm (wd hw 208 rfl) (wd hw 5 rfl) (by decide) (by decide)) (by rw [hml]; rfl) [(.int x0)] [(.int (1 : Int32)), (.ref a10)] (lenOf pd6 rfl) rfl rfl (Nat.le_of_eq rfl) 50 (hb hby d1_47) rfl (by decide) (by decide) (fun _ q => nomatch q) ?_
      intro v13 T13 h13 W13 K13 Ch13 Q13
      have H13 := W13.here; have z13 := K13.1
      obtain ⟨rfl, eh13⟩ := Q13
      show Goes p e below (PostW s Z consts_1 h0 [] (QMk Z cz x0 h0) ({ frames := 4, cells := 6, slots := 12, locals := 80 } : Room).cells ({ frames := 4, cells := 6, slots := 12, locals := 80 } : Room).slots) (T13.setTop (mkF m 50 #[.val (.int x0), .val (.int v2), .val (.ref a10)] [(.int (f_c1 x0)), (.int (1 : Int32)), (.ref a10)]))
      refine Wk.castore W13 hx (V12.keep K13 nin0) (Or.inr (by omega)) (f_c1 x0) (nar_c16 (c1_8 _).up) 1 rfl ⟨by decide, by decide⟩ (Nat.le_of_ble_eq_true rfl) 51 (hb hby d1_50) rfl ?_
      intro T14 h14 W14 K14 Ch14 V14; have H14 := W14.here; have z14 := K14.1
      have V14 : Arv Z h14 a10 k10 .char (2 : Int32) [(.int (f_c0 x0)), (.int (f_c1 x0))] (.int (0 : Int32)) := V14
      refine Wk.newO W14 hx hoZ (wd hw 10 rfl) (wd hw 11 rfl) (wd hw 12 rfl) 54 (hb hby d1_51) rfl (by decide) (by decide) ?_
      intro T15 h15 a15 W15 E15 g15 A15 D15 S15
      have H15 := W15.here; have z15 := E15.1; have gu15 := Nat.le_of_eq g15; have gt15 := Nat.le_of_eq g15.symm; have l15 := ltN A15.lt
      refine G.dup H15 hx 55 (hb hby d1_54) rfl rfl ?_
      refine G.aloadN H15 hx 56 (hb hby d1_55) rfl rfl rfl ?_
      refine Wk.special W15 hx hoZ (y := (⟨"java/lang/String", "<init>", "([C)V"⟩ : MethodName)) rfl (wd hw 14 rfl) (wd hw 15 rfl) (wd hw 16 rfl) (by decide) (Wd := 1) (newS W15.warm (wsNew hw) (wd hw 11 rfl) W15.old (by omega) A15 (D15 (Or.inr (wd hw 26 rfl)) (ty := (.array .byte)) (by decide)) (D15 (Or.inr (wd hw 27 rfl)) (ty := .byte) (by decide)) (cs := [(f_c0 x0), (f_c1 x0)]) (V14.ext E15) hCS hcz 2 rfl rfl (by decide) (by decide) (ala (c0_8 _) (ala (c1_8 _) (ala0))) (by decide) (by decide)) a15 (by rw [hml]; rfl) [(.ref a10)] [(.ref a15)] (lenOf pd5 rfl) rfl rfl (Nat.le_of_eq rfl) 59 (hb hby d1_56) rfl (by decide) (by decide) (hws1 (Or.inr (by omega)) S15) ?_
      intro v16 T16 h16 W16 K16 Ch16 Q16
      have H16 := W16.here; have z16 := K16.1
      obtain ⟨rfl, Sv16⟩ := Q16
      show Goes p e below (PostW s Z consts_1 h0 [] (QMk Z cz x0 h0) ({ frames := 4, cells := 6, slots := 12, locals := 80 } : Room).cells ({ frames := 4, cells := 6, slots := 12, locals := 80 } : Room).slots) (T16.setTop (mkF m 59 #[.val (.int x0), .val (.int v2), .val (.ref a10)] [(.ref a15)]))
      exact Wk.retAW W16 hx hEL (t := (.object "java/lang/String")) rfl rfl hret hlk (hb hby d1_59) (by decide) (by decide) ⟨_, rfl, by omega, by have q := Sv16; simp only [nm, ← hv2]; simpa [c6_3, c22_7] using q⟩
def QRin (Z : State) (a : Addr) (x0 : Value) (x1 : Value) (x2 : Value) (x3 : Int32) (h0 : Heap) : Option Value → Heap → Prop := fun v h => v = none ∧ Exa Z h a "com/example/proper_grant/propergrant/bench/Request" ∧ Fld Z h a "com/example/proper_grant/propergrant/bench/Request" "principal" "Ljava/lang/String;" x0 ∧ Fld Z h a "com/example/proper_grant/propergrant/bench/Request" "operation" "Ljava/lang/String;" x1 ∧ Fld Z h a "com/example/proper_grant/propergrant/bench/Request" "resource" "Ljava/lang/String;" x2 ∧ Fld Z h a "com/example/proper_grant/propergrant/bench/Request" "granted" "Z" (.int x3)
set_option maxRecDepth 65536 in
set_option maxHeartbeats 40000000 in
theorem rmRin (l : Launch) (Z : State) (a0 : Array Value) (hw : ∀ d ∈ tables_1, d.before a0 Z = true) (a : Addr) (x0 : Value) (x1 : Value) (x2 : Value) (x3 : Int32) (h0 : Heap) (O : Ext Z.heap h0) (gz_a : Z.heap.size ≤ a) (Ea : Exa Z h0 a "com/example/proper_grant/propergrant/bench/Request") (hr0 : x0.isRef = true) (hr1 : x1.isRef = true) (hr2 : x2.isRef = true) (hb3 : x3 = 0 ∨ x3 = 1) (F_principal : Fld Z h0 a "com/example/proper_grant/propergrant/bench/Request" "principal" "Ljava/lang/String;" .null) (F_operation : Fld Z h0 a "com/example/proper_grant/propergrant/bench/Request" "operation" "Ljava/lang/String;" .null) (F_resource : Fld Z h0 a "com/example/proper_grant/propergrant/bench/Request" "resource" "Ljava/lang/String;" .null) (F_granted : Fld Z h0 a "com/example/proper_grant/propergrant/bench/Request" "granted" "Z" (.int 0)) :
    CN [] l Z (⟨"com/example/proper_grant/propergrant/bench/Request", "<init>", "(Ljava/lang/String;Ljava/lang/String;Ljava/lang/String;Z)V"⟩ : MethodName) prog_20_method_1_code 5 (Option.none : Option Jvm.ClassFile.FieldType) ({ frames := 2, cells := 0, slots := 0, locals := 30 } : Room) #[(.ref a), x0, x1, x2, (.int x3)] h0 [a] (QRin Z a x0 x1 x2 x3 h0) := by
  refine CN.of_walk (plainFor_of_name pn3) O (ala gz_a ala0) ?_
  intro p e s m below meth c T0 W0 hx hby hml hoZ hnm hret hlk
  have H0 := W0.here; have hz0 := W0.zsize
  refine Goes.cast (ef5 m a x0 (cat_ref hr0) x1 (cat_ref hr1) x2 (cat_ref hr2) x3) ?_
  refine G.aloadN H0 hx 1 (hb hby d6_0) rfl rfl rfl ?_
  refine Wk.initO W0 hx hoZ (wd hw 35 rfl) (wd hw 22 rfl) (wd hw 23 rfl) (by rw [hml]; rfl) 4 (hb hby d6_1) rfl (by decide) 0 (Nat.le_of_eq rfl) (by decide) ?_
  intro T1 W1; have H1 := W1.here
  refine G.aloadN H1 hx 5 (hb hby d6_4) rfl rfl rfl ?_
  refine G.aloadN H1 hx 6 (hb hby d6_5) rfl hr0 rfl ?_
  refine Wk.putF W1 hx hoZ (wd hw 36 rfl) Via.refl x0 F_principal Ea (Or.inr ⟨(wd hw 37 rfl), rfl, hnm⟩) (wd hw 1 rfl) (ty := (.object "java/lang/String")) (by decide) (ref_nar rfl hr0).1 (ref_nar rfl hr0).2 (Or.inl (by simp)) safe0 9 (hb hby d6_6) rfl ?_
  intro T2 h2 W2 R2 Ch2; have H2 := W2.here; have z2 := R2.size
  have F2 := (F_principal).same R2
  refine G.aloadN H2 hx 10 (hb hby d6_9) rfl rfl rfl ?_
  refine G.aloadN H2 hx 11 (hb hby d6_10) rfl hr1 rfl ?_
  refine Wk.putF W2 hx hoZ (wd hw 38 rfl) Via.refl x1 (F_operation.other R2 (Or.inr (slot_ne (Or.inr (wd hw 39 rfl)) (Or.inr (wd hw 37 rfl)) (by decide) (t := (.object "java/lang/String")) (t' := (.object "java/lang/String")) (by decide) (by decide)))) (Ea.wr R2) (Or.inr ⟨(wd hw 39 rfl), rfl, hnm⟩) (wd hw 1 rfl) (ty := (.object "java/lang/String")) (by decide) (ref_nar rfl hr1).1 (ref_nar rfl hr1).2 (Or.inl (by simp)) safe0 14 (hb hby d6_11) rfl ?_
  intro T3 h3 W3 R3 Ch3; have H3 := W3.here; have z3 := R3.size
  have F3 := ((F_operation.other R2 (Or.inr (slot_ne (Or.inr (wd hw 39 rfl)) (Or.inr (wd hw 37 rfl)) (by decide) (t := (.object "java/lang/String")) (t' := (.object "java/lang/String")) (by decide) (by decide))))).same R3
  refine G.aloadN H3 hx 15 (hb hby d6_14) rfl rfl rfl ?_
  refine G.aloadN H3 hx 16 (hb hby d6_15) rfl hr2 rfl ?_
  refine Wk.putF W3 hx hoZ (wd hw 40 rfl) Via.refl x2 ((F_resource.other R2 (Or.inr (slot_ne (Or.inr (wd hw 41 rfl)) (Or.inr (wd hw 37 rfl)) (by decide) (t := (.object "java/lang/String")) (t' := (.object "java/lang/String")) (by decide) (by decide)))).other R3 (Or.inr (slot_ne (Or.inr (wd hw 41 rfl)) (Or.inr (wd hw 39 rfl)) (by decide) (t := (.object "java/lang/String")) (t' := (.object "java/lang/String")) (by decide) (by decide)))) ((Ea.wr R2).wr R3) (Or.inr ⟨(wd hw 41 rfl), rfl, hnm⟩) (wd hw 1 rfl) (ty := (.object "java/lang/String")) (by decide) (ref_nar rfl hr2).1 (ref_nar rfl hr2).2 (Or.inl (by simp)) safe0 19 (hb hby d6_16) rfl ?_
  intro T4 h4 W4 R4 Ch4; have H4 := W4.here; have z4 := R4.size
  have F4 := (((F_resource.other R2 (Or.inr (slot_ne (Or.inr (wd hw 41 rfl)) (Or.inr (wd hw 37 rfl)) (by decide) (t := (.object "java/lang/String")) (t' := (.object "java/lang/String")) (by decide) (by decide)))).other R3 (Or.inr (slot_ne (Or.inr (wd hw 41 rfl)) (Or.inr (wd hw 39 rfl)) (by decide) (t := (.object "java/lang/String")) (t' := (.object "java/lang/String")) (by decide) (by decide))))).same R4
  refine G.aloadN H4 hx 20 (hb hby d6_19) rfl rfl rfl ?_
  refine G.iload H4 hx 22 (hb hby d6_20) rfl rfl ?_
  refine Wk.putF W4 hx hoZ (wd hw 42 rfl) Via.refl (.int x3) (((F_granted.other R2 (Or.inr (slot_ne (Or.inr (wd hw 43 rfl)) (Or.inr (wd hw 37 rfl)) (by decide) (t := .boolean) (t' := (.object "java/lang/String")) (by decide) (by decide)))).other R3 (Or.inr (slot_ne (Or.inr (wd hw 43 rfl)) (Or.inr (wd hw 39 rfl)) (by decide) (t := .boolean) (t' := (.object "java/lang/String")) (by decide) (by decide)))).other R4 (Or.inr (slot_ne (Or.inr (wd hw 43 rfl)) (Or.inr (wd hw 41 rfl)) (by decide) (t := .boolean) (t' := (.object "java/lang/String")) (by decide) (by decide)))) (((Ea.wr R2).wr R3).wr R4) (Or.inr ⟨(wd hw 43 rfl), rfl, hnm⟩) (wd hw 1 rfl) (ty := .boolean) (by decide) (bool_nar hb3).1 (bool_nar hb3).2 (Or.inl (by simp)) safe0 25 (hb hby d6_22) rfl ?_
  intro T5 h5 W5 R5 Ch5; have H5 := W5.here; have z5 := R5.size
  have F5 := ((((F_granted.other R2 (Or.inr (slot_ne (Or.inr (wd hw 43 rfl)) (Or.inr (wd hw 37 rfl)) (by decide) (t := .boolean) (t' := (.object "java/lang/String")) (by decide) (by decide)))).other R3 (Or.inr (slot_ne (Or.inr (wd hw 43 rfl)) (Or.inr (wd hw 39 rfl)) (by decide) (t := .boolean) (t' := (.object "java/lang/String")) (by decide) (by decide)))).other R4 (Or.inr (slot_ne (Or.inr (wd hw 43 rfl)) (Or.inr (wd hw 41 rfl)) (by decide) (t := .boolean) (t' := (.object "java/lang/String")) (by decide) (by decide))))).same R5
  exact Wk.retV W5 hx hret hlk (hb hby d6_25) (by decide) (by decide) ⟨rfl, ((((Ea.wr R2).wr R3).wr R4).wr R5), (((F2.other R3 (Or.inr (slot_ne (Or.inr (wd hw 37 rfl)) (Or.inr (wd hw 39 rfl)) (by decide) (t := (.object "java/lang/String")) (t' := (.object "java/lang/String")) (by decide) (by decide)))).other R4 (Or.inr (slot_ne (Or.inr (wd hw 37 rfl)) (Or.inr (wd hw 41 rfl)) (by decide) (t := (.object "java/lang/String")) (t' := (.object "java/lang/String")) (by decide) (by decide)))).other R5 (Or.inr (slot_ne (Or.inr (wd hw 37 rfl)) (Or.inr (wd hw 43 rfl)) (by decide) (t := (.object "java/lang/String")) (t' := .boolean) (by decide) (by decide)))), ((F3.other R4 (Or.inr (slot_ne (Or.inr (wd hw 39 rfl)) (Or.inr (wd hw 41 rfl)) (by decide) (t := (.object "java/lang/String")) (t' := (.object "java/lang/String")) (by decide) (by decide)))).other R5 (Or.inr (slot_ne (Or.inr (wd hw 39 rfl)) (Or.inr (wd hw 43 rfl)) (by decide) (t := (.object "java/lang/String")) (t' := .boolean) (by decide) (by decide)))), (F4.other R5 (Or.inr (slot_ne (Or.inr (wd hw 41 rfl)) (Or.inr (wd hw 43 rfl)) (by decide) (t := (.object "java/lang/String")) (t' := .boolean) (by decide) (by decide)))), F5⟩
def QCodL (Z : State) (cz : Int32) (a : Addr) (h0 : Heap) : Option Value → Heap → Prop := fun v h => v = some (.int 0) ∧ h = h0
set_option maxRecDepth 65536 in
set_option maxHeartbeats 40000000 in
theorem rmCodL (l : Launch) (Z : State) (a0 : Array Value) (hw : ∀ d ∈ tables_1, d.before a0 Z = true) (cz : Int32) (a : Addr) (h0 : Heap) (O : Ext Z.heap h0) (hCS : Sta Z Z.heap "java/lang/String" "COMPACT_STRINGS" "Z" (.int cz)) (hcz : ¬ cz = 0) (Ea : Exa Z h0 a "java/lang/String") (Fc : Fld Z h0 a "java/lang/String" "coder" "B" (.int 0)) :
    CN [] l Z (⟨"java/lang/String", "coder", "()B"⟩ : MethodName) jdk_42_method_152_code 1 (Option.some Jvm.ClassFile.FieldType.byte) ({ frames := 0, cells := 0, slots := 0, locals := 0 } : Room) #[(.ref a)] h0 [] (QCodL Z cz a h0) := by
  refine CN.of_walk (plainFor_of_name pn0) O (fun _ q => nomatch q) ?_
  intro p e s m below meth c T0 W0 hx hby hml hoZ hnm hret hlk
  have H0 := W0.here; have hz0 := W0.zsize
  refine Goes.cast (ef6 m a) ?_
  refine Wk.getS W0 hx hoZ (wd hw 87 rfl) Via.refl (hCS.ext W0.old) 3 (hb hby d13_0) rfl ?_
  intro T1 W1; have H1 := W1.here
  refine G.ifN H1 hx 6 (hb hby d13_3) (zne hcz).1 rfl ?_
  refine G.aloadN H1 hx 7 (hb hby d13_6) rfl rfl rfl ?_
  refine Wk.getF W1 hx hoZ (host := "") (Or.inl (wd hw 31 rfl)) Via.refl Fc 10 (hb hby d13_7) rfl ?_
  intro T2 W2; have H2 := W2.here
  refine G.goto H2 hx 14 (hb hby d13_10) (by decide) rfl ?_
  exact Wk.retN W2 hx (0 : Int32) (t := .byte) rfl (by simp) hret hlk (hb hby d13_14) (by decide) (by decide) ⟨rfl, rfl⟩
def QAsbI (Z : State) (cz : Int32) (a : Addr) (h0 : Heap) : Option Value → Heap → Prop := fun v h => v = none ∧ ∃ (b : Addr) (kb : ClassId), h0.size ≤ b ∧ Exa Z h a "java/lang/StringBuilder" ∧ Fld Z h a "java/lang/AbstractStringBuilder" "value" "[B" (.ref b) ∧ Fld Z h a "java/lang/AbstractStringBuilder" "coder" "B" (.int 0) ∧ Fld Z h a "java/lang/AbstractStringBuilder" "count" "I" (.int (Int32.ofNat ([] : List Int32).length)) ∧ Arv Z h b kb .byte 16 (sbl ([] : List Int32)) (.int 0)
set_option maxRecDepth 65536 in
set_option maxHeartbeats 40000000 in
theorem rmAsbI (l : Launch) (Z : State) (a0 : Array Value) (hw : ∀ d ∈ tables_1, d.before a0 Z = true) (cz : Int32) (a : Addr) (h0 : Heap) (O : Ext Z.heap h0) (hCS : Sta Z Z.heap "java/lang/String" "COMPACT_STRINGS" "Z" (.int cz)) (hcz : ¬ cz = 0) (gz_a : Z.heap.size ≤ a) (Xa : Exa Z h0 a "java/lang/StringBuilder") (Fv : Fld Z h0 a "java/lang/AbstractStringBuilder" "value" "[B" .null) (Fc : Fld Z h0 a "java/lang/AbstractStringBuilder" "coder" "B" (.int 0)) (Fn : Fld Z h0 a "java/lang/AbstractStringBuilder" "count" "I" (.int 0)) :
    CN [] l Z (⟨"java/lang/AbstractStringBuilder", "<init>", "(I)V"⟩ : MethodName) jdk_68_method_2_code 2 (Option.none : Option Jvm.ClassFile.FieldType) ({ frames := 1, cells := 1, slots := 16, locals := 20 } : Room) #[(.ref a), (.int (16 : Int32))] h0 [a] (QAsbI Z cz a h0) := by
  refine CN.of_walk (plainFor_of_name pn4) O (ala gz_a ala0) ?_
  intro p e s m below meth c T0 W0 hx hby hml hoZ hnm hret hlk
  have H0 := W0.here; have hz0 := W0.zsize
  refine Goes.cast (ef7 m a (16 : Int32)) ?_
  have la := ltN Xa.lt
  refine G.aloadN H0 hx 1 (hb hby d9_0) rfl rfl rfl ?_
  refine Wk.initO W0 hx hoZ (wd hw 61 rfl) (wd hw 22 rfl) (wd hw 23 rfl) (by rw [hml]; rfl) 4 (hb hby d9_1) rfl (by decide) 0 (Nat.le_of_eq rfl) (by decide) ?_
  intro T1 W1; have H1 := W1.here
  refine Wk.getS W1 hx hoZ (wd hw 62 rfl) Via.refl (hCS.ext W1.old) 7 (hb hby d9_4) rfl ?_
  intro T2 W2; have H2 := W2.here
  refine G.ifN H2 hx 10 (hb hby d9_7) (zne hcz).1 rfl ?_
  refine G.aloadN H2 hx 11 (hb hby d9_10) rfl rfl rfl ?_
  refine G.iloadN H2 hx 12 (hb hby d9_11) rfl rfl ?_
  refine Wk.newP W2 hx (wd hw 25 rfl) 14 (hb hby d9_12) (by decide) 16 (by decide) rfl (by decide) (by decide) (by decide) ?_
  intro T3 h3 a3 k3 W3 E3 g3 V3 S3
  have H3 := W3.here; have z3 := E3.1; have gu3 := Nat.le_of_eq g3; have gt3 := Nat.le_of_eq g3.symm; have l3 := ltN V3.lt
  have V3 : Arv Z h3 a3 k3 .byte (16 : Int32) [(.int (0 : Int32)), (.int (0 : Int32)), (.int (0 : Int32)), (.int (0 : Int32)), (.int (0 : Int32)), (.int (0 : Int32)), (.int (0 : Int32)), (.int (0 : Int32)), (.int (0 : Int32)), (.int (0 : Int32)), (.int (0 : Int32)), (.int (0 : Int32)), (.int (0 : Int32)), (.int (0 : Int32)), (.int (0 : Int32)), (.int (0 : Int32))] (.int (0 : Int32)) := V3
  refine Wk.putF W3 hx hoZ (wd hw 63 rfl) Via.refl (.ref a3) (Fv.ext E3) (Xa.ext E3) (Or.inl (wd hw 64 rfl)) (wd hw 50 rfl) (ty := (.array .byte)) (by decide) rfl rfl (Or.inl (by simp)) safe0 17 (hb hby d9_14) rfl ?_
  intro T4 h4 W4 R4 Ch4; have H4 := W4.here; have z4 := R4.size
  have F4 := ((Fv.ext E3)).same R4
  refine G.aloadN H4 hx 18 (hb hby d9_17) rfl rfl rfl ?_
  refine G.iconst H4 hx 19 (0 : Int32) (hb hby d9_18) rfl rfl ?_
  refine Wk.putF W4 hx hoZ (wd hw 65 rfl) Via.refl (.int (0 : Int32)) ((Fc.ext E3).other R4 (Or.inr (slot_ne (Or.inl (wd hw 66 rfl)) (Or.inl (wd hw 64 rfl)) (by decide) (t := .byte) (t' := (.array .byte)) (by decide) (by decide)))) ((Xa.ext E3).wr R4) (Or.inl (wd hw 66 rfl)) (wd hw 50 rfl) (ty := .byte) (by decide) rfl rfl (Or.inl (by simp)) safe0 22 (hb hby d9_19) rfl ?_
  intro T5 h5 W5 R5 Ch5; have H5 := W5.here; have z5 := R5.size
  have F5 := (((Fc.ext E3).other R4 (Or.inr (slot_ne (Or.inl (wd hw 66 rfl)) (Or.inl (wd hw 64 rfl)) (by decide) (t := .byte) (t' := (.array .byte)) (by decide) (by decide))))).same R5
  refine G.goto H5 hx 38 (hb hby d9_22) (by decide) rfl ?_
  exact Wk.retV W5 hx hret hlk (hb hby d9_38) (by decide) (by decide) ⟨rfl, _, _, by omega, (((Xa.ext E3).wr R4).wr R5), (F4.other R5 (Or.inr (slot_ne (Or.inl (wd hw 64 rfl)) (Or.inl (wd hw 66 rfl)) (by decide) (t := (.array .byte)) (t' := .byte) (by decide) (by decide)))), F5, (((Fn.ext E3).other R4 (Or.inr (slot_ne (Or.inl (wd hw 89 rfl)) (Or.inl (wd hw 64 rfl)) (by decide) (t := .int) (t' := (.array .byte)) (by decide) (by decide)))).other R5 (Or.inr (slot_ne (Or.inl (wd hw 89 rfl)) (Or.inl (wd hw 66 rfl)) (by decide) (t := .int) (t' := .byte) (by decide) (by decide)))), ((V3.other R4 (neA (by omega))).other R5 (neA (by omega)))⟩
def QSbI (Z : State) (cz : Int32) (a : Addr) (h0 : Heap) : Option Value → Heap → Prop := fun v h => v = none ∧ ∃ (b : Addr) (kb : ClassId), h0.size ≤ b ∧ Exa Z h a "java/lang/StringBuilder" ∧ Fld Z h a "java/lang/AbstractStringBuilder" "value" "[B" (.ref b) ∧ Fld Z h a "java/lang/AbstractStringBuilder" "coder" "B" (.int 0) ∧ Fld Z h a "java/lang/AbstractStringBuilder" "count" "I" (.int (Int32.ofNat ([] : List Int32).length)) ∧ Arv Z h b kb .byte 16 (sbl ([] : List Int32)) (.int 0)
set_option maxRecDepth 65536 in
set_option maxHeartbeats 40000000 in
theorem rmSbI (l : Launch) (Z : State) (a0 : Array Value) (hw : ∀ d ∈ tables_1, d.before a0 Z = true) (cz : Int32) (a : Addr) (h0 : Heap) (O : Ext Z.heap h0) (hCS : Sta Z Z.heap "java/lang/String" "COMPACT_STRINGS" "Z" (.int cz)) (hcz : ¬ cz = 0) (gz_a : Z.heap.size ≤ a) (Xa : Exa Z h0 a "java/lang/StringBuilder") (Fv : Fld Z h0 a "java/lang/AbstractStringBuilder" "value" "[B" .null) (Fc : Fld Z h0 a "java/lang/AbstractStringBuilder" "coder" "B" (.int 0)) (Fn : Fld Z h0 a "java/lang/AbstractStringBuilder" "count" "I" (.int 0)) :
    CN [] l Z (⟨"java/lang/StringBuilder", "<init>", "()V"⟩ : MethodName) jdk_67_method_1_code 1 (Option.none : Option Jvm.ClassFile.FieldType) ({ frames := 2, cells := 1, slots := 16, locals := 40 } : Room) #[(.ref a)] h0 [a] (QSbI Z cz a h0) := by
  refine CN.of_walk (plainFor_of_name pn5) O (ala gz_a ala0) ?_
  intro p e s m below meth c T0 W0 hx hby hml hoZ hnm hret hlk
  have H0 := W0.here; have hz0 := W0.zsize
  refine Goes.cast (ef6 m a) ?_
  have la := ltN Xa.lt
  refine G.aloadN H0 hx 1 (hb hby d8_0) rfl rfl rfl ?_
  refine G.bipush H0 hx 3 (16 : Int32) (hb hby d8_1) rfl rfl ?_
  refine Wk.special W0 hx hoZ (y := (⟨"java/lang/AbstractStringBuilder", "<init>", "(I)V"⟩ : MethodName)) rfl (wd hw 55 rfl) (wd hw 56 rfl) (wd hw 60 rfl) (by decide) (Wd := 0) (CN.back (rmAsbI l Z a0 hw cz a h0 W0.old hCS hcz (by omega) Xa Fv Fc Fn) W0.warm (wd hw 60 rfl) (wd hw 59 rfl) (by decide) (by decide)) a (by rw [hml]; rfl) [(.int (16 : Int32))] [] (lenOf pd8 rfl) rfl rfl (Nat.le_of_eq rfl) 6 (hb hby d8_3) rfl (by decide) (by decide) (hws1 (Or.inl (by simp)) safe0) ?_
  intro v1 T1 h1 W1 K1 Ch1 Q1
  have H1 := W1.here; have z1 := K1.1
  obtain ⟨rfl, b1, k1, g1, X1, F1v, F1c, F1n, V1⟩ := Q1; have l1 := ltN V1.lt
  show Goes p e below (PostN s Z h0 [a] (QSbI Z cz a h0) ({ frames := 2, cells := 1, slots := 16, locals := 40 } : Room).cells ({ frames := 2, cells := 1, slots := 16, locals := 40 } : Room).slots) (T1.setTop (mkF m 6 #[.val (.ref a)] []))
  exact Wk.retV W1 hx hret hlk (hb hby d8_6) (by decide) (by decide) ⟨rfl, _, _, by omega, X1, F1v, F1c, F1n, V1⟩
def QSbE (Z : State) (a : Addr) (b : Addr) (kb : ClassId) (L : List Int32) (mz : Int32) (h0 : Heap) : Option Value → Heap → Prop := fun v h => v = none ∧ h = h0
set_option maxRecDepth 65536 in
set_option maxHeartbeats 40000000 in
theorem rmSbE (l : Launch) (Z : State) (a0 : Array Value) (hw : ∀ d ∈ tables_1, d.before a0 Z = true) (a : Addr) (b : Addr) (kb : ClassId) (L : List Int32) (mz : Int32) (h0 : Heap) (O : Ext Z.heap h0) (Xa : Exa Z h0 a "java/lang/StringBuilder") (Fv : Fld Z h0 a "java/lang/AbstractStringBuilder" "value" "[B" (.ref b)) (Fc : Fld Z h0 a "java/lang/AbstractStringBuilder" "coder" "B" (.int 0)) (Fn : Fld Z h0 a "java/lang/AbstractStringBuilder" "count" "I" (.int (Int32.ofNat L.length))) (Vb : Arv Z h0 b kb .byte 16 (sbl L) (.int 0)) (hm : ¬ 0 < (mz - (16 : Int32))) :
    CN [] l Z (⟨"java/lang/AbstractStringBuilder", "ensureCapacityInternal", "(I)V"⟩ : MethodName) jdk_68_method_9_code 3 (Option.none : Option Jvm.ClassFile.FieldType) ({ frames := 0, cells := 0, slots := 0, locals := 0 } : Room) #[(.ref a), (.int mz)] h0 [] (QSbE Z a b kb L mz h0) := by
  refine CN.of_walk (plainFor_of_name pn4) O (fun _ q => nomatch q) ?_
  intro p e s m below meth c T0 W0 hx hby hml hoZ hnm hret hlk
  have H0 := W0.here; have hz0 := W0.zsize
  refine Goes.cast (ef8 m a mz) ?_
  have la := ltN Xa.lt; have lb := ltN Vb.lt; have nab := neN (Exa.neArv Xa Vb (wd hw 50 rfl))
  refine G.aloadN H0 hx 1 (hb hby d14_0) rfl rfl rfl ?_
  refine Wk.getF W0 hx hoZ (host := "") (Or.inl (wd hw 63 rfl)) Via.refl Fv 4 (hb hby d14_1) rfl ?_
  intro T1 W1; have H1 := W1.here
  refine Wk.arraylength W1 hx Vb 5 (hb hby d14_4) rfl ?_
  refine G.aloadN H1 hx 6 (hb hby d14_5) rfl rfl rfl ?_
  refine Wk.getF W1 hx hoZ (host := "") (Or.inl (wd hw 65 rfl)) Via.refl Fc 9 (hb hby d14_6) rfl ?_
  intro T2 W2; have H2 := W2.here
  refine G.ishrF H2 hx 10 (16 : Int32) (hb hby d14_9) (by decide) rfl ?_
  refine G.istoreNX H2 hx 11 #[.val (.ref a), .val (.int mz), .val (.int (16 : Int32))] (hb hby d14_10) rfl rfl ?_
  refine G.iloadN H2 hx 12 (hb hby d14_11) rfl rfl ?_
  refine G.iloadN H2 hx 13 (hb hby d14_12) rfl rfl ?_
  refine G.isub H2 hx 14 (hb hby d14_13) rfl ?_
  refine G.ifY H2 hx 38 (hb hby d14_14) (zng hm).2 (by decide) rfl ?_
  exact Wk.retV W2 hx hret hlk (hb hby d14_38) (by decide) (by decide) ⟨rfl, rfl⟩
def QSbF (Z : State) (a : Addr) (b : Addr) (kb : ClassId) (L : List Int32) (cz : Int32) (s0 : Addr) (cs : List Int32) (h0 : Heap) : Option Value → Heap → Prop := fun v h => v = none ∧ h = h0
set_option maxRecDepth 65536 in
set_option maxHeartbeats 40000000 in
theorem rmSbF (l : Launch) (Z : State) (a0 : Array Value) (hw : ∀ d ∈ tables_1, d.before a0 Z = true) (a : Addr) (b : Addr) (kb : ClassId) (L : List Int32) (cz : Int32) (s0 : Addr) (cs : List Int32) (h0 : Heap) (O : Ext Z.heap h0) (hCS : Sta Z Z.heap "java/lang/String" "COMPACT_STRINGS" "Z" (.int cz)) (hcz : ¬ cz = 0) (Xa : Exa Z h0 a "java/lang/StringBuilder") (Fv : Fld Z h0 a "java/lang/AbstractStringBuilder" "value" "[B" (.ref b)) (Fc : Fld Z h0 a "java/lang/AbstractStringBuilder" "coder" "B" (.int 0)) (Fn : Fld Z h0 a "java/lang/AbstractStringBuilder" "count" "I" (.int (Int32.ofNat L.length))) (Vb : Arv Z h0 b kb .byte 16 (sbl L) (.int 0)) (Ss : SV Z h0 s0 cs) (h8 : ∀ c ∈ cs, C8 c) (hr : L.length + cs.length ≤ 16) :
    CN [] l Z (⟨"java/lang/AbstractStringBuilder", "inflateIfNeededFor", "(Ljava/lang/String;)V"⟩ : MethodName) jdk_68_method_71_code 2 (Option.none : Option Jvm.ClassFile.FieldType) ({ frames := 1, cells := 0, slots := 0, locals := 16 } : Room) #[(.ref a), (.ref s0)] h0 [] (QSbF Z a b kb L cz s0 cs h0) := by
  refine CN.of_walk (plainFor_of_name pn4) O (fun _ q => nomatch q) ?_
  intro p e s m below meth c T0 W0 hx hby hml hoZ hnm hret hlk
  have H0 := W0.here; have hz0 := W0.zsize
  refine Goes.cast (ef1 m a s0) ?_
  have la := ltN Xa.lt; have lb := ltN Vb.lt; have nab := neN (Exa.neArv Xa Vb (wd hw 50 rfl))
  obtain ⟨bs, ks, Sc, Sv, Vs, ln⟩ := SV.lat Ss h8; have Es := Ss.exa; have ls := ltN Ss.lt; have lbs := ltN Vs.lt
  refine Wk.getS W0 hx hoZ (wd hw 62 rfl) Via.refl (hCS.ext W0.old) 3 (hb hby d16_0) rfl ?_
  intro T1 W1; have H1 := W1.here
  refine G.ifN H1 hx 6 (hb hby d16_3) (zne hcz).1 rfl ?_
  refine G.aloadN H1 hx 7 (hb hby d16_6) rfl rfl rfl ?_
  refine Wk.getF W1 hx hoZ (host := "") (Or.inl (wd hw 65 rfl)) Via.refl Fc 10 (hb hby d16_7) rfl ?_
  intro T2 W2; have H2 := W2.here
  refine G.aloadN H2 hx 11 (hb hby d16_10) rfl rfl rfl ?_
  refine Wk.virtual W2 hx hoZ (y := (⟨"java/lang/String", "coder", "()B"⟩ : MethodName)) (z := (⟨"java/lang/String", "coder", "()B"⟩ : MethodName)) (wd hw 105 rfl) (wd hw 83 rfl) (wd hw 85 rfl) (wd hw 84 rfl) (W2.nf (wd hw 85 rfl)) (by decide) (Wd := 1) (CN.back (rmCodL l Z a0 hw cz s0 h0 W2.old hCS hcz Es Sc) W2.warm (wd hw 86 rfl) (wd hw 12 rfl) (by decide) (by decide)) Es (by rw [hml]; rfl) [] [(.int (0 : Int32))] (lenOf pd9 rfl) rfl rfl (Nat.le_of_eq rfl) 14 (hb hby d16_11) rfl (by decide) (by decide) (fun _ q => nomatch q) ?_
  intro v3 T3 h3 W3 K3 Ch3 Q3
  have H3 := W3.here; have z3 := K3.1
  obtain ⟨rfl, eh3⟩ := Q3
  show Goes p e below (PostN s Z h0 [] (QSbF Z a b kb L cz s0 cs h0) ({ frames := 1, cells := 0, slots := 0, locals := 16 } : Room).cells ({ frames := 1, cells := 0, slots := 0, locals := 16 } : Room).slots) (T3.setTop (mkF m 14 #[.val (.ref a), .val (.ref s0)] [(.int (0 : Int32)), (.int (0 : Int32))]))
  refine G.icmpY H3 hx 21 (hb hby d16_14) (teq (by decide)).1 (by decide) rfl ?_
  exact Wk.retV W3 hx hret hlk (hb hby d16_21) (by decide) (by decide) ⟨rfl, (by rw [eh3])⟩
def QSbG (Z : State) (cz : Int32) (s0 : Addr) (cs : List Int32) (b : Addr) (kb : ClassId) (L : List Int32) (h0 : Heap) : Option Value → Heap → Prop := fun v h => v = none ∧ Arv Z h b kb .byte 16 (sbl (L ++ cs)) (.int 0)
set_option maxRecDepth 65536 in
set_option maxHeartbeats 40000000 in
theorem rmSbG (l : Launch) (Z : State) (a0 : Array Value) (hw : ∀ d ∈ tables_1, d.before a0 Z = true) (cz : Int32) (s0 : Addr) (cs : List Int32) (b : Addr) (kb : ClassId) (L : List Int32) (h0 : Heap) (O : Ext Z.heap h0) (hCS : Sta Z Z.heap "java/lang/String" "COMPACT_STRINGS" "Z" (.int cz)) (hcz : ¬ cz = 0) (Ss : SV Z h0 s0 cs) (h8 : ∀ c ∈ cs, C8 c) (hr : L.length + cs.length ≤ 16) (gz_b : Z.heap.size ≤ b) (Vb : Arv Z h0 b kb .byte 16 (sbl L) (.int 0)) :
    CN [] l Z (⟨"java/lang/String", "getBytes", "([BIB)V"⟩ : MethodName) jdk_42_method_147_code 4 (Option.none : Option Jvm.ClassFile.FieldType) ({ frames := 1, cells := 0, slots := 0, locals := 60 } : Room) #[(.ref s0), (.ref b), (.int (Int32.ofNat L.length)), (.int (0 : Int32))] h0 [b] (QSbG Z cz s0 cs b kb L h0) := by
  refine CN.of_walk (plainFor_of_name pn0) O (ala gz_b ala0) ?_
  intro p e s m below meth c T0 W0 hx hby hml hoZ hnm hret hlk
  have H0 := W0.here; have hz0 := W0.zsize
  refine Goes.cast (ef9 m s0 b (Int32.ofNat L.length) (0 : Int32)) ?_
  have lb := ltN Vb.lt
  obtain ⟨bs, ks, Sc, Sv, Vs, ln⟩ := SV.lat Ss h8; have Es := Ss.exa; have ls := ltN Ss.lt; have lbs := ltN Vs.lt
  refine G.aloadN H0 hx 1 (hb hby d17_0) rfl rfl rfl ?_
  refine Wk.virtual W0 hx hoZ (y := (⟨"java/lang/String", "coder", "()B"⟩ : MethodName)) (z := (⟨"java/lang/String", "coder", "()B"⟩ : MethodName)) (wd hw 82 rfl) (wd hw 83 rfl) (wd hw 85 rfl) (wd hw 84 rfl) (W0.nf (wd hw 85 rfl)) (by decide) (Wd := 0) (CN.back (rmCodL l Z a0 hw cz s0 h0 W0.old hCS hcz Es Sc) W0.warm (wd hw 86 rfl) (wd hw 12 rfl) (by decide) (by decide)) Es (by rw [hml]; rfl) [] [] (lenOf pd9 rfl) rfl rfl (Nat.le_of_eq rfl) 4 (hb hby d17_1) rfl (by decide) (by decide) (fun _ q => nomatch q) ?_
  intro v1 T1 h1 W1 K1 Ch1 Q1
  have H1 := W1.here; have z1 := K1.1
  obtain ⟨rfl, eh1⟩ := Q1
  show Goes p e below (PostN s Z h0 [b] (QSbG Z cz s0 cs b kb L h0) ({ frames := 1, cells := 0, slots := 0, locals := 60 } : Room).cells ({ frames := 1, cells := 0, slots := 0, locals := 60 } : Room).slots) (T1.setTop (mkF m 4 #[.val (.ref s0), .val (.ref b), .val (.int (Int32.ofNat L.length)), .val (.int (0 : Int32))] [(.int (0 : Int32))]))
  refine G.iloadN H1 hx 5 (hb hby d17_4) rfl rfl ?_
  refine G.icmpN H1 hx 8 (hb hby d17_5) (teq (by decide)).2 rfl ?_
  refine G.aloadN H1 hx 9 (hb hby d17_8) rfl rfl rfl ?_
  refine Wk.getF W1 hx hoZ (host := "") (Or.inl (wd hw 30 rfl)) Via.refl (Sv.keep K1 nin0) 12 (hb hby d17_9) rfl ?_
  intro T2 W2; have H2 := W2.here
  refine G.iconst H2 hx 13 (0 : Int32) (hb hby d17_12) rfl rfl ?_
  refine G.aloadN H2 hx 14 (hb hby d17_13) rfl rfl rfl ?_
  refine G.iloadN H2 hx 15 (hb hby d17_14) rfl rfl ?_
  refine G.iloadN H2 hx 16 (hb hby d17_15) rfl rfl ?_
  refine G.ishlF H2 hx 17 (Int32.ofNat L.length) (hb hby d17_16) (shl0 _) rfl ?_
  refine G.aloadN H2 hx 18 (hb hby d17_17) rfl rfl rfl ?_
  refine Wk.getF W2 hx hoZ (host := "") (Or.inl (wd hw 30 rfl)) Via.refl (Sv.keep K1 nin0) 21 (hb hby d17_18) rfl ?_
  intro T3 W3; have H3 := W3.here
  refine Wk.arraylength W3 hx (Vs.keep K1 nin0) 22 (hb hby d17_21) rfl ?_
  refine Wk.arraycopy W3 hx hoZ (wd hw 111 rfl) (wd hw 114 rfl) (wd hw 112 rfl) (wd hw 113 rfl) _ (Vs.keep K1 nin0) (Vb.keep K1 nin0) rfl (by decide) (ofn_n0 (by omega)) (ofn_n0 (by omega)) (by have e0 : (0 : Int32).toNatClampNeg = 0 := rfl; omega) (by rw [ofn_clamp (by omega), ofn_clamp (by omega)]; have e16 : (16 : Int32).toNatClampNeg = 16 := rfl; omega) (sbl_us ln) (by rw [ofn_clamp (by omega), ofn_clamp (by omega), sbl_len (by omega)]; omega) (Or.inl (by simp)) safe0 (by rw [hml]; rfl) 25 (hb hby d17_22) rfl (by decide) 0 (Nat.le_of_eq rfl) (by decide) ?_
  intro T4 h4 W4 K4 Ch4 V4; have H4 := W4.here; have z4 := K4.1
  rw [sbl_app hr] at V4
  refine G.goto H4 hx 43 (hb hby d17_25) (by decide) rfl ?_
  exact Wk.retV W4 hx hret hlk (hb hby d17_43) (by decide) (by decide) ⟨rfl, V4⟩
def QSbP (Z : State) (a : Addr) (b : Addr) (kb : ClassId) (L : List Int32) (cz : Int32) (s0 : Addr) (cs : List Int32) (h0 : Heap) : Option Value → Heap → Prop := fun v h => v = none ∧ Arv Z h b kb .byte 16 (sbl (L ++ cs)) (.int 0)
set_option maxRecDepth 65536 in
set_option maxHeartbeats 40000000 in
theorem rmSbP (l : Launch) (Z : State) (a0 : Array Value) (hw : ∀ d ∈ tables_1, d.before a0 Z = true) (a : Addr) (b : Addr) (kb : ClassId) (L : List Int32) (cz : Int32) (s0 : Addr) (cs : List Int32) (h0 : Heap) (O : Ext Z.heap h0) (hCS : Sta Z Z.heap "java/lang/String" "COMPACT_STRINGS" "Z" (.int cz)) (hcz : ¬ cz = 0) (Xa : Exa Z h0 a "java/lang/StringBuilder") (Fv : Fld Z h0 a "java/lang/AbstractStringBuilder" "value" "[B" (.ref b)) (Fc : Fld Z h0 a "java/lang/AbstractStringBuilder" "coder" "B" (.int 0)) (Fn : Fld Z h0 a "java/lang/AbstractStringBuilder" "count" "I" (.int (Int32.ofNat L.length))) (Vb : Arv Z h0 b kb .byte 16 (sbl L) (.int 0)) (Ss : SV Z h0 s0 cs) (h8 : ∀ c ∈ cs, C8 c) (hr : L.length + cs.length ≤ 16) (gz_b : Z.heap.size ≤ b) :
    CN [] l Z (⟨"java/lang/AbstractStringBuilder", "putStringAt", "(ILjava/lang/String;)V"⟩ : MethodName) jdk_68_method_73_code 3 (Option.none : Option Jvm.ClassFile.FieldType) ({ frames := 2, cells := 0, slots := 0, locals := 90 } : Room) #[(.ref a), (.int (Int32.ofNat L.length)), (.ref s0)] h0 [b] (QSbP Z a b kb L cz s0 cs h0) := by
  refine CN.of_walk (plainFor_of_name pn4) O (ala gz_b ala0) ?_
  intro p e s m below meth c T0 W0 hx hby hml hoZ hnm hret hlk
  have H0 := W0.here; have hz0 := W0.zsize
  refine Goes.cast (ef10 m a (Int32.ofNat L.length) s0) ?_
  have la := ltN Xa.lt; have lb := ltN Vb.lt; have nab := neN (Exa.neArv Xa Vb (wd hw 50 rfl))
  obtain ⟨bs, ks, Sc, Sv, Vs, ln⟩ := SV.lat Ss h8; have Es := Ss.exa; have ls := ltN Ss.lt; have lbs := ltN Vs.lt
  refine G.aloadN H0 hx 1 (hb hby d15_0) rfl rfl rfl ?_
  refine G.aloadN H0 hx 2 (hb hby d15_1) rfl rfl rfl ?_
  refine Wk.virtual W0 hx hoZ (y := (⟨"java/lang/AbstractStringBuilder", "inflateIfNeededFor", "(Ljava/lang/String;)V"⟩ : MethodName)) (z := (⟨"java/lang/AbstractStringBuilder", "inflateIfNeededFor", "(Ljava/lang/String;)V"⟩ : MethodName)) (wd hw 100 rfl) (decl_of (wd hw 101 rfl) (wd hw 104 rfl)) (wd hw 103 rfl) (wd hw 101 rfl) (W0.nf (wd hw 103 rfl)) (by decide) (Wd := 0) (CN.back (rmSbF l Z a0 hw a b kb L cz s0 cs h0 W0.old hCS hcz Xa Fv Fc Fn Vb Ss h8 hr) W0.warm (wd hw 104 rfl) (wd hw 59 rfl) (by decide) (by decide)) Xa (by rw [hml]; rfl) [(.ref s0)] [] (lenOf pd10 rfl) rfl rfl (Nat.le_of_eq rfl) 5 (hb hby d15_2) rfl (by decide) (by decide) (fun _ q => nomatch q) ?_
  intro v1 T1 h1 W1 K1 Ch1 Q1
  have H1 := W1.here; have z1 := K1.1
  obtain ⟨rfl, eh1⟩ := Q1
  show Goes p e below (PostN s Z h0 [b] (QSbP Z a b kb L cz s0 cs h0) ({ frames := 2, cells := 0, slots := 0, locals := 90 } : Room).cells ({ frames := 2, cells := 0, slots := 0, locals := 90 } : Room).slots) (T1.setTop (mkF m 5 #[.val (.ref a), .val (.int (Int32.ofNat L.length)), .val (.ref s0)] []))
  refine G.aloadN H1 hx 6 (hb hby d15_5) rfl rfl rfl ?_
  refine G.aloadN H1 hx 7 (hb hby d15_6) rfl rfl rfl ?_
  refine Wk.getF W1 hx hoZ (host := "") (Or.inl (wd hw 63 rfl)) Via.refl (Fv.keep K1 nin0) 10 (hb hby d15_7) rfl ?_
  intro T2 W2; have H2 := W2.here
  refine G.iloadN H2 hx 11 (hb hby d15_10) rfl rfl ?_
  refine G.aloadN H2 hx 12 (hb hby d15_11) rfl rfl rfl ?_
  refine Wk.getF W2 hx hoZ (host := "") (Or.inl (wd hw 65 rfl)) Via.refl (Fc.keep K1 nin0) 15 (hb hby d15_12) rfl ?_
  intro T3 W3; have H3 := W3.here
  refine Wk.virtual W3 hx hoZ (y := (⟨"java/lang/String", "getBytes", "([BIB)V"⟩ : MethodName)) (z := (⟨"java/lang/String", "getBytes", "([BIB)V"⟩ : MethodName)) (wd hw 106 rfl) (wd hw 107 rfl) (wd hw 109 rfl) (wd hw 108 rfl) (W3.nf (wd hw 109 rfl)) (by decide) (Wd := 0) (CN.back (rmSbG l Z a0 hw cz s0 cs b kb L h1 W3.old hCS hcz (Ss.keepX K1 ala0) h8 hr (by omega) (Vb.keep K1 nin0)) W3.warm (wd hw 110 rfl) (wd hw 12 rfl) (by decide) (by decide)) (Es.keep K1) (by rw [hml]; rfl) [(.ref b), (.int (Int32.ofNat L.length)), (.int (0 : Int32))] [] (lenOf pd11 rfl) rfl rfl (Nat.le_of_eq rfl) 18 (hb hby d15_15) rfl (by decide) (by decide) (hws1 (Or.inl (by simp)) safe0) ?_
  intro v4 T4 h4 W4 K4 Ch4 Q4
  have H4 := W4.here; have z4 := K4.1
  obtain ⟨rfl, V4⟩ := Q4
  show Goes p e below (PostN s Z h0 [b] (QSbP Z a b kb L cz s0 cs h0) ({ frames := 2, cells := 0, slots := 0, locals := 90 } : Room).cells ({ frames := 2, cells := 0, slots := 0, locals := 90 } : Room).slots) (T4.setTop (mkF m 18 #[.val (.ref a), .val (.int (Int32.ofNat L.length)), .val (.ref s0)] []))
  exact Wk.retV W4 hx hret hlk (hb hby d15_18) (by decide) (by decide) ⟨rfl, V4⟩
def QSbA (Z : State) (a : Addr) (b : Addr) (kb : ClassId) (L : List Int32) (cz : Int32) (s0 : Addr) (cs : List Int32) (h0 : Heap) : Option Value → Heap → Prop := fun v h => v = some (.ref a) ∧ Exa Z h a "java/lang/StringBuilder" ∧ Fld Z h a "java/lang/AbstractStringBuilder" "value" "[B" (.ref b) ∧ Fld Z h a "java/lang/AbstractStringBuilder" "coder" "B" (.int 0) ∧ Fld Z h a "java/lang/AbstractStringBuilder" "count" "I" (.int (Int32.ofNat (L ++ cs).length)) ∧ Arv Z h b kb .byte 16 (sbl (L ++ cs)) (.int 0)
set_option maxRecDepth 65536 in
set_option maxHeartbeats 40000000 in
theorem rmSbA (l : Launch) (Z : State) (a0 : Array Value) (hw : ∀ d ∈ tables_1, d.before a0 Z = true) (a : Addr) (b : Addr) (kb : ClassId) (L : List Int32) (cz : Int32) (s0 : Addr) (cs : List Int32) (h0 : Heap) (O : Ext Z.heap h0) (hCS : Sta Z Z.heap "java/lang/String" "COMPACT_STRINGS" "Z" (.int cz)) (hcz : ¬ cz = 0) (Xa : Exa Z h0 a "java/lang/StringBuilder") (Fv : Fld Z h0 a "java/lang/AbstractStringBuilder" "value" "[B" (.ref b)) (Fc : Fld Z h0 a "java/lang/AbstractStringBuilder" "coder" "B" (.int 0)) (Fn : Fld Z h0 a "java/lang/AbstractStringBuilder" "count" "I" (.int (Int32.ofNat L.length))) (Vb : Arv Z h0 b kb .byte 16 (sbl L) (.int 0)) (Ss : SV Z h0 s0 cs) (h8 : ∀ c ∈ cs, C8 c) (hr : L.length + cs.length ≤ 16) (gz_a : Z.heap.size ≤ a) (gz_b : Z.heap.size ≤ b) :
    CN [] l Z (⟨"java/lang/AbstractStringBuilder", "append", "(Ljava/lang/String;)Ljava/lang/AbstractStringBuilder;"⟩ : MethodName) jdk_68_method_22_code 3 (Option.some (Jvm.ClassFile.FieldType.object "java/lang/AbstractStringBuilder")) ({ frames := 3, cells := 0, slots := 0, locals := 120 } : Room) #[(.ref a), (.ref s0)] h0 [a, b] (QSbA Z a b kb L cz s0 cs h0) := by
  refine CN.of_walk (plainFor_of_name pn4) O (ala gz_a (ala gz_b ala0)) ?_
  intro p e s m below meth c T0 W0 hx hby hml hoZ hnm hret hlk
  have H0 := W0.here; have hz0 := W0.zsize
  refine Goes.cast (ef11 m a s0) ?_
  have la := ltN Xa.lt; have lb := ltN Vb.lt; have nab := neN (Exa.neArv Xa Vb (wd hw 50 rfl))
  obtain ⟨bs, ks, Sc, Sv, Vs, ln⟩ := SV.lat Ss h8; have Es := Ss.exa; have ls := ltN Ss.lt; have lbs := ltN Vs.lt
  refine G.aloadN H0 hx 1 (hb hby d11_0) rfl rfl rfl ?_
  refine G.ifnonnullY H0 hx 9 (hb hby d11_1) (by decide) rfl ?_
  refine G.aloadN H0 hx 10 (hb hby d11_9) rfl rfl rfl ?_
  refine Wk.virtual W0 hx hoZ (y := (⟨"java/lang/String", "length", "()I"⟩ : MethodName)) (z := (⟨"java/lang/String", "length", "()I"⟩ : MethodName)) (wd hw 77 rfl) (wd hw 78 rfl) (wd hw 80 rfl) (wd hw 79 rfl) (W0.nf (wd hw 80 rfl)) (by decide) (Wd := 0) (lenS W0.warm (wsLen hw) (wd hw 11 rfl) W0.old Ss hCS hcz (by decide) (by decide)) Es (by rw [hml]; rfl) [] [] (lenOf pd12 rfl) rfl rfl (Nat.le_of_eq rfl) 13 (hb hby d11_10) rfl (by decide) (by decide) (fun _ q => nomatch q) ?_
  intro v1 T1 h1 W1 K1 Ch1 Q1
  have H1 := W1.here; have z1 := K1.1
  obtain ⟨rfl, eh1⟩ := Q1
  show Goes p e below (PostN s Z h0 [a, b] (QSbA Z a b kb L cz s0 cs h0) ({ frames := 3, cells := 0, slots := 0, locals := 120 } : Room).cells ({ frames := 3, cells := 0, slots := 0, locals := 120 } : Room).slots) (T1.setTop (mkF m 13 #[.val (.ref a), .val (.ref s0), .unset] [(.int (Int32.ofNat cs.length))]))
  refine G.istoreNX H1 hx 14 #[.val (.ref a), .val (.ref s0), .val (.int (Int32.ofNat cs.length))] (hb hby d11_13) rfl rfl ?_
  refine G.aloadN H1 hx 15 (hb hby d11_14) rfl rfl rfl ?_
  refine G.aloadN H1 hx 16 (hb hby d11_15) rfl rfl rfl ?_
  refine Wk.getF W1 hx hoZ (host := "") (Or.inl (wd hw 88 rfl)) Via.refl (Fn.keep K1 nin0) 19 (hb hby d11_16) rfl ?_
  intro T2 W2; have H2 := W2.here
  refine G.iloadN H2 hx 20 (hb hby d11_19) rfl rfl ?_
  refine G.iadd H2 hx 21 (hb hby d11_20) rfl ?_
  refine Wk.virtual W2 hx hoZ (y := (⟨"java/lang/AbstractStringBuilder", "ensureCapacityInternal", "(I)V"⟩ : MethodName)) (z := (⟨"java/lang/AbstractStringBuilder", "ensureCapacityInternal", "(I)V"⟩ : MethodName)) (wd hw 90 rfl) (decl_of (wd hw 91 rfl) (wd hw 94 rfl)) (wd hw 93 rfl) (wd hw 91 rfl) (W2.nf (wd hw 93 rfl)) (by decide) (Wd := 0) (CN.back (rmSbE l Z a0 hw a b kb L ((Int32.ofNat L.length) + (Int32.ofNat cs.length)) h1 W2.old (Xa.keep K1) (Fv.keep K1 nin0) (Fc.keep K1 nin0) (Fn.keep K1 nin0) (Vb.keep K1 nin0) (sbl_room hr)) W2.warm (wd hw 94 rfl) (wd hw 59 rfl) (by decide) (by decide)) (Xa.keep K1) (by rw [hml]; rfl) [(.int ((Int32.ofNat L.length) + (Int32.ofNat cs.length)))] [] (lenOf pd8 rfl) rfl rfl (Nat.le_of_eq rfl) 24 (hb hby d11_21) rfl (by decide) (by decide) (fun _ q => nomatch q) ?_
  intro v3 T3 h3 W3 K3 Ch3 Q3
  have H3 := W3.here; have z3 := K3.1
  obtain ⟨rfl, eh3⟩ := Q3
  show Goes p e below (PostN s Z h0 [a, b] (QSbA Z a b kb L cz s0 cs h0) ({ frames := 3, cells := 0, slots := 0, locals := 120 } : Room).cells ({ frames := 3, cells := 0, slots := 0, locals := 120 } : Room).slots) (T3.setTop (mkF m 24 #[.val (.ref a), .val (.ref s0), .val (.int (Int32.ofNat cs.length))] []))
  refine G.aloadN H3 hx 25 (hb hby d11_24) rfl rfl rfl ?_
  refine G.aloadN H3 hx 26 (hb hby d11_25) rfl rfl rfl ?_
  refine Wk.getF W3 hx hoZ (host := "") (Or.inl (wd hw 88 rfl)) Via.refl ((Fn.keep K1 nin0).keep K3 nin0) 29 (hb hby d11_26) rfl ?_
  intro T4 W4; have H4 := W4.here
  refine G.aloadN H4 hx 30 (hb hby d11_29) rfl rfl rfl ?_
  refine Wk.virtual W4 hx hoZ (y := (⟨"java/lang/AbstractStringBuilder", "putStringAt", "(ILjava/lang/String;)V"⟩ : MethodName)) (z := (⟨"java/lang/AbstractStringBuilder", "putStringAt", "(ILjava/lang/String;)V"⟩ : MethodName)) (wd hw 95 rfl) (decl_of (wd hw 96 rfl) (wd hw 99 rfl)) (wd hw 98 rfl) (wd hw 96 rfl) (W4.nf (wd hw 98 rfl)) (by decide) (Wd := 0) (CN.back (rmSbP l Z a0 hw a b kb L cz s0 cs h3 W4.old hCS hcz ((Xa.keep K1).keep K3) ((Fv.keep K1 nin0).keep K3 nin0) ((Fc.keep K1 nin0).keep K3 nin0) ((Fn.keep K1 nin0).keep K3 nin0) ((Vb.keep K1 nin0).keep K3 nin0) ((Ss.keepX K1 ala0).keepX K3 ala0) h8 hr (by omega)) W4.warm (wd hw 99 rfl) (wd hw 59 rfl) (by decide) (by decide)) ((Xa.keep K1).keep K3) (by rw [hml]; rfl) [(.int (Int32.ofNat L.length)), (.ref s0)] [] (lenOf pd13 rfl) rfl rfl (Nat.le_of_eq rfl) 33 (hb hby d11_30) rfl (by decide) (by decide) (hws1 (Or.inl (by simp)) safe0) ?_
  intro v5 T5 h5 W5 K5 Ch5 Q5
  have H5 := W5.here; have z5 := K5.1
  obtain ⟨rfl, V5⟩ := Q5
  show Goes p e below (PostN s Z h0 [a, b] (QSbA Z a b kb L cz s0 cs h0) ({ frames := 3, cells := 0, slots := 0, locals := 120 } : Room).cells ({ frames := 3, cells := 0, slots := 0, locals := 120 } : Room).slots) (T5.setTop (mkF m 33 #[.val (.ref a), .val (.ref s0), .val (.int (Int32.ofNat cs.length))] []))
  refine G.aloadN H5 hx 34 (hb hby d11_33) rfl rfl rfl ?_
  refine G.dup H5 hx 35 (hb hby d11_34) rfl rfl ?_
  refine Wk.getF W5 hx hoZ (host := "") (Or.inl (wd hw 88 rfl)) Via.refl (((Fn.keep K1 nin0).keep K3 nin0).keep K5 (ninS (neA (by omega)) nin0)) 38 (hb hby d11_35) rfl ?_
  intro T6 W6; have H6 := W6.here
  refine G.iloadN H6 hx 39 (hb hby d11_38) rfl rfl ?_
  refine G.iadd H6 hx 40 (hb hby d11_39) rfl ?_
  refine Wk.putF W6 hx hoZ (wd hw 88 rfl) Via.refl (.int ((Int32.ofNat L.length) + (Int32.ofNat cs.length))) (((Fn.keep K1 nin0).keep K3 nin0).keep K5 (ninS (neA (by omega)) nin0)) (((Xa.keep K1).keep K3).keep K5) (Or.inl (wd hw 89 rfl)) (wd hw 50 rfl) (ty := .int) (by decide) rfl rfl (Or.inl (by simp)) safe0 43 (hb hby d11_40) rfl ?_
  intro T7 h7 W7 R7 Ch7; have H7 := W7.here; have z7 := R7.size
  have F7 := ((((Fn.keep K1 nin0).keep K3 nin0).keep K5 (ninS (neA (by omega)) nin0))).same R7
  refine G.aloadN H7 hx 44 (hb hby d11_43) rfl rfl rfl ?_
  exact Wk.retA W7 hx (t := (.object "java/lang/AbstractStringBuilder")) rfl rfl hret hlk (hb hby d11_44) (by decide) (by decide) ⟨rfl, ((((Xa.keep K1).keep K3).keep K5).wr R7), ((((Fv.keep K1 nin0).keep K3 nin0).keep K5 (ninS (neA (by omega)) nin0)).other R7 (Or.inr (slot_ne (Or.inl (wd hw 64 rfl)) (Or.inl (wd hw 89 rfl)) (by decide) (t := (.array .byte)) (t' := .int) (by decide) (by decide)))), ((((Fc.keep K1 nin0).keep K3 nin0).keep K5 (ninS (neA (by omega)) nin0)).other R7 (Or.inr (slot_ne (Or.inl (wd hw 66 rfl)) (Or.inl (wd hw 89 rfl)) (by decide) (t := .byte) (t' := .int) (by decide) (by decide)))), by rw [List.length_append, ← ofn_add]; exact F7, (V5.other R7 (neA (by omega)))⟩
def QSbU (Z : State) (a : Addr) (b : Addr) (kb : ClassId) (L : List Int32) (cz : Int32) (s0 : Addr) (cs : List Int32) (h0 : Heap) : Option Value → Heap → Prop := fun v h => v = some (.ref a) ∧ Exa Z h a "java/lang/StringBuilder" ∧ Fld Z h a "java/lang/AbstractStringBuilder" "value" "[B" (.ref b) ∧ Fld Z h a "java/lang/AbstractStringBuilder" "coder" "B" (.int 0) ∧ Fld Z h a "java/lang/AbstractStringBuilder" "count" "I" (.int (Int32.ofNat (L ++ cs).length)) ∧ Arv Z h b kb .byte 16 (sbl (L ++ cs)) (.int 0)
set_option maxRecDepth 65536 in
set_option maxHeartbeats 40000000 in
theorem rmSbU (l : Launch) (Z : State) (a0 : Array Value) (hw : ∀ d ∈ tables_1, d.before a0 Z = true) (a : Addr) (b : Addr) (kb : ClassId) (L : List Int32) (cz : Int32) (s0 : Addr) (cs : List Int32) (h0 : Heap) (O : Ext Z.heap h0) (hCS : Sta Z Z.heap "java/lang/String" "COMPACT_STRINGS" "Z" (.int cz)) (hcz : ¬ cz = 0) (Xa : Exa Z h0 a "java/lang/StringBuilder") (Fv : Fld Z h0 a "java/lang/AbstractStringBuilder" "value" "[B" (.ref b)) (Fc : Fld Z h0 a "java/lang/AbstractStringBuilder" "coder" "B" (.int 0)) (Fn : Fld Z h0 a "java/lang/AbstractStringBuilder" "count" "I" (.int (Int32.ofNat L.length))) (Vb : Arv Z h0 b kb .byte 16 (sbl L) (.int 0)) (Ss : SV Z h0 s0 cs) (h8 : ∀ c ∈ cs, C8 c) (hr : L.length + cs.length ≤ 16) (gz_a : Z.heap.size ≤ a) (gz_b : Z.heap.size ≤ b) :
    CN [] l Z (⟨"java/lang/StringBuilder", "append", "(Ljava/lang/String;)Ljava/lang/StringBuilder;"⟩ : MethodName) jdk_67_method_7_code 2 (Option.some (Jvm.ClassFile.FieldType.object "java/lang/StringBuilder")) ({ frames := 4, cells := 0, slots := 0, locals := 150 } : Room) #[(.ref a), (.ref s0)] h0 [a, b] (QSbU Z a b kb L cz s0 cs h0) := by
  refine CN.of_walk (plainFor_of_name pn5) O (ala gz_a (ala gz_b ala0)) ?_
  intro p e s m below meth c T0 W0 hx hby hml hoZ hnm hret hlk
  have H0 := W0.here; have hz0 := W0.zsize
  refine Goes.cast (ef1 m a s0) ?_
  have la := ltN Xa.lt; have lb := ltN Vb.lt; have nab := neN (Exa.neArv Xa Vb (wd hw 50 rfl))
  obtain ⟨bs, ks, Sc, Sv, Vs, ln⟩ := SV.lat Ss h8; have Es := Ss.exa; have ls := ltN Ss.lt; have lbs := ltN Vs.lt
  refine G.aloadN H0 hx 1 (hb hby d10_0) rfl rfl rfl ?_
  refine G.aloadN H0 hx 2 (hb hby d10_1) rfl rfl rfl ?_
  refine Wk.super W0 hx hoZ (y := (⟨"java/lang/AbstractStringBuilder", "append", "(Ljava/lang/String;)Ljava/lang/AbstractStringBuilder;"⟩ : MethodName)) (wd hw 72 rfl) (same_of (wd hw 93 rfl) rfl (wd hw 73 rfl) (by decide)) (wd hw 73 rfl) (wd hw 74 rfl) (by decide) (wd hw 76 rfl) (Wd := 0) (CN.back (rmSbA l Z a0 hw a b kb L cz s0 cs h0 W0.old hCS hcz Xa Fv Fc Fn Vb Ss h8 hr (by omega) (by omega)) W0.warm (wd hw 76 rfl) (wd hw 59 rfl) (by decide) (by decide)) (Ins.self Xa) (by rw [hml]; rfl) [(.ref s0)] [] (lenOf pd14 rfl) rfl rfl (Nat.le_of_eq rfl) 5 (hb hby d10_2) rfl (by decide) (by decide) (hws2 (Or.inl (by simp)) safe0 (Or.inl (by simp)) safe0) ?_
  intro v1 T1 h1 W1 K1 Ch1 Q1
  have H1 := W1.here; have z1 := K1.1
  obtain ⟨rfl, X1, F1v, F1c, F1n, V1⟩ := Q1
  show Goes p e below (PostN s Z h0 [a, b] (QSbU Z a b kb L cz s0 cs h0) ({ frames := 4, cells := 0, slots := 0, locals := 150 } : Room).cells ({ frames := 4, cells := 0, slots := 0, locals := 150 } : Room).slots) (T1.setTop (mkF m 5 #[.val (.ref a), .val (.ref s0)] [(.ref a)]))
  refine G.pop H1 hx 6 (hb hby d10_5) rfl rfl ?_
  refine G.aloadN H1 hx 7 (hb hby d10_6) rfl rfl rfl ?_
  exact Wk.retA W1 hx (t := (.object "java/lang/StringBuilder")) rfl rfl hret hlk (hb hby d10_7) (by decide) (by decide) ⟨rfl, X1, F1v, F1c, F1n, V1⟩
def QCkL (Z : State) (f : Int32) (t : Int32) (h0 : Heap) : Option Value → Heap → Prop := fun v h => v = none ∧ h = h0
set_option maxRecDepth 65536 in
set_option maxHeartbeats 40000000 in
theorem rmCkL (l : Launch) (Z : State) (a0 : Array Value) (hw : ∀ d ∈ tables_1, d.before a0 Z = true) (f : Int32) (t : Int32) (h0 : Heap) (O : Ext Z.heap h0) (htf : ¬ t < f) :
    CN [] l Z (⟨"java/util/Arrays", "checkLength", "(II)V"⟩ : MethodName) jdk_65_method_131_code 2 (Option.none : Option Jvm.ClassFile.FieldType) ({ frames := 0, cells := 0, slots := 0, locals := 0 } : Room) #[(.int f), (.int t)] h0 [] (QCkL Z f t h0) := by
  refine CN.of_walk (plainFor_of_name pn6) O (fun _ q => nomatch q) ?_
  intro p e s m below meth c T0 W0 hx hby hml hoZ hnm hret hlk
  have H0 := W0.here; have hz0 := W0.zsize
  refine Goes.cast (ef12 m f t) ?_
  refine G.iloadN H0 hx 1 (hb hby d27_0) rfl rfl ?_
  refine G.iloadN H0 hx 2 (hb hby d27_1) rfl rfl ?_
  refine G.icmpY H0 hx 37 (hb hby d27_2) (flt htf).2.1 (by decide) rfl ?_
  exact Wk.retV W0 hx hret hlk (hb hby d27_37) (by decide) (by decide) ⟨rfl, rfl⟩
def f_min (x0 : Int32) (x1 : Int32) : Int32 := (if x1 < x0 then x1 else x0)
def Qmin (Z : State) (x0 : Int32) (x1 : Int32) (h0 : Heap) : Option Value → Heap → Prop := fun v h => v = some (.int (f_min x0 x1)) ∧ h = h0
set_option maxRecDepth 65536 in
set_option maxHeartbeats 40000000 in
theorem rmmin (l : Launch) (Z : State) (a0 : Array Value) (hw : ∀ d ∈ tables_1, d.before a0 Z = true) (x0 : Int32) (x1 : Int32) (h0 : Heap) (O : Ext Z.heap h0) :
    CN [] l Z (⟨"java/lang/Math", "min", "(II)I"⟩ : MethodName) jdk_29_method_69_code 2 (Option.some Jvm.ClassFile.FieldType.int) ({ frames := 0, cells := 0, slots := 0, locals := 0 } : Room) #[(.int x0), (.int x1)] h0 [] (Qmin Z x0 x1 h0) := by
  refine CN.of_walk (Jvm.Free.JP.mathPlain rfl (by decide +kernel)) O (fun _ q => nomatch q) ?_
  intro p e s m below meth c T0 W0 hx hby hml hoZ hnm hret hlk
  have H0 := W0.here; have hz0 := W0.zsize
  refine Goes.cast (ef12 m x0 x1) ?_
  refine G.iloadN H0 hx 1 (hb hby d28_0) rfl rfl ?_
  refine G.iloadN H0 hx 2 (hb hby d28_1) rfl rfl ?_
  by_cases c2_1 : x1 < x0
  ·
    refine G.icmpY H0 hx 9 (hb hby d28_2) (tlt c2_1).2.2.1 (by decide) rfl ?_
    refine G.iloadN H0 hx 10 (hb hby d28_9) rfl rfl ?_
    exact Wk.retI W0 hx hret hlk (hb hby d28_10) (by decide) (by decide) ⟨(by simp only [f_min, if_pos c2_1]), rfl⟩
  ·
    refine G.icmpN H0 hx 5 (hb hby d28_2) (flt c2_1).2.2.1 rfl ?_
    refine G.iloadN H0 hx 6 (hb hby d28_5) rfl rfl ?_
    refine G.goto H0 hx 10 (hb hby d28_6) (by decide) rfl ?_
    exact Wk.retI W0 hx hret hlk (hb hby d28_10) (by decide) (by decide) ⟨(by simp only [f_min, if_neg c2_1]), rfl⟩
def QCRB (Z : State) (b : Addr) (kb : ClassId) (f : Int32) (t : Int32) (n : Int32) (vs : List Value) (us : List Value) (h0 : Heap) : Option Value → Heap → Prop := fun v h => ∃ (r : Addr) (k : ClassId), v = some (.ref r) ∧ h0.size ≤ r ∧ Arv Z h r k .byte (t - f) us (.int 0)
set_option maxRecDepth 65536 in
set_option maxHeartbeats 40000000 in
theorem rmCRB (l : Launch) (Z : State) (a0 : Array Value) (hw : ∀ d ∈ tables_1, d.before a0 Z = true) (b : Addr) (kb : ClassId) (f : Int32) (t : Int32) (n : Int32) (vs : List Value) (us : List Value) (h0 : Heap) (O : Ext Z.heap h0) (Vb : Arv Z h0 b kb .byte n vs (.int 0)) (hf0 : ¬ f < 0) (htf : ¬ t < f) (hn0 : ¬ (t - f) < 0) (hcap : (t - f).toNatClampNeg ≤ 16) (hmin : f_min (n - f) (t - f) = t - f) (hq4 : f.toNatClampNeg + (t - f).toNatClampNeg ≤ n.toNatClampNeg) (hus : us = (List.range (t - f).toNatClampNeg).map fun i => vs.getD (f.toNatClampNeg + i) (.int 0)) :
    CN [] l Z (⟨"java/util/Arrays", "copyOfRangeByte", "([BII)[B"⟩ : MethodName) jdk_65_method_133_code 5 (Option.some (Jvm.ClassFile.FieldType.array Jvm.ClassFile.FieldType.byte)) ({ frames := 1, cells := 1, slots := 16, locals := 60 } : Room) #[(.ref b), (.int f), (.int t)] h0 [] (QCRB Z b kb f t n vs us h0) := by
  refine CN.of_walk (plainFor_of_name pn6) O (fun _ q => nomatch q) ?_
  intro p e s m below meth c T0 W0 hx hby hml hoZ hnm hret hlk
  have H0 := W0.here; have hz0 := W0.zsize
  refine Goes.cast (ef13 m b f t) ?_
  have lb := ltN Vb.lt
  refine G.iloadN H0 hx 1 (hb hby d26_0) rfl rfl ?_
  refine G.iloadN H0 hx 2 (hb hby d26_1) rfl rfl ?_
  refine Wk.callS W0 hx hoZ (y := (⟨"java/util/Arrays", "checkLength", "(II)V"⟩ : MethodName)) (wd hw 153 rfl) (wd hw 154 rfl) (wd hw 148 rfl) (wd hw 155 rfl) (by decide) (Wd := 0) (CN.back (rmCkL l Z a0 hw f t h0 W0.old htf) W0.warm (wd hw 155 rfl) (wd hw 148 rfl) (by decide) (by decide)) (by rw [hml]; rfl) [(.int f), (.int t)] [] (lenOf pd15 rfl) rfl rfl (Nat.le_of_eq rfl) 5 (hb hby d26_2) rfl (by decide) (by decide) (fun _ q => nomatch q) ?_
  intro v1 T1 h1 W1 K1 Ch1 Q1
  have H1 := W1.here; have z1 := K1.1
  obtain ⟨rfl, eh1⟩ := Q1
  show Goes p e below (PostN s Z h0 [] (QCRB Z b kb f t n vs us h0) ({ frames := 1, cells := 1, slots := 16, locals := 60 } : Room).cells ({ frames := 1, cells := 1, slots := 16, locals := 60 } : Room).slots) (T1.setTop (mkF m 5 #[.val (.ref b), .val (.int f), .val (.int t), .unset, .unset] []))
  refine G.iloadN H1 hx 6 (hb hby d26_5) rfl rfl ?_
  refine G.iloadN H1 hx 7 (hb hby d26_6) rfl rfl ?_
  refine G.isub H1 hx 8 (hb hby d26_7) rfl ?_
  refine G.istoreNX H1 hx 9 #[.val (.ref b), .val (.int f), .val (.int t), .val (.int (t - f)), .unset] (hb hby d26_8) rfl rfl ?_
  refine G.iloadN H1 hx 10 (hb hby d26_9) rfl rfl ?_
  refine Wk.newP W1 hx (wd hw 25 rfl) 12 (hb hby d26_10) hn0 16 hcap rfl (by decide) (by decide) (by decide) ?_
  intro T2 h2 a2 k2 W2 E2 g2 V2 S2
  have H2 := W2.here; have z2 := E2.1; have gu2 := Nat.le_of_eq g2; have gt2 := Nat.le_of_eq g2.symm; have l2 := ltN V2.lt
  refine G.astore H2 hx 14 #[.val (.ref b), .val (.int f), .val (.int t), .val (.int (t - f)), .val (.ref a2)] (hb hby d26_12) rfl rfl rfl ?_
  refine G.aloadN H2 hx 15 (hb hby d26_14) rfl rfl rfl ?_
  refine G.iloadN H2 hx 16 (hb hby d26_15) rfl rfl ?_
  refine G.aload H2 hx 18 (hb hby d26_16) rfl rfl rfl ?_
  refine G.iconst H2 hx 19 (0 : Int32) (hb hby d26_18) rfl rfl ?_
  refine G.aloadN H2 hx 20 (hb hby d26_19) rfl rfl rfl ?_
  refine Wk.arraylength W2 hx ((Vb.keep K1 nin0).ext E2) 21 (hb hby d26_20) rfl ?_
  refine G.iloadN H2 hx 22 (hb hby d26_21) rfl rfl ?_
  refine G.isub H2 hx 23 (hb hby d26_22) rfl ?_
  refine G.iloadN H2 hx 24 (hb hby d26_23) rfl rfl ?_
  refine Wk.callS W2 hx hoZ (y := (⟨"java/lang/Math", "min", "(II)I"⟩ : MethodName)) (wd hw 156 rfl) (wd hw 157 rfl) (wd hw 158 rfl) (wd hw 159 rfl) (by decide) (Wd := 4) (CN.back (rmmin l Z a0 hw (n - f) (t - f) h2 W2.old ) W2.warm (wd hw 159 rfl) (wd hw 158 rfl) (by decide) (by decide)) (by rw [hml]; rfl) [(.int (n - f)), (.int (t - f))] [(.int (0 : Int32)), (.ref a2), (.int f), (.ref b)] (lenOf pd16 rfl) rfl rfl (Nat.le_of_eq rfl) 27 (hb hby d26_24) rfl (by decide) (by decide) (fun _ q => nomatch q) ?_
  intro v3 T3 h3 W3 K3 Ch3 Q3
  have H3 := W3.here; have z3 := K3.1
  obtain ⟨rfl, eh3⟩ := Q3
  show Goes p e below (PostN s Z h0 [] (QCRB Z b kb f t n vs us h0) ({ frames := 1, cells := 1, slots := 16, locals := 60 } : Room).cells ({ frames := 1, cells := 1, slots := 16, locals := 60 } : Room).slots) (T3.setTop (mkF m 27 #[.val (.ref b), .val (.int f), .val (.int t), .val (.int (t - f)), .val (.ref a2)] [(.int (f_min (n - f) (t - f))), (.int (0 : Int32)), (.ref a2), (.int f), (.ref b)]))
  rw [hmin]
  show Goes p e below (PostN s Z h0 [] (QCRB Z b kb f t n vs us h0) ({ frames := 1, cells := 1, slots := 16, locals := 60 } : Room).cells ({ frames := 1, cells := 1, slots := 16, locals := 60 } : Room).slots) (T3.setTop (mkF m 27 #[.val (.ref b), .val (.int f), .val (.int t), .val (.int (t - f)), .val (.ref a2)] [(.int (t - f)), (.int (0 : Int32)), (.ref a2), (.int f), (.ref b)]))
  refine Wk.arraycopy W3 hx hoZ (wd hw 160 rfl) (wd hw 114 rfl) (wd hw 112 rfl) (wd hw 113 rfl) us (((Vb.keep K1 nin0).ext E2).keep K3 nin0) (V2.keep K3 nin0) rfl hf0 (by decide) hn0 hq4 (by have e0 : (0 : Int32).toNatClampNeg = 0 := rfl; omega) hus (by have e0 : (0 : Int32).toNatClampNeg = 0 := rfl; rw [List.length_replicate]; omega) (Or.inr (by omega)) safe0 (by rw [hml]; rfl) 30 (hb hby d26_27) rfl (by decide) 0 (Nat.le_of_eq rfl) (by decide) ?_
  intro T4 h4 W4 K4 Ch4 V4; have H4 := W4.here; have z4 := K4.1
  have V4' := arv_cp V4 (by rw [hus]; simp)
  refine G.aload H4 hx 32 (hb hby d26_30) rfl rfl rfl ?_
  exact Wk.retA W4 hx (t := (.array .byte)) rfl rfl hret hlk (hb hby d26_32) (by decide) (by decide) ⟨_, _, rfl, by omega, V4'⟩
def QCR (Z : State) (b : Addr) (kb : ClassId) (f : Int32) (t : Int32) (n : Int32) (vs : List Value) (us : List Value) (h0 : Heap) : Option Value → Heap → Prop := fun v h => ∃ (r : Addr) (k : ClassId), v = some (.ref r) ∧ h0.size ≤ r ∧ Arv Z h r k .byte (t - f) us (.int 0)
set_option maxRecDepth 65536 in
set_option maxHeartbeats 40000000 in
theorem rmCR (l : Launch) (Z : State) (a0 : Array Value) (hw : ∀ d ∈ tables_1, d.before a0 Z = true) (b : Addr) (kb : ClassId) (f : Int32) (t : Int32) (n : Int32) (vs : List Value) (us : List Value) (h0 : Heap) (O : Ext Z.heap h0) (Vb : Arv Z h0 b kb .byte n vs (.int 0)) (hne0 : f = 0 → ¬ t = n) (hf0 : ¬ f < 0) (htf : ¬ t < f) (hn0 : ¬ (t - f) < 0) (hcap : (t - f).toNatClampNeg ≤ 16) (hmin : f_min (n - f) (t - f) = t - f) (hq4 : f.toNatClampNeg + (t - f).toNatClampNeg ≤ n.toNatClampNeg) (hus : us = (List.range (t - f).toNatClampNeg).map fun i => vs.getD (f.toNatClampNeg + i) (.int 0)) :
    CN [] l Z (⟨"java/util/Arrays", "copyOfRange", "([BII)[B"⟩ : MethodName) jdk_65_method_132_code 3 (Option.some (Jvm.ClassFile.FieldType.array Jvm.ClassFile.FieldType.byte)) ({ frames := 2, cells := 1, slots := 16, locals := 80 } : Room) #[(.ref b), (.int f), (.int t)] h0 [] (QCR Z b kb f t n vs us h0) := by
  refine CN.of_walk (plainFor_of_name pn6) O (fun _ q => nomatch q) ?_
  intro p e s m below meth c T0 W0 hx hby hml hoZ hnm hret hlk
  have H0 := W0.here; have hz0 := W0.zsize
  refine Goes.cast (ef14 m b f t) ?_
  have lb := ltN Vb.lt
  refine G.iloadN H0 hx 1 (hb hby d25_0) rfl rfl ?_
  by_cases c1_1 : f = 0
  ·
    refine G.ifN H0 hx 4 (hb hby d25_1) (zeq c1_1).2 rfl ?_
    refine G.iloadN H0 hx 5 (hb hby d25_4) rfl rfl ?_
    refine G.aloadN H0 hx 6 (hb hby d25_5) rfl rfl rfl ?_
    refine Wk.arraylength W0 hx Vb 7 (hb hby d25_6) rfl ?_
    refine G.icmpN H0 hx 10 (hb hby d25_7) (feq (hne0 c1_1)).1 rfl ?_
    refine G.aloadN H0 hx 11 (hb hby d25_10) rfl rfl rfl ?_
    refine G.iloadN H0 hx 12 (hb hby d25_11) rfl rfl ?_
    refine G.iloadN H0 hx 13 (hb hby d25_12) rfl rfl ?_
    refine Wk.callS W0 hx hoZ (y := (⟨"java/util/Arrays", "copyOfRangeByte", "([BII)[B"⟩ : MethodName)) (wd hw 150 rfl) (wd hw 151 rfl) (wd hw 148 rfl) (wd hw 152 rfl) (by decide) (Wd := 0) (CN.back (rmCRB l Z a0 hw b kb f t n vs us h0 W0.old Vb hf0 htf hn0 hcap hmin hq4 hus) W0.warm (wd hw 152 rfl) (wd hw 148 rfl) (by decide) (by decide)) (by rw [hml]; rfl) [(.ref b), (.int f), (.int t)] [] (lenOf pd17 rfl) rfl rfl (Nat.le_of_eq rfl) 16 (hb hby d25_13) rfl (by decide) (by decide) (fun _ q => nomatch q) ?_
    intro v2 T2 h2 W2 K2 Ch2 Q2
    have H2 := W2.here; have z2 := K2.1
    obtain ⟨r2, k2, rfl, g2, V2⟩ := Q2; have l2 := ltN V2.lt
    show Goes p e below (PostN s Z h0 [] (QCR Z b kb f t n vs us h0) ({ frames := 2, cells := 1, slots := 16, locals := 80 } : Room).cells ({ frames := 2, cells := 1, slots := 16, locals := 80 } : Room).slots) (T2.setTop (mkF m 16 #[.val (.ref b), .val (.int f), .val (.int t)] [(.ref r2)]))
    exact Wk.retA W2 hx (t := (.array .byte)) rfl rfl hret hlk (hb hby d25_16) (by decide) (by decide) ⟨_, _, rfl, by omega, V2⟩
  ·
    refine G.ifY H0 hx 10 (hb hby d25_1) (zne c1_1).2 (by decide) rfl ?_
    refine G.aloadN H0 hx 11 (hb hby d25_10) rfl rfl rfl ?_
    refine G.iloadN H0 hx 12 (hb hby d25_11) rfl rfl ?_
    refine G.iloadN H0 hx 13 (hb hby d25_12) rfl rfl ?_
    refine Wk.callS W0 hx hoZ (y := (⟨"java/util/Arrays", "copyOfRangeByte", "([BII)[B"⟩ : MethodName)) (wd hw 150 rfl) (wd hw 151 rfl) (wd hw 148 rfl) (wd hw 152 rfl) (by decide) (Wd := 0) (CN.back (rmCRB l Z a0 hw b kb f t n vs us h0 W0.old Vb hf0 htf hn0 hcap hmin hq4 hus) W0.warm (wd hw 152 rfl) (wd hw 148 rfl) (by decide) (by decide)) (by rw [hml]; rfl) [(.ref b), (.int f), (.int t)] [] (lenOf pd17 rfl) rfl rfl (Nat.le_of_eq rfl) 16 (hb hby d25_13) rfl (by decide) (by decide) (fun _ q => nomatch q) ?_
    intro v3 T3 h3 W3 K3 Ch3 Q3
    have H3 := W3.here; have z3 := K3.1
    obtain ⟨r3, k3, rfl, g3, V3⟩ := Q3; have l3 := ltN V3.lt
    show Goes p e below (PostN s Z h0 [] (QCR Z b kb f t n vs us h0) ({ frames := 2, cells := 1, slots := 16, locals := 80 } : Room).cells ({ frames := 2, cells := 1, slots := 16, locals := 80 } : Room).slots) (T3.setTop (mkF m 16 #[.val (.ref b), .val (.int f), .val (.int t)] [(.ref r3)]))
    exact Wk.retA W3 hx (t := (.array .byte)) rfl rfl hret hlk (hb hby d25_16) (by decide) (by decide) ⟨_, _, rfl, by omega, V3⟩
theorem sb_min {L : List Int32} (h : L.length < 16) : f_min ((16 : Int32) - 0) (Int32.ofNat L.length - 0) = Int32.ofNat L.length - 0 := by
  rw [Int32.sub_zero, Int32.sub_zero]; unfold f_min
  split
  · rfl
  · rename_i q
    exact absurd (ofn_lt (L := 16) (by decide) h) q
def QSbV (Z : State) (a : Addr) (b : Addr) (kb : ClassId) (L : List Int32) (h0 : Heap) : Option Value → Heap → Prop := fun v h => v = some (.ref b) ∧ h = h0
set_option maxRecDepth 65536 in
set_option maxHeartbeats 40000000 in
theorem rmSbV (l : Launch) (Z : State) (a0 : Array Value) (hw : ∀ d ∈ tables_1, d.before a0 Z = true) (a : Addr) (b : Addr) (kb : ClassId) (L : List Int32) (h0 : Heap) (O : Ext Z.heap h0) (Xa : Exa Z h0 a "java/lang/StringBuilder") (Fv : Fld Z h0 a "java/lang/AbstractStringBuilder" "value" "[B" (.ref b)) (Fc : Fld Z h0 a "java/lang/AbstractStringBuilder" "coder" "B" (.int 0)) (Fn : Fld Z h0 a "java/lang/AbstractStringBuilder" "count" "I" (.int (Int32.ofNat L.length))) (Vb : Arv Z h0 b kb .byte 16 (sbl L) (.int 0)) :
    CN [] l Z (⟨"java/lang/AbstractStringBuilder", "getValue", "()[B"⟩ : MethodName) jdk_68_method_64_code 1 (Option.some (Jvm.ClassFile.FieldType.array Jvm.ClassFile.FieldType.byte)) ({ frames := 0, cells := 0, slots := 0, locals := 0 } : Room) #[(.ref a)] h0 [] (QSbV Z a b kb L h0) := by
  refine CN.of_walk (plainFor_of_name pn4) O (fun _ q => nomatch q) ?_
  intro p e s m below meth c T0 W0 hx hby hml hoZ hnm hret hlk
  have H0 := W0.here; have hz0 := W0.zsize
  refine Goes.cast (ef6 m a) ?_
  have la := ltN Xa.lt; have lb := ltN Vb.lt; have nab := neN (Exa.neArv Xa Vb (wd hw 50 rfl))
  refine G.aloadN H0 hx 1 (hb hby d21_0) rfl rfl rfl ?_
  refine Wk.getF W0 hx hoZ (host := "") (Or.inl (wd hw 63 rfl)) Via.refl Fv 4 (hb hby d21_1) rfl ?_
  intro T1 W1; have H1 := W1.here
  exact Wk.retA W1 hx (t := (.array .byte)) rfl rfl hret hlk (hb hby d21_4) (by decide) (by decide) ⟨rfl, rfl⟩
def QSbL0 (Z : State) (a : Addr) (b : Addr) (kb : ClassId) (L : List Int32) (h0 : Heap) : Option Value → Heap → Prop := fun v h => v = some (.int (Int32.ofNat L.length)) ∧ h = h0
set_option maxRecDepth 65536 in
set_option maxHeartbeats 40000000 in
theorem rmSbL0 (l : Launch) (Z : State) (a0 : Array Value) (hw : ∀ d ∈ tables_1, d.before a0 Z = true) (a : Addr) (b : Addr) (kb : ClassId) (L : List Int32) (h0 : Heap) (O : Ext Z.heap h0) (Xa : Exa Z h0 a "java/lang/StringBuilder") (Fv : Fld Z h0 a "java/lang/AbstractStringBuilder" "value" "[B" (.ref b)) (Fc : Fld Z h0 a "java/lang/AbstractStringBuilder" "coder" "B" (.int 0)) (Fn : Fld Z h0 a "java/lang/AbstractStringBuilder" "count" "I" (.int (Int32.ofNat L.length))) (Vb : Arv Z h0 b kb .byte 16 (sbl L) (.int 0)) :
    CN [] l Z (⟨"java/lang/AbstractStringBuilder", "length", "()I"⟩ : MethodName) jdk_68_method_6_code 1 (Option.some Jvm.ClassFile.FieldType.int) ({ frames := 0, cells := 0, slots := 0, locals := 0 } : Room) #[(.ref a)] h0 [] (QSbL0 Z a b kb L h0) := by
  refine CN.of_walk (plainFor_of_name pn4) O (fun _ q => nomatch q) ?_
  intro p e s m below meth c T0 W0 hx hby hml hoZ hnm hret hlk
  have H0 := W0.here; have hz0 := W0.zsize
  refine Goes.cast (ef6 m a) ?_
  have la := ltN Xa.lt; have lb := ltN Vb.lt; have nab := neN (Exa.neArv Xa Vb (wd hw 50 rfl))
  refine G.aloadN H0 hx 1 (hb hby d23_0) rfl rfl rfl ?_
  refine Wk.getF W0 hx hoZ (host := "") (Or.inl (wd hw 88 rfl)) Via.refl Fn 4 (hb hby d23_1) rfl ?_
  intro T1 W1; have H1 := W1.here
  exact Wk.retI W1 hx hret hlk (hb hby d23_4) (by decide) (by decide) ⟨rfl, rfl⟩
def QSbL (Z : State) (a : Addr) (b : Addr) (kb : ClassId) (L : List Int32) (h0 : Heap) : Option Value → Heap → Prop := fun v h => v = some (.int (Int32.ofNat L.length)) ∧ h = h0
set_option maxRecDepth 65536 in
set_option maxHeartbeats 40000000 in
theorem rmSbL (l : Launch) (Z : State) (a0 : Array Value) (hw : ∀ d ∈ tables_1, d.before a0 Z = true) (a : Addr) (b : Addr) (kb : ClassId) (L : List Int32) (h0 : Heap) (O : Ext Z.heap h0) (Xa : Exa Z h0 a "java/lang/StringBuilder") (Fv : Fld Z h0 a "java/lang/AbstractStringBuilder" "value" "[B" (.ref b)) (Fc : Fld Z h0 a "java/lang/AbstractStringBuilder" "coder" "B" (.int 0)) (Fn : Fld Z h0 a "java/lang/AbstractStringBuilder" "count" "I" (.int (Int32.ofNat L.length))) (Vb : Arv Z h0 b kb .byte 16 (sbl L) (.int 0)) :
    CN [] l Z (⟨"java/lang/StringBuilder", "length", "()I"⟩ : MethodName) jdk_67_method_93_code 1 (Option.some Jvm.ClassFile.FieldType.int) ({ frames := 1, cells := 0, slots := 0, locals := 14 } : Room) #[(.ref a)] h0 [] (QSbL Z a b kb L h0) := by
  refine CN.of_walk (plainFor_of_name pn5) O (fun _ q => nomatch q) ?_
  intro p e s m below meth c T0 W0 hx hby hml hoZ hnm hret hlk
  have H0 := W0.here; have hz0 := W0.zsize
  refine Goes.cast (ef6 m a) ?_
  have la := ltN Xa.lt; have lb := ltN Vb.lt; have nab := neN (Exa.neArv Xa Vb (wd hw 50 rfl))
  refine G.aloadN H0 hx 1 (hb hby d22_0) rfl rfl rfl ?_
  refine Wk.super W0 hx hoZ (y := (⟨"java/lang/AbstractStringBuilder", "length", "()I"⟩ : MethodName)) (wd hw 139 rfl) (same_of (wd hw 93 rfl) rfl (wd hw 135 rfl) (by decide)) (wd hw 135 rfl) (wd hw 74 rfl) (by decide) (wd hw 140 rfl) (Wd := 0) (CN.back (rmSbL0 l Z a0 hw a b kb L h0 W0.old Xa Fv Fc Fn Vb) W0.warm (wd hw 140 rfl) (wd hw 59 rfl) (by decide) (by decide)) (Ins.self Xa) (by rw [hml]; rfl) [] [] (lenOf pd12 rfl) rfl rfl (Nat.le_of_eq rfl) 4 (hb hby d22_1) rfl (by decide) (by decide) (fun _ q => nomatch q) ?_
  intro v1 T1 h1 W1 K1 Ch1 Q1
  have H1 := W1.here; have z1 := K1.1
  obtain ⟨rfl, eh1⟩ := Q1
  show Goes p e below (PostN s Z h0 [] (QSbL Z a b kb L h0) ({ frames := 1, cells := 0, slots := 0, locals := 14 } : Room).cells ({ frames := 1, cells := 0, slots := 0, locals := 14 } : Room).slots) (T1.setTop (mkF m 4 #[.val (.ref a)] [(.int (Int32.ofNat L.length))]))
  exact Wk.retI W1 hx hret hlk (hb hby d22_4) (by decide) (by decide) ⟨rfl, (by rw [eh1])⟩
def QSbT (Z : State) (cz : Int32) (a : Addr) (b : Addr) (kb : ClassId) (L : List Int32) (h0 : Heap) : Option Value → Heap → Prop := fun v h => v = some (.int 1) ∧ h = h0
set_option maxRecDepth 65536 in
set_option maxHeartbeats 40000000 in
theorem rmSbT (l : Launch) (Z : State) (a0 : Array Value) (hw : ∀ d ∈ tables_1, d.before a0 Z = true) (cz : Int32) (a : Addr) (b : Addr) (kb : ClassId) (L : List Int32) (h0 : Heap) (O : Ext Z.heap h0) (hCS : Sta Z Z.heap "java/lang/String" "COMPACT_STRINGS" "Z" (.int cz)) (hcz : ¬ cz = 0) (Xa : Exa Z h0 a "java/lang/StringBuilder") (Fv : Fld Z h0 a "java/lang/AbstractStringBuilder" "value" "[B" (.ref b)) (Fc : Fld Z h0 a "java/lang/AbstractStringBuilder" "coder" "B" (.int 0)) (Fn : Fld Z h0 a "java/lang/AbstractStringBuilder" "count" "I" (.int (Int32.ofNat L.length))) (Vb : Arv Z h0 b kb .byte 16 (sbl L) (.int 0)) :
    CN [] l Z (⟨"java/lang/AbstractStringBuilder", "isLatin1", "()Z"⟩ : MethodName) jdk_68_method_68_code 1 (Option.some Jvm.ClassFile.FieldType.boolean) ({ frames := 0, cells := 0, slots := 0, locals := 0 } : Room) #[(.ref a)] h0 [] (QSbT Z cz a b kb L h0) := by
  refine CN.of_walk (plainFor_of_name pn4) O (fun _ q => nomatch q) ?_
  intro p e s m below meth c T0 W0 hx hby hml hoZ hnm hret hlk
  have H0 := W0.here; have hz0 := W0.zsize
  refine Goes.cast (ef6 m a) ?_
  have la := ltN Xa.lt; have lb := ltN Vb.lt; have nab := neN (Exa.neArv Xa Vb (wd hw 50 rfl))
  refine Wk.getS W0 hx hoZ (wd hw 62 rfl) Via.refl (hCS.ext W0.old) 3 (hb hby d24_0) rfl ?_
  intro T1 W1; have H1 := W1.here
  refine G.ifN H1 hx 6 (hb hby d24_3) (zne hcz).1 rfl ?_
  refine G.aloadN H1 hx 7 (hb hby d24_6) rfl rfl rfl ?_
  refine Wk.getF W1 hx hoZ (host := "") (Or.inl (wd hw 65 rfl)) Via.refl Fc 10 (hb hby d24_7) rfl ?_
  intro T2 W2; have H2 := W2.here
  refine G.ifN H2 hx 13 (hb hby d24_10) (zeq (by decide)).2 rfl ?_
  refine G.iconst H2 hx 14 (1 : Int32) (hb hby d24_13) rfl rfl ?_
  refine G.goto H2 hx 18 (hb hby d24_14) (by decide) rfl ?_
  exact Wk.retN W2 hx (1 : Int32) (t := .boolean) rfl (by simp) hret hlk (hb hby d24_18) (by decide) (by decide) ⟨rfl, rfl⟩
def QSbN (Z : State) (cz : Int32) (t0 : Addr) (a : Addr) (b : Addr) (kb : ClassId) (L : List Int32) (h0 : Heap) : Option Value → Heap → Prop := fun v h => v = none ∧ SV Z h t0 L
set_option maxRecDepth 65536 in
set_option maxHeartbeats 40000000 in
theorem rmSbN (l : Launch) (Z : State) (a0 : Array Value) (hw : ∀ d ∈ tables_1, d.before a0 Z = true) (cz : Int32) (t0 : Addr) (a : Addr) (b : Addr) (kb : ClassId) (L : List Int32) (h0 : Heap) (O : Ext Z.heap h0) (hCS : Sta Z Z.heap "java/lang/String" "COMPACT_STRINGS" "Z" (.int cz)) (hcz : ¬ cz = 0) (Xa : Exa Z h0 a "java/lang/StringBuilder") (Fv : Fld Z h0 a "java/lang/AbstractStringBuilder" "value" "[B" (.ref b)) (Fc : Fld Z h0 a "java/lang/AbstractStringBuilder" "coder" "B" (.int 0)) (Fn : Fld Z h0 a "java/lang/AbstractStringBuilder" "count" "I" (.int (Int32.ofNat L.length))) (Vb : Arv Z h0 b kb .byte 16 (sbl L) (.int 0)) (gz_t0 : Z.heap.size ≤ t0) (Et : Exa Z h0 t0 "java/lang/String") (Tv : Fld Z h0 t0 "java/lang/String" "value" "[B" .null) (Tc : Fld Z h0 t0 "java/lang/String" "coder" "B" (.int 0)) (h8 : ∀ c ∈ L, C8 c) (hf : L.length < 16) :
    CN [] l Z (⟨"java/lang/String", "<init>", "(Ljava/lang/AbstractStringBuilder;Ljava/lang/Void;)V"⟩ : MethodName) jdk_42_method_150_code 5 (Option.none : Option Jvm.ClassFile.FieldType) ({ frames := 3, cells := 1, slots := 16, locals := 110 } : Room) #[(.ref t0), (.ref a), .null] h0 [t0] (QSbN Z cz t0 a b kb L h0) := by
  refine CN.of_walk (plainFor_of_name pn0) O (ala gz_t0 ala0) ?_
  intro p e s m below meth c T0 W0 hx hby hml hoZ hnm hret hlk
  have H0 := W0.here; have hz0 := W0.zsize
  refine Goes.cast (ef15 m t0 a) ?_
  have la := ltN Xa.lt; have lb := ltN Vb.lt; have nab := neN (Exa.neArv Xa Vb (wd hw 50 rfl))
  have lt0 := ltN Et.lt; have nta := neN (Exa.ne Et Xa (by decide)); have ntb := neN (Exa.neArv Et Vb (wd hw 11 rfl))
  have sc := sb_copy hf
  refine G.aloadN H0 hx 1 (hb hby d20_0) rfl rfl rfl ?_
  refine Wk.initO W0 hx hoZ (wd hw 21 rfl) (wd hw 22 rfl) (wd hw 23 rfl) (by rw [hml]; rfl) 4 (hb hby d20_1) rfl (by decide) 0 (Nat.le_of_eq rfl) (by decide) ?_
  intro T1 W1; have H1 := W1.here
  refine G.aloadN H1 hx 5 (hb hby d20_4) rfl rfl rfl ?_
  refine Wk.virtual W1 hx hoZ (y := (⟨"java/lang/AbstractStringBuilder", "getValue", "()[B"⟩ : MethodName)) (z := (⟨"java/lang/AbstractStringBuilder", "getValue", "()[B"⟩ : MethodName)) (wd hw 128 rfl) (wd hw 129 rfl) (wd hw 131 rfl) (wd hw 130 rfl) (W1.nf (wd hw 131 rfl)) (by decide) (Wd := 0) (CN.back (rmSbV l Z a0 hw a b kb L h0 W1.old Xa Fv Fc Fn Vb) W1.warm (wd hw 132 rfl) (wd hw 59 rfl) (by decide) (by decide)) Xa (by rw [hml]; rfl) [] [] (lenOf pd18 rfl) rfl rfl (Nat.le_of_eq rfl) 8 (hb hby d20_5) rfl (by decide) (by decide) (fun _ q => nomatch q) ?_
  intro v2 T2 h2 W2 K2 Ch2 Q2
  have H2 := W2.here; have z2 := K2.1
  obtain ⟨rfl, eh2⟩ := Q2
  show Goes p e below (PostN s Z h0 [t0] (QSbN Z cz t0 a b kb L h0) ({ frames := 3, cells := 1, slots := 16, locals := 110 } : Room).cells ({ frames := 3, cells := 1, slots := 16, locals := 110 } : Room).slots) (T2.setTop (mkF m 8 #[.val (.ref t0), .val (.ref a), .val .null, .unset, .unset] [(.ref b)]))
  refine G.astoreN H2 hx 9 #[.val (.ref t0), .val (.ref a), .val .null, .val (.ref b), .unset] (hb hby d20_8) rfl rfl rfl ?_
  refine G.aloadN H2 hx 10 (hb hby d20_9) rfl rfl rfl ?_
  refine Wk.virtual W2 hx hoZ (y := (⟨"java/lang/AbstractStringBuilder", "length", "()I"⟩ : MethodName)) (z := (⟨"java/lang/StringBuilder", "length", "()I"⟩ : MethodName)) (wd hw 133 rfl) (wd hw 134 rfl) (wd hw 136 rfl) (wd hw 137 rfl) (W2.nfo (y := (⟨"java/lang/AbstractStringBuilder", "length", "()I"⟩ : MethodName)) (wd hw 93 rfl) rfl) (by decide) (Wd := 0) (CN.back (rmSbL l Z a0 hw a b kb L h2 W2.old (Xa.keep K2) (Fv.keep K2 nin0) (Fc.keep K2 nin0) (Fn.keep K2 nin0) (Vb.keep K2 nin0)) W2.warm (wd hw 138 rfl) (wd hw 51 rfl) (by decide) (by decide)) (Xa.keep K2) (by rw [hml]; rfl) [] [] (lenOf pd12 rfl) rfl rfl (Nat.le_of_eq rfl) 13 (hb hby d20_10) rfl (by decide) (by decide) (fun _ q => nomatch q) ?_
  intro v3 T3 h3 W3 K3 Ch3 Q3
  have H3 := W3.here; have z3 := K3.1
  obtain ⟨rfl, eh3⟩ := Q3
  show Goes p e below (PostN s Z h0 [t0] (QSbN Z cz t0 a b kb L h0) ({ frames := 3, cells := 1, slots := 16, locals := 110 } : Room).cells ({ frames := 3, cells := 1, slots := 16, locals := 110 } : Room).slots) (T3.setTop (mkF m 13 #[.val (.ref t0), .val (.ref a), .val .null, .val (.ref b), .unset] [(.int (Int32.ofNat L.length))]))
  refine G.istoreX H3 hx 15 #[.val (.ref t0), .val (.ref a), .val .null, .val (.ref b), .val (.int (Int32.ofNat L.length))] (hb hby d20_13) rfl rfl ?_
  refine G.aloadN H3 hx 16 (hb hby d20_15) rfl rfl rfl ?_
  refine Wk.virtual W3 hx hoZ (y := (⟨"java/lang/AbstractStringBuilder", "isLatin1", "()Z"⟩ : MethodName)) (z := (⟨"java/lang/AbstractStringBuilder", "isLatin1", "()Z"⟩ : MethodName)) (wd hw 141 rfl) (wd hw 142 rfl) (wd hw 144 rfl) (wd hw 143 rfl) (W3.nf (wd hw 144 rfl)) (by decide) (Wd := 0) (CN.back (rmSbT l Z a0 hw cz a b kb L h3 W3.old hCS hcz ((Xa.keep K2).keep K3) ((Fv.keep K2 nin0).keep K3 nin0) ((Fc.keep K2 nin0).keep K3 nin0) ((Fn.keep K2 nin0).keep K3 nin0) ((Vb.keep K2 nin0).keep K3 nin0)) W3.warm (wd hw 145 rfl) (wd hw 59 rfl) (by decide) (by decide)) ((Xa.keep K2).keep K3) (by rw [hml]; rfl) [] [] (lenOf pd19 rfl) rfl rfl (Nat.le_of_eq rfl) 19 (hb hby d20_16) rfl (by decide) (by decide) (fun _ q => nomatch q) ?_
  intro v4 T4 h4 W4 K4 Ch4 Q4
  have H4 := W4.here; have z4 := K4.1
  obtain ⟨rfl, eh4⟩ := Q4
  show Goes p e below (PostN s Z h0 [t0] (QSbN Z cz t0 a b kb L h0) ({ frames := 3, cells := 1, slots := 16, locals := 110 } : Room).cells ({ frames := 3, cells := 1, slots := 16, locals := 110 } : Room).slots) (T4.setTop (mkF m 19 #[.val (.ref t0), .val (.ref a), .val .null, .val (.ref b), .val (.int (Int32.ofNat L.length))] [(.int (1 : Int32))]))
  refine G.ifN H4 hx 22 (hb hby d20_19) (zne (by decide)).1 rfl ?_
  refine G.aloadN H4 hx 23 (hb hby d20_22) rfl rfl rfl ?_
  refine G.iconst H4 hx 24 (0 : Int32) (hb hby d20_23) rfl rfl ?_
  refine Wk.putF W4 hx hoZ (wd hw 31 rfl) Via.refl (.int (0 : Int32)) (((Tc.keep K2 nin0).keep K3 nin0).keep K4 nin0) (((Et.keep K2).keep K3).keep K4) (Or.inr ⟨(wd hw 27 rfl), rfl, hnm⟩) (wd hw 11 rfl) (ty := .byte) (by decide) rfl rfl (Or.inl (by simp)) safe0 27 (hb hby d20_24) rfl ?_
  intro T5 h5 W5 R5 Ch5; have H5 := W5.here; have z5 := R5.size
  have F5 := ((((Tc.keep K2 nin0).keep K3 nin0).keep K4 nin0)).same R5
  refine G.aloadN H5 hx 28 (hb hby d20_27) rfl rfl rfl ?_
  refine G.aloadN H5 hx 29 (hb hby d20_28) rfl rfl rfl ?_
  refine G.iconst H5 hx 30 (0 : Int32) (hb hby d20_29) rfl rfl ?_
  refine G.iload H5 hx 32 (hb hby d20_30) rfl rfl ?_
  refine Wk.callS W5 hx hoZ (y := (⟨"java/util/Arrays", "copyOfRange", "([BII)[B"⟩ : MethodName)) (wd hw 146 rfl) (wd hw 147 rfl) (wd hw 148 rfl) (wd hw 149 rfl) (by decide) (Wd := 1) (CN.back (rmCR l Z a0 hw b kb 0 (Int32.ofNat L.length) 16 (sbl L) ((L.map OwnKit.i2b).map Value.int) h5 W5.old ((((Vb.keep K2 nin0).keep K3 nin0).keep K4 nin0).other R5 (neA (by omega))) sc.1.1 sc.1.2.1 sc.1.2.2.1 sc.1.2.2.2.1 sc.1.2.2.2.2 (sb_min hf) sc.2.1 sc.2.2) W5.warm (wd hw 149 rfl) (wd hw 148 rfl) (by decide) (by decide)) (by rw [hml]; rfl) [(.ref b), (.int (0 : Int32)), (.int (Int32.ofNat L.length))] [(.ref t0)] (lenOf pd17 rfl) rfl rfl (Nat.le_of_eq rfl) 35 (hb hby d20_32) rfl (by decide) (by decide) (fun _ q => nomatch q) ?_
  intro v6 T6 h6 W6 K6 Ch6 Q6
  have H6 := W6.here; have z6 := K6.1
  obtain ⟨r6, k6, rfl, g6, V6⟩ := Q6; have l6 := ltN V6.lt
  show Goes p e below (PostN s Z h0 [t0] (QSbN Z cz t0 a b kb L h0) ({ frames := 3, cells := 1, slots := 16, locals := 110 } : Room).cells ({ frames := 3, cells := 1, slots := 16, locals := 110 } : Room).slots) (T6.setTop (mkF m 35 #[.val (.ref t0), .val (.ref a), .val .null, .val (.ref b), .val (.int (Int32.ofNat L.length))] [(.ref r6), (.ref t0)]))
  refine Wk.putF W6 hx hoZ (wd hw 30 rfl) Via.refl (.ref r6) (((((Tv.keep K2 nin0).keep K3 nin0).keep K4 nin0).other R5 (Or.inr (slot_ne (Or.inr (wd hw 26 rfl)) (Or.inr (wd hw 27 rfl)) (by decide) (t := (.array .byte)) (t' := .byte) (by decide) (by decide)))).keep K6 nin0) (((((Et.keep K2).keep K3).keep K4).wr R5).keep K6) (Or.inr ⟨(wd hw 26 rfl), rfl, hnm⟩) (wd hw 11 rfl) (ty := (.array .byte)) (by decide) rfl rfl (Or.inl (by simp)) safe0 38 (hb hby d20_35) rfl ?_
  intro T7 h7 W7 R7 Ch7; have H7 := W7.here; have z7 := R7.size
  have F7 := ((((((Tv.keep K2 nin0).keep K3 nin0).keep K4 nin0).other R5 (Or.inr (slot_ne (Or.inr (wd hw 26 rfl)) (Or.inr (wd hw 27 rfl)) (by decide) (t := (.array .byte)) (t' := .byte) (by decide) (by decide)))).keep K6 nin0)).same R7
  refine G.goto H7 hx 97 (hb hby d20_38) (by decide) rfl ?_
  exact Wk.retV W7 hx hret hlk (hb hby d20_97) (by decide) (by decide) ⟨rfl, SV.ofLat ((((((Et.keep K2).keep K3).keep K4).wr R5).keep K6).wr R7) F7 ((F5.keep K6 nin0).other R7 (Or.inr (slot_ne (Or.inr (wd hw 27 rfl)) (Or.inr (wd hw 26 rfl)) (by decide) (t := .byte) (t' := (.array .byte)) (by decide) (by decide)))) (V6.other R7 (neA (by omega))) (Int32.sub_zero _) h8 (by omega)⟩
def QSbM (Z : State) (cz : Int32) (t0 : Addr) (a : Addr) (b : Addr) (kb : ClassId) (L : List Int32) (h0 : Heap) : Option Value → Heap → Prop := fun v h => v = none ∧ SV Z h t0 L
set_option maxRecDepth 65536 in
set_option maxHeartbeats 40000000 in
theorem rmSbM (l : Launch) (Z : State) (a0 : Array Value) (hw : ∀ d ∈ tables_1, d.before a0 Z = true) (cz : Int32) (t0 : Addr) (a : Addr) (b : Addr) (kb : ClassId) (L : List Int32) (h0 : Heap) (O : Ext Z.heap h0) (hCS : Sta Z Z.heap "java/lang/String" "COMPACT_STRINGS" "Z" (.int cz)) (hcz : ¬ cz = 0) (Xa : Exa Z h0 a "java/lang/StringBuilder") (Fv : Fld Z h0 a "java/lang/AbstractStringBuilder" "value" "[B" (.ref b)) (Fc : Fld Z h0 a "java/lang/AbstractStringBuilder" "coder" "B" (.int 0)) (Fn : Fld Z h0 a "java/lang/AbstractStringBuilder" "count" "I" (.int (Int32.ofNat L.length))) (Vb : Arv Z h0 b kb .byte 16 (sbl L) (.int 0)) (gz_t0 : Z.heap.size ≤ t0) (Et : Exa Z h0 t0 "java/lang/String") (Tv : Fld Z h0 t0 "java/lang/String" "value" "[B" .null) (Tc : Fld Z h0 t0 "java/lang/String" "coder" "B" (.int 0)) (h8 : ∀ c ∈ L, C8 c) (hf : L.length < 16) :
    CN [] l Z (⟨"java/lang/String", "<init>", "(Ljava/lang/StringBuilder;)V"⟩ : MethodName) jdk_42_method_53_code 2 (Option.none : Option Jvm.ClassFile.FieldType) ({ frames := 4, cells := 1, slots := 16, locals := 140 } : Room) #[(.ref t0), (.ref a)] h0 [t0] (QSbM Z cz t0 a b kb L h0) := by
  refine CN.of_walk (plainFor_of_name pn0) O (ala gz_t0 ala0) ?_
  intro p e s m below meth c T0 W0 hx hby hml hoZ hnm hret hlk
  have H0 := W0.here; have hz0 := W0.zsize
  refine Goes.cast (ef1 m t0 a) ?_
  have la := ltN Xa.lt; have lb := ltN Vb.lt; have nab := neN (Exa.neArv Xa Vb (wd hw 50 rfl))
  have lt0 := ltN Et.lt; have nta := neN (Exa.ne Et Xa (by decide)); have ntb := neN (Exa.neArv Et Vb (wd hw 11 rfl))
  refine G.aloadN H0 hx 1 (hb hby d19_0) rfl rfl rfl ?_
  refine G.aloadN H0 hx 2 (hb hby d19_1) rfl rfl rfl ?_
  refine G.aconstNull H0 hx 3 (hb hby d19_2) rfl ?_
  refine Wk.special W0 hx hoZ (y := (⟨"java/lang/String", "<init>", "(Ljava/lang/AbstractStringBuilder;Ljava/lang/Void;)V"⟩ : MethodName)) rfl (wd hw 125 rfl) (wd hw 126 rfl) (wd hw 127 rfl) (by decide) (Wd := 0) (CN.back (rmSbN l Z a0 hw cz t0 a b kb L h0 W0.old hCS hcz Xa Fv Fc Fn Vb (by omega) Et Tv Tc h8 hf) W0.warm (wd hw 127 rfl) (wd hw 12 rfl) (by decide) (by decide)) t0 (by rw [hml]; rfl) [(.ref a), .null] [] (lenOf pd20 rfl) rfl rfl (Nat.le_of_eq rfl) 6 (hb hby d19_3) rfl (by decide) (by decide) (hws1 (Or.inl (by simp)) safe0) ?_
  intro v1 T1 h1 W1 K1 Ch1 Q1
  have H1 := W1.here; have z1 := K1.1
  obtain ⟨rfl, Sv1⟩ := Q1
  show Goes p e below (PostN s Z h0 [t0] (QSbM Z cz t0 a b kb L h0) ({ frames := 4, cells := 1, slots := 16, locals := 140 } : Room).cells ({ frames := 4, cells := 1, slots := 16, locals := 140 } : Room).slots) (T1.setTop (mkF m 6 #[.val (.ref t0), .val (.ref a)] []))
  exact Wk.retV W1 hx hret hlk (hb hby d19_6) (by decide) (by decide) ⟨rfl, Sv1⟩
def QSbS (Z : State) (cz : Int32) (a : Addr) (b : Addr) (kb : ClassId) (L : List Int32) (h0 : Heap) : Option Value → Heap → Prop := fun v h => ∃ r : Addr, v = some (.ref r) ∧ h0.size ≤ r ∧ SV Z h r L
set_option maxRecDepth 65536 in
set_option maxHeartbeats 40000000 in
theorem rmSbS (l : Launch) (Z : State) (a0 : Array Value) (hw : ∀ d ∈ tables_1, d.before a0 Z = true) (cz : Int32) (a : Addr) (b : Addr) (kb : ClassId) (L : List Int32) (h0 : Heap) (O : Ext Z.heap h0) (hCS : Sta Z Z.heap "java/lang/String" "COMPACT_STRINGS" "Z" (.int cz)) (hcz : ¬ cz = 0) (Xa : Exa Z h0 a "java/lang/StringBuilder") (Fv : Fld Z h0 a "java/lang/AbstractStringBuilder" "value" "[B" (.ref b)) (Fc : Fld Z h0 a "java/lang/AbstractStringBuilder" "coder" "B" (.int 0)) (Fn : Fld Z h0 a "java/lang/AbstractStringBuilder" "count" "I" (.int (Int32.ofNat L.length))) (Vb : Arv Z h0 b kb .byte 16 (sbl L) (.int 0)) (h8 : ∀ c ∈ L, C8 c) (hf : L.length < 16) :
    CN [] l Z (⟨"java/lang/StringBuilder", "toString", "()Ljava/lang/String;"⟩ : MethodName) jdk_67_method_42_code 1 (Option.some (Jvm.ClassFile.FieldType.object "java/lang/String")) ({ frames := 5, cells := 2, slots := 20, locals := 170 } : Room) #[(.ref a)] h0 [] (QSbS Z cz a b kb L h0) := by
  refine CN.of_walk (plainFor_of_name pn5) O (fun _ q => nomatch q) ?_
  intro p e s m below meth c T0 W0 hx hby hml hoZ hnm hret hlk
  have H0 := W0.here; have hz0 := W0.zsize
  refine Goes.cast (ef6 m a) ?_
  have la := ltN Xa.lt; have lb := ltN Vb.lt; have nab := neN (Exa.neArv Xa Vb (wd hw 50 rfl))
  refine Wk.newO W0 hx hoZ (wd hw 121 rfl) (wd hw 11 rfl) (wd hw 12 rfl) 3 (hb hby d18_0) rfl (by decide) (by decide) ?_
  intro T1 h1 a1 W1 E1 g1 A1 D1 S1
  have H1 := W1.here; have z1 := E1.1; have gu1 := Nat.le_of_eq g1; have gt1 := Nat.le_of_eq g1.symm; have l1 := ltN A1.lt
  refine G.dup H1 hx 4 (hb hby d18_3) rfl rfl ?_
  refine G.aloadN H1 hx 5 (hb hby d18_4) rfl rfl rfl ?_
  refine Wk.special W1 hx hoZ (y := (⟨"java/lang/String", "<init>", "(Ljava/lang/StringBuilder;)V"⟩ : MethodName)) rfl (wd hw 122 rfl) (wd hw 123 rfl) (wd hw 124 rfl) (by decide) (Wd := 1) (CN.back (rmSbM l Z a0 hw cz a1 a b kb L h1 W1.old hCS hcz (Xa.ext E1) (Fv.ext E1) (Fc.ext E1) (Fn.ext E1) (Vb.ext E1) (by omega) A1 (D1 (Or.inr (wd hw 26 rfl)) (ty := (.array .byte)) (by decide)) (D1 (Or.inr (wd hw 27 rfl)) (ty := .byte) (by decide)) h8 hf) W1.warm (wd hw 124 rfl) (wd hw 12 rfl) (by decide) (by decide)) a1 (by rw [hml]; rfl) [(.ref a)] [(.ref a1)] (lenOf pd21 rfl) rfl rfl (Nat.le_of_eq rfl) 8 (hb hby d18_5) rfl (by decide) (by decide) (hws1 (Or.inr (by omega)) safe0) ?_
  intro v2 T2 h2 W2 K2 Ch2 Q2
  have H2 := W2.here; have z2 := K2.1
  obtain ⟨rfl, Sv2⟩ := Q2
  show Goes p e below (PostN s Z h0 [] (QSbS Z cz a b kb L h0) ({ frames := 5, cells := 2, slots := 20, locals := 170 } : Room).cells ({ frames := 5, cells := 2, slots := 20, locals := 170 } : Room).slots) (T2.setTop (mkF m 8 #[.val (.ref a)] [(.ref a1)]))
  exact Wk.retA W2 hx (t := (.object "java/lang/String")) rfl rfl hret hlk (hb hby d18_8) (by decide) (by decide) ⟨_, rfl, by omega, Sv2⟩
def QRqS (Z : State) (cz : Int32) (a : Addr) (pa : Addr) (oa : Addr) (ra : Addr) (P : List Int32) (O_ : List Int32) (R_ : List Int32) (h0 : Heap) : Option Value → Heap → Prop := fun v h => ∃ r : Addr, v = some (.ref r) ∧ h0.size ≤ r ∧ SV Z h r (((((([] : List Int32) ++ P) ++ ([(32 : Int32)] : List Int32)) ++ O_) ++ ([(32 : Int32)] : List Int32)) ++ R_)
set_option maxRecDepth 65536 in
set_option maxHeartbeats 40000000 in
theorem rmRqS (l : Launch) (Z : State) (a0 : Array Value) (hw : ∀ d ∈ tables_1, d.before a0 Z = true) (cz : Int32) (a : Addr) (pa : Addr) (oa : Addr) (ra : Addr) (P : List Int32) (O_ : List Int32) (R_ : List Int32) (h0 : Heap) (O : Ext Z.heap h0) (hCS : Sta Z Z.heap "java/lang/String" "COMPACT_STRINGS" "Z" (.int cz)) (hcz : ¬ cz = 0) (Ea : Exa Z h0 a "com/example/proper_grant/propergrant/bench/Request") (Fpa : Fld Z h0 a "com/example/proper_grant/propergrant/bench/Request" "principal" "Ljava/lang/String;" (.ref pa)) (Foa : Fld Z h0 a "com/example/proper_grant/propergrant/bench/Request" "operation" "Ljava/lang/String;" (.ref oa)) (Fra : Fld Z h0 a "com/example/proper_grant/propergrant/bench/Request" "resource" "Ljava/lang/String;" (.ref ra)) (Spa : SV Z h0 pa P) (Soa : SV Z h0 oa O_) (Sra : SV Z h0 ra R_) (epa : ∀ c ∈ P, C8 c) (eoa : ∀ c ∈ O_, C8 c) (era : ∀ c ∈ R_, C8 c) (npa : P.length ≤ 2) (noa : O_.length ≤ 2) (nra : R_.length ≤ 2) :
    CW [] l Z consts_1 (⟨"com/example/proper_grant/propergrant/bench/Request", "toString", "()Ljava/lang/String;"⟩ : MethodName) prog_20_method_6_code 1 (Option.some (Jvm.ClassFile.FieldType.object "java/lang/String")) ({ frames := 6, cells := 8, slots := 64, locals := 190 } : Room) #[(.ref a)] h0 [] (QRqS Z cz a pa oa ra P O_ R_ h0) := by
  refine CW.of_walk (plainFor_of_name pn3) O (fun _ q => nomatch q) ?_
  intro p e s m below meth c T0 W0 hsf hx hby hml hoZ hnm hret hlk
  have H0 := W0.here; have hz0 := W0.zsize; have hEL := elw hw
  refine Goes.cast (ef6 m a) ?_
  have la := ltN Ea.lt; have lpa := ltN Spa.lt; have loa := ltN Soa.lt; have lra := ltN Sra.lt
  refine Wk.newO W0 hx hoZ (wd hw 49 rfl) (wd hw 50 rfl) (wd hw 51 rfl) 3 (hb hby d7_0) rfl (by decide) (by decide) ?_
  intro T1 h1 a1 W1 E1 g1 A1 D1 S1
  have H1 := W1.here; have z1 := E1.1; have gu1 := Nat.le_of_eq g1; have gt1 := Nat.le_of_eq g1.symm; have l1 := ltN A1.lt
  refine G.dup H1 hx 4 (hb hby d7_3) rfl rfl ?_
  refine Wk.special W1 hx hoZ (y := (⟨"java/lang/StringBuilder", "<init>", "()V"⟩ : MethodName)) rfl (wd hw 52 rfl) (wd hw 53 rfl) (wd hw 54 rfl) (by decide) (Wd := 1) (CN.back (rmSbI l Z a0 hw cz a1 h1 W1.old hCS hcz (by omega) A1 (D1 (Or.inl (wd hw 64 rfl)) (ty := (.array .byte)) (by decide)) (D1 (Or.inl (wd hw 66 rfl)) (ty := .byte) (by decide)) (D1 (Or.inl (wd hw 89 rfl)) (ty := .int) (by decide))) W1.warm (wd hw 54 rfl) (wd hw 51 rfl) (by decide) (by decide)) a1 (by rw [hml]; rfl) [] [(.ref a1)] (lenOf pd22 rfl) rfl rfl (Nat.le_of_eq rfl) 7 (hb hby d7_4) rfl (by decide) (by decide) (hws1 (Or.inr (by omega)) S1) ?_
  intro v2 T2 h2 W2 K2 Ch2 Q2
  have H2 := W2.here; have z2 := K2.1
  obtain ⟨rfl, b2, k2, g2, X2, F2v, F2c, F2n, V2⟩ := Q2; have l2 := ltN V2.lt
  show Goes p e below (PostW s Z consts_1 h0 [] (QRqS Z cz a pa oa ra P O_ R_ h0) ({ frames := 6, cells := 8, slots := 64, locals := 190 } : Room).cells ({ frames := 6, cells := 8, slots := 64, locals := 190 } : Room).slots) (T2.setTop (mkF m 7 #[.val (.ref a)] [(.ref a1)]))
  refine G.aloadN H2 hx 8 (hb hby d7_7) rfl rfl rfl ?_
  refine Wk.getF W2 hx hoZ (host := "") (Or.inl (wd hw 36 rfl)) Via.refl ((Fpa.ext E1).keep K2 (ninS (neA (by omega)) nin0)) 11 (hb hby d7_8) rfl ?_
  intro T3 W3; have H3 := W3.here
  refine Wk.virtual W3 hx hoZ (y := (⟨"java/lang/StringBuilder", "append", "(Ljava/lang/String;)Ljava/lang/StringBuilder;"⟩ : MethodName)) (z := (⟨"java/lang/StringBuilder", "append", "(Ljava/lang/String;)Ljava/lang/StringBuilder;"⟩ : MethodName)) (wd hw 67 rfl) (wd hw 68 rfl) (wd hw 70 rfl) (wd hw 69 rfl) (W3.nf (wd hw 70 rfl)) (by decide) (Wd := 0) (CN.back (rmSbU l Z a0 hw a1 b2 k2 ([] : List Int32) cz pa P h2 W3.old hCS hcz X2 F2v F2c F2n V2 ((Spa.ext E1).keepX K2 (ala ⟨neA (by omega), NB.exa A1 (wd hw 50 rfl)⟩ (ala0))) epa (by simp only [List.length_append, List.length_cons, List.length_nil]; omega) (by omega) (by omega)) W3.warm (wd hw 71 rfl) (wd hw 51 rfl) (by decide) (by decide)) X2 (by rw [hml]; rfl) [(.ref pa)] [] (lenOf pd23 rfl) rfl rfl (Nat.le_of_eq rfl) 14 (hb hby d7_11) rfl (by decide) (by decide) (hws2 (Or.inr (by omega)) (Ch2.safe (ltA (by omega)) S1) (Or.inr (by omega)) (Safe.keep K2 (ala S1 ala0) W1.ch (Safe.new g2))) ?_
  intro v4 T4 h4 W4 K4 Ch4 Q4
  have H4 := W4.here; have z4 := K4.1
  obtain ⟨rfl, X4, F4v, F4c, F4n, V4⟩ := Q4
  show Goes p e below (PostW s Z consts_1 h0 [] (QRqS Z cz a pa oa ra P O_ R_ h0) ({ frames := 6, cells := 8, slots := 64, locals := 190 } : Room).cells ({ frames := 6, cells := 8, slots := 64, locals := 190 } : Room).slots) (T4.setTop (mkF m 14 #[.val (.ref a)] [(.ref a1)]))
  refine Wk.ldcE W4 hx hoZ (text := " ") (wd hw 115 rfl) (wsStr hw) hEL (by decide) (vs := [(.int (32 : Int32))]) (z := 1) ⟨by decide, by decide⟩ (by decide) (by decide) 16 (hb hby d7_14) rfl 4 (by decide) (by decide) (by decide) (by decide) ?_
  intro vm5 T5 h5 a5 b5 k5 W5 E5 Ch5 X5 F5c F5v V5 sep5
  have H5 := W5.here; have z5 := E5.1; have l5 := ltN X5.lt; have m5 := ltN V5.lt
  obtain ⟨nA5_a1, nB5_a1⟩ := sep5 a1 (Ch5.safe (ltA (by omega)) (Ch4.safe (ltA (by omega)) (Ch2.safe (ltA (by omega)) S1)))
  have pA5_a1 := neN nA5_a1; have pB5_a1 := neN nB5_a1
  obtain ⟨nA5_b2, nB5_b2⟩ := sep5 b2 (Ch5.safe (ltA (by omega)) (Ch4.safe (ltA (by omega)) (Safe.keep K2 (ala S1 ala0) W1.ch (Safe.new g2))))
  have pA5_b2 := neN nA5_b2; have pB5_b2 := neN nB5_b2
  refine Wk.virtual W5 hx hoZ (y := (⟨"java/lang/StringBuilder", "append", "(Ljava/lang/String;)Ljava/lang/StringBuilder;"⟩ : MethodName)) (z := (⟨"java/lang/StringBuilder", "append", "(Ljava/lang/String;)Ljava/lang/StringBuilder;"⟩ : MethodName)) (wd hw 67 rfl) (wd hw 68 rfl) (wd hw 70 rfl) (wd hw 69 rfl) (W5.nf (wd hw 70 rfl)) (by decide) (Wd := 0) (CN.back (rmSbU l Z a0 hw a1 b2 k2 (([] : List Int32) ++ P) cz a5 ([(32 : Int32)] : List Int32) h5 W5.old hCS hcz (X4.ext E5) (F4v.ext E5) (F4c.ext E5) (F4n.ext E5) (V4.ext E5) (SV.ofLat X5 F5v F5c V5 rfl (ala (C8.of (by decide)) (ala0)) (by decide)) (ala (C8.of (by decide)) ala0) (by simp only [List.length_append, List.length_cons, List.length_nil]; omega) (by omega) (by omega)) W5.warm (wd hw 71 rfl) (wd hw 51 rfl) (by decide) (by decide)) (X4.ext E5) (by rw [hml]; rfl) [(.ref a5)] [] (lenOf pd23 rfl) rfl rfl (Nat.le_of_eq rfl) 19 (hb hby d7_16) rfl (by decide) (by decide) (hws2 (Or.inr (by omega)) (Ch5.safe (ltA (by omega)) (Ch4.safe (ltA (by omega)) (Ch2.safe (ltA (by omega)) S1))) (Or.inr (by omega)) (Ch5.safe (ltA (by omega)) (Ch4.safe (ltA (by omega)) (Safe.keep K2 (ala S1 ala0) W1.ch (Safe.new g2))))) ?_
  intro v6 T6 h6 W6 K6 Ch6 Q6
  have H6 := W6.here; have z6 := K6.1
  obtain ⟨rfl, X6, F6v, F6c, F6n, V6⟩ := Q6
  show Goes p e below (PostW s Z consts_1 h0 [] (QRqS Z cz a pa oa ra P O_ R_ h0) ({ frames := 6, cells := 8, slots := 64, locals := 190 } : Room).cells ({ frames := 6, cells := 8, slots := 64, locals := 190 } : Room).slots) (T6.setTop (mkF m 19 #[.val (.ref a)] [(.ref a1)]))
  refine G.aloadN H6 hx 20 (hb hby d7_19) rfl rfl rfl ?_
  refine Wk.getF W6 hx hoZ (host := "") (Or.inl (wd hw 38 rfl)) Via.refl (((((Foa.ext E1).keep K2 (ninS (neA (by omega)) nin0)).keep K4 (ninS (neA (by omega)) (ninS (neA (by omega)) nin0))).ext E5).keep K6 (ninS (neA (by omega)) (ninS (neA (by omega)) nin0))) 23 (hb hby d7_20) rfl ?_
  intro T7 W7; have H7 := W7.here
  refine Wk.virtual W7 hx hoZ (y := (⟨"java/lang/StringBuilder", "append", "(Ljava/lang/String;)Ljava/lang/StringBuilder;"⟩ : MethodName)) (z := (⟨"java/lang/StringBuilder", "append", "(Ljava/lang/String;)Ljava/lang/StringBuilder;"⟩ : MethodName)) (wd hw 67 rfl) (wd hw 68 rfl) (wd hw 70 rfl) (wd hw 69 rfl) (W7.nf (wd hw 70 rfl)) (by decide) (Wd := 0) (CN.back (rmSbU l Z a0 hw a1 b2 k2 ((([] : List Int32) ++ P) ++ ([(32 : Int32)] : List Int32)) cz oa O_ h6 W7.old hCS hcz X6 F6v F6c F6n V6 (Soa.ext (keep_nil ((((((Keep.refl h0 []).ext E1).trans K2 (inr1 (by omega))).trans K4 (inr2 (by omega) (by omega))).ext E5).trans K6 (inr2 (by omega) (by omega))))) eoa (by simp only [List.length_append, List.length_cons, List.length_nil]; omega) (by omega) (by omega)) W7.warm (wd hw 71 rfl) (wd hw 51 rfl) (by decide) (by decide)) X6 (by rw [hml]; rfl) [(.ref oa)] [] (lenOf pd23 rfl) rfl rfl (Nat.le_of_eq rfl) 26 (hb hby d7_23) rfl (by decide) (by decide) (hws2 (Or.inr (by omega)) (Ch6.safe (ltA (by omega)) (Ch5.safe (ltA (by omega)) (Ch4.safe (ltA (by omega)) (Ch2.safe (ltA (by omega)) S1)))) (Or.inr (by omega)) (Ch6.safe (ltA (by omega)) (Ch5.safe (ltA (by omega)) (Ch4.safe (ltA (by omega)) (Safe.keep K2 (ala S1 ala0) W1.ch (Safe.new g2)))))) ?_
  intro v8 T8 h8 W8 K8 Ch8 Q8
  have H8 := W8.here; have z8 := K8.1
  obtain ⟨rfl, X8, F8v, F8c, F8n, V8⟩ := Q8
  show Goes p e below (PostW s Z consts_1 h0 [] (QRqS Z cz a pa oa ra P O_ R_ h0) ({ frames := 6, cells := 8, slots := 64, locals := 190 } : Room).cells ({ frames := 6, cells := 8, slots := 64, locals := 190 } : Room).slots) (T8.setTop (mkF m 26 #[.val (.ref a)] [(.ref a1)]))
  refine Wk.ldcE W8 hx hoZ (text := " ") (wd hw 115 rfl) (wsStr hw) hEL (by decide) (vs := [(.int (32 : Int32))]) (z := 1) ⟨by decide, by decide⟩ (by decide) (by decide) 28 (hb hby d7_26) rfl 4 (by decide) (by decide) (by decide) (by decide) ?_
  intro vm9 T9 h9 a9 b9 k9 W9 E9 Ch9 X9 F9c F9v V9 sep9
  have H9 := W9.here; have z9 := E9.1; have l9 := ltN X9.lt; have m9 := ltN V9.lt
  obtain ⟨nA9_a1, nB9_a1⟩ := sep9 a1 (Ch9.safe (ltA (by omega)) (Ch8.safe (ltA (by omega)) (Ch6.safe (ltA (by omega)) (Ch5.safe (ltA (by omega)) (Ch4.safe (ltA (by omega)) (Ch2.safe (ltA (by omega)) S1))))))
  have pA9_a1 := neN nA9_a1; have pB9_a1 := neN nB9_a1
  obtain ⟨nA9_b2, nB9_b2⟩ := sep9 b2 (Ch9.safe (ltA (by omega)) (Ch8.safe (ltA (by omega)) (Ch6.safe (ltA (by omega)) (Ch5.safe (ltA (by omega)) (Ch4.safe (ltA (by omega)) (Safe.keep K2 (ala S1 ala0) W1.ch (Safe.new g2)))))))
  have pA9_b2 := neN nA9_b2; have pB9_b2 := neN nB9_b2
  refine Wk.virtual W9 hx hoZ (y := (⟨"java/lang/StringBuilder", "append", "(Ljava/lang/String;)Ljava/lang/StringBuilder;"⟩ : MethodName)) (z := (⟨"java/lang/StringBuilder", "append", "(Ljava/lang/String;)Ljava/lang/StringBuilder;"⟩ : MethodName)) (wd hw 67 rfl) (wd hw 68 rfl) (wd hw 70 rfl) (wd hw 69 rfl) (W9.nf (wd hw 70 rfl)) (by decide) (Wd := 0) (CN.back (rmSbU l Z a0 hw a1 b2 k2 (((([] : List Int32) ++ P) ++ ([(32 : Int32)] : List Int32)) ++ O_) cz a9 ([(32 : Int32)] : List Int32) h9 W9.old hCS hcz (X8.ext E9) (F8v.ext E9) (F8c.ext E9) (F8n.ext E9) (V8.ext E9) (SV.ofLat X9 F9v F9c V9 rfl (ala (C8.of (by decide)) (ala0)) (by decide)) (ala (C8.of (by decide)) ala0) (by simp only [List.length_append, List.length_cons, List.length_nil]; omega) (by omega) (by omega)) W9.warm (wd hw 71 rfl) (wd hw 51 rfl) (by decide) (by decide)) (X8.ext E9) (by rw [hml]; rfl) [(.ref a9)] [] (lenOf pd23 rfl) rfl rfl (Nat.le_of_eq rfl) 31 (hb hby d7_28) rfl (by decide) (by decide) (hws2 (Or.inr (by omega)) (Ch9.safe (ltA (by omega)) (Ch8.safe (ltA (by omega)) (Ch6.safe (ltA (by omega)) (Ch5.safe (ltA (by omega)) (Ch4.safe (ltA (by omega)) (Ch2.safe (ltA (by omega)) S1)))))) (Or.inr (by omega)) (Ch9.safe (ltA (by omega)) (Ch8.safe (ltA (by omega)) (Ch6.safe (ltA (by omega)) (Ch5.safe (ltA (by omega)) (Ch4.safe (ltA (by omega)) (Safe.keep K2 (ala S1 ala0) W1.ch (Safe.new g2)))))))) ?_
  intro v10 T10 h10 W10 K10 Ch10 Q10
  have H10 := W10.here; have z10 := K10.1
  obtain ⟨rfl, X10, F10v, F10c, F10n, V10⟩ := Q10
  show Goes p e below (PostW s Z consts_1 h0 [] (QRqS Z cz a pa oa ra P O_ R_ h0) ({ frames := 6, cells := 8, slots := 64, locals := 190 } : Room).cells ({ frames := 6, cells := 8, slots := 64, locals := 190 } : Room).slots) (T10.setTop (mkF m 31 #[.val (.ref a)] [(.ref a1)]))
  refine G.aloadN H10 hx 32 (hb hby d7_31) rfl rfl rfl ?_
  refine Wk.getF W10 hx hoZ (host := "") (Or.inl (wd hw 40 rfl)) Via.refl ((((((((Fra.ext E1).keep K2 (ninS (neA (by omega)) nin0)).keep K4 (ninS (neA (by omega)) (ninS (neA (by omega)) nin0))).ext E5).keep K6 (ninS (neA (by omega)) (ninS (neA (by omega)) nin0))).keep K8 (ninS (neA (by omega)) (ninS (neA (by omega)) nin0))).ext E9).keep K10 (ninS (neA (by omega)) (ninS (neA (by omega)) nin0))) 35 (hb hby d7_32) rfl ?_
  intro T11 W11; have H11 := W11.here
  refine Wk.virtual W11 hx hoZ (y := (⟨"java/lang/StringBuilder", "append", "(Ljava/lang/String;)Ljava/lang/StringBuilder;"⟩ : MethodName)) (z := (⟨"java/lang/StringBuilder", "append", "(Ljava/lang/String;)Ljava/lang/StringBuilder;"⟩ : MethodName)) (wd hw 67 rfl) (wd hw 68 rfl) (wd hw 70 rfl) (wd hw 69 rfl) (W11.nf (wd hw 70 rfl)) (by decide) (Wd := 0) (CN.back (rmSbU l Z a0 hw a1 b2 k2 ((((([] : List Int32) ++ P) ++ ([(32 : Int32)] : List Int32)) ++ O_) ++ ([(32 : Int32)] : List Int32)) cz ra R_ h10 W11.old hCS hcz X10 F10v F10c F10n V10 (Sra.ext (keep_nil (((((((((Keep.refl h0 []).ext E1).trans K2 (inr1 (by omega))).trans K4 (inr2 (by omega) (by omega))).ext E5).trans K6 (inr2 (by omega) (by omega))).trans K8 (inr2 (by omega) (by omega))).ext E9).trans K10 (inr2 (by omega) (by omega))))) era (by simp only [List.length_append, List.length_cons, List.length_nil]; omega) (by omega) (by omega)) W11.warm (wd hw 71 rfl) (wd hw 51 rfl) (by decide) (by decide)) X10 (by rw [hml]; rfl) [(.ref ra)] [] (lenOf pd23 rfl) rfl rfl (Nat.le_of_eq rfl) 38 (hb hby d7_35) rfl (by decide) (by decide) (hws2 (Or.inr (by omega)) (Ch10.safe (ltA (by omega)) (Ch9.safe (ltA (by omega)) (Ch8.safe (ltA (by omega)) (Ch6.safe (ltA (by omega)) (Ch5.safe (ltA (by omega)) (Ch4.safe (ltA (by omega)) (Ch2.safe (ltA (by omega)) S1))))))) (Or.inr (by omega)) (Ch10.safe (ltA (by omega)) (Ch9.safe (ltA (by omega)) (Ch8.safe (ltA (by omega)) (Ch6.safe (ltA (by omega)) (Ch5.safe (ltA (by omega)) (Ch4.safe (ltA (by omega)) (Safe.keep K2 (ala S1 ala0) W1.ch (Safe.new g2))))))))) ?_
  intro v12 T12 h12 W12 K12 Ch12 Q12
  have H12 := W12.here; have z12 := K12.1
  obtain ⟨rfl, X12, F12v, F12c, F12n, V12⟩ := Q12
  show Goes p e below (PostW s Z consts_1 h0 [] (QRqS Z cz a pa oa ra P O_ R_ h0) ({ frames := 6, cells := 8, slots := 64, locals := 190 } : Room).cells ({ frames := 6, cells := 8, slots := 64, locals := 190 } : Room).slots) (T12.setTop (mkF m 38 #[.val (.ref a)] [(.ref a1)]))
  refine Wk.virtual W12 hx hoZ (y := (⟨"java/lang/StringBuilder", "toString", "()Ljava/lang/String;"⟩ : MethodName)) (z := (⟨"java/lang/StringBuilder", "toString", "()Ljava/lang/String;"⟩ : MethodName)) (wd hw 116 rfl) (wd hw 117 rfl) (wd hw 119 rfl) (wd hw 118 rfl) (W12.nf (wd hw 119 rfl)) (by decide) (Wd := 0) (CN.back (rmSbS l Z a0 hw cz a1 b2 k2 (((((([] : List Int32) ++ P) ++ ([(32 : Int32)] : List Int32)) ++ O_) ++ ([(32 : Int32)] : List Int32)) ++ R_) h12 W12.old hCS hcz X12 F12v F12c F12n V12 (c8_app (c8_app (c8_app (c8_app (c8_app ala0 epa) (ala (C8.of (by decide)) ala0)) eoa) (ala (C8.of (by decide)) ala0)) era) (by simp only [List.length_append, List.length_cons, List.length_nil]; omega)) W12.warm (wd hw 120 rfl) (wd hw 51 rfl) (by decide) (by decide)) X12 (by rw [hml]; rfl) [] [] (lenOf pd24 rfl) rfl rfl (Nat.le_of_eq rfl) 41 (hb hby d7_38) rfl (by decide) (by decide) (fun _ q => nomatch q) ?_
  intro v13 T13 h13 W13 K13 Ch13 Q13
  have H13 := W13.here; have z13 := K13.1
  obtain ⟨a13, rfl, g13, Sv13⟩ := Q13; have l13 := ltN Sv13.lt
  show Goes p e below (PostW s Z consts_1 h0 [] (QRqS Z cz a pa oa ra P O_ R_ h0) ({ frames := 6, cells := 8, slots := 64, locals := 190 } : Room).cells ({ frames := 6, cells := 8, slots := 64, locals := 190 } : Room).slots) (T13.setTop (mkF m 41 #[.val (.ref a)] [(.ref a13)]))
  exact Wk.retAW W13 hx hEL (t := (.object "java/lang/String")) rfl rfl hret hlk (hb hby d7_41) (by decide) (by decide) ⟨_, rfl, by omega, Sv13⟩
def QPut (Z : State) (ez : Addr) (ke : ClassId) (E : List Int32) (k : Int32) (x : Int32) (h0 : Heap) : Option Value → Heap → Prop := fun v h => v = some (.int (Int32.ofNat (E ++ nm x).length)) ∧ Arv Z h ez ke .char 8 (arN 8 (E ++ nm x)) (.int 0)
set_option maxRecDepth 65536 in
set_option maxHeartbeats 40000000 in
theorem rmPut (l : Launch) (Z : State) (a0 : Array Value) (hw : ∀ d ∈ tables_1, d.before a0 Z = true) (ez : Addr) (ke : ClassId) (E : List Int32) (k : Int32) (x : Int32) (h0 : Heap) (O : Ext Z.heap h0) (gz_ez : Z.heap.size ≤ ez) (Ve : Arv Z h0 ez ke .char 8 (arN 8 E) (.int 0)) (hE : E.length + 2 ≤ 8) (hk : k = Int32.ofNat E.length) :
    CN [] l Z (⟨"com/example/proper_grant/propergrant/bench/RequestToStringPinLaw", "put", "([CII)I"⟩ : MethodName) method_6_code 4 (Option.some Jvm.ClassFile.FieldType.int) ({ frames := 1, cells := 0, slots := 0, locals := 20 } : Room) #[(.ref ez), (.int k), (.int x)] h0 [ez] (QPut Z ez ke E k x h0) := by
  refine CN.of_walk (plainFor_of_name pn2) O (ala gz_ez ala0) ?_
  intro p e s m below meth c T0 W0 hx hby hml hoZ hnm hret hlk
  have H0 := W0.here; have hz0 := W0.zsize
  refine Goes.cast (ef16 m ez k x) ?_
  have le := ltN Ve.lt
  refine G.iloadN H0 hx 1 (hb hby d29_0) rfl rfl ?_
  refine Wk.callS W0 hx hoZ (y := (⟨"com/example/proper_grant/propergrant/bench/RequestToStringPinLaw", "len", "(I)I"⟩ : MethodName)) (wd hw 7 rfl) (wd hw 8 rfl) (wd hw 5 rfl) (wd hw 9 rfl) (by decide) (Wd := 0) (CN.back (rmlen l Z a0 hw x h0 W0.old ) W0.warm (wd hw 9 rfl) (wd hw 5 rfl) (by decide) (by decide)) (by rw [hml]; rfl) [(.int x)] [] (lenOf pd4 rfl) rfl rfl (Nat.le_of_eq rfl) 4 (hb hby d29_1) rfl (by decide) (by decide) (fun _ q => nomatch q) ?_
  intro v1 T1 h1 W1 K1 Ch1 Q1
  have H1 := W1.here; have z1 := K1.1
  obtain ⟨rfl, eh1⟩ := Q1
  show Goes p e below (PostN s Z h0 [ez] (QPut Z ez ke E k x h0) ({ frames := 1, cells := 0, slots := 0, locals := 20 } : Room).cells ({ frames := 1, cells := 0, slots := 0, locals := 20 } : Room).slots) (T1.setTop (mkF m 4 #[.val (.ref ez), .val (.int k), .val (.int x), .unset] [(.int (f_len x))]))
  rcases len3 x with en | en | en
  ·
    rw [en]
    refine G.istoreNX H1 hx 5 #[.val (.ref ez), .val (.int k), .val (.int x), .val (.int (0 : Int32))] (hb hby d29_4) rfl rfl ?_
    refine G.iloadN H1 hx 6 (hb hby d29_5) rfl rfl ?_
    refine G.ifY H1 hx 16 (hb hby d29_6) (zng (by decide)).2 (by decide) rfl ?_
    refine G.iloadN H1 hx 17 (hb hby d29_16) rfl rfl ?_
    refine G.iconst H1 hx 18 (1 : Int32) (hb hby d29_17) rfl rfl ?_
    refine G.icmpY H1 hx 30 (hb hby d29_18) (flt (by decide)).2.2.2 (by decide) rfl ?_
    refine G.iloadN H1 hx 31 (hb hby d29_30) rfl rfl ?_
    refine G.iloadN H1 hx 32 (hb hby d29_31) rfl rfl ?_
    refine G.iadd H1 hx 33 (hb hby d29_32) rfl ?_
    exact Wk.retI W1 hx hret hlk (hb hby d29_33) (by decide) (by decide) ⟨by have q : nm x = [] := (by simp [nm, en]); rw [q, hk]; simp, by have q : nm x = [] := (by simp [nm, en]); rw [q]; simpa using (Ve.keep K1 nin0)⟩
  ·
    rw [en]
    refine G.istoreNX H1 hx 5 #[.val (.ref ez), .val (.int k), .val (.int x), .val (.int (1 : Int32))] (hb hby d29_4) rfl rfl ?_
    refine G.iloadN H1 hx 6 (hb hby d29_5) rfl rfl ?_
    refine G.ifN H1 hx 9 (hb hby d29_6) (zgt (by decide)).2 rfl ?_
    refine G.aloadN H1 hx 10 (hb hby d29_9) rfl rfl rfl ?_
    refine G.iloadN H1 hx 11 (hb hby d29_10) rfl rfl ?_
    refine G.iloadN H1 hx 12 (hb hby d29_11) rfl rfl ?_
    refine Wk.callS W1 hx hoZ (y := (⟨"com/example/proper_grant/propergrant/bench/RequestToStringPinLaw", "c0", "(I)C"⟩ : MethodName)) (wd hw 190 rfl) (wd hw 191 rfl) (wd hw 5 rfl) (wd hw 192 rfl) (by decide) (Wd := 2) (CN.back (rmc0 l Z a0 hw x h1 W1.old ) W1.warm (wd hw 192 rfl) (wd hw 5 rfl) (by decide) (by decide)) (by rw [hml]; rfl) [(.int x)] [(.int k), (.ref ez)] (lenOf pd6 rfl) rfl rfl (Nat.le_of_eq rfl) 15 (hb hby d29_12) rfl (by decide) (by decide) (fun _ q => nomatch q) ?_
    intro v2 T2 h2 W2 K2 Ch2 Q2
    have H2 := W2.here; have z2 := K2.1
    obtain ⟨rfl, eh2⟩ := Q2
    show Goes p e below (PostN s Z h0 [ez] (QPut Z ez ke E k x h0) ({ frames := 1, cells := 0, slots := 0, locals := 20 } : Room).cells ({ frames := 1, cells := 0, slots := 0, locals := 20 } : Room).slots) (T2.setTop (mkF m 15 #[.val (.ref ez), .val (.int k), .val (.int x), .val (.int (1 : Int32))] [(.int (f_c0 x)), (.int k), (.ref ez)]))
    refine Wk.castore W2 hx ((Ve.keep K1 nin0).keep K2 nin0) (Or.inl (by simp)) (f_c0 x) (nar_c16 (c0_8 _).up) E.length (by rw [hk]; exact ofn_clamp (by first | omega | (simp only [List.length_append, List.length_cons, List.length_nil]; omega))) ⟨by rw [hk]; exact ofn_n0 (by first | omega | (simp only [List.length_append, List.length_cons, List.length_nil]; omega)), by rw [hk]; exact ofn_lt (L := 8) (by decide) (by first | omega | (simp only [List.length_append, List.length_cons, List.length_nil]; omega))⟩ (by rw [arN_len (by first | omega | (simp only [List.length_append, List.length_cons, List.length_nil]; omega))]; first | omega | (simp only [List.length_append, List.length_cons, List.length_nil]; omega)) 16 (hb hby d29_15) rfl ?_
    intro T3 h3 W3 K3 Ch3 V3; have H3 := W3.here; have z3 := K3.1
    rw [arN_set (by first | omega | (simp only [List.length_append, List.length_cons, List.length_nil]; omega))] at V3
    refine G.iloadN H3 hx 17 (hb hby d29_16) rfl rfl ?_
    refine G.iconst H3 hx 18 (1 : Int32) (hb hby d29_17) rfl rfl ?_
    refine G.icmpY H3 hx 30 (hb hby d29_18) (flt (by decide)).2.2.2 (by decide) rfl ?_
    refine G.iloadN H3 hx 31 (hb hby d29_30) rfl rfl ?_
    refine G.iloadN H3 hx 32 (hb hby d29_31) rfl rfl ?_
    refine G.iadd H3 hx 33 (hb hby d29_32) rfl ?_
    exact Wk.retI W3 hx hret hlk (hb hby d29_33) (by decide) (by decide) ⟨by have q : nm x = [f_c0 x] := (by simp [nm, en]); rw [q, hk]; rw [ofn_snoc], by have q : nm x = [f_c0 x] := (by simp [nm, en]); rw [q]; exact V3⟩
  ·
    rw [en]
    refine G.istoreNX H1 hx 5 #[.val (.ref ez), .val (.int k), .val (.int x), .val (.int (2 : Int32))] (hb hby d29_4) rfl rfl ?_
    refine G.iloadN H1 hx 6 (hb hby d29_5) rfl rfl ?_
    refine G.ifN H1 hx 9 (hb hby d29_6) (zgt (by decide)).2 rfl ?_
    refine G.aloadN H1 hx 10 (hb hby d29_9) rfl rfl rfl ?_
    refine G.iloadN H1 hx 11 (hb hby d29_10) rfl rfl ?_
    refine G.iloadN H1 hx 12 (hb hby d29_11) rfl rfl ?_
    refine Wk.callS W1 hx hoZ (y := (⟨"com/example/proper_grant/propergrant/bench/RequestToStringPinLaw", "c0", "(I)C"⟩ : MethodName)) (wd hw 190 rfl) (wd hw 191 rfl) (wd hw 5 rfl) (wd hw 192 rfl) (by decide) (Wd := 2) (CN.back (rmc0 l Z a0 hw x h1 W1.old ) W1.warm (wd hw 192 rfl) (wd hw 5 rfl) (by decide) (by decide)) (by rw [hml]; rfl) [(.int x)] [(.int k), (.ref ez)] (lenOf pd6 rfl) rfl rfl (Nat.le_of_eq rfl) 15 (hb hby d29_12) rfl (by decide) (by decide) (fun _ q => nomatch q) ?_
    intro v4 T4 h4 W4 K4 Ch4 Q4
    have H4 := W4.here; have z4 := K4.1
    obtain ⟨rfl, eh4⟩ := Q4
    show Goes p e below (PostN s Z h0 [ez] (QPut Z ez ke E k x h0) ({ frames := 1, cells := 0, slots := 0, locals := 20 } : Room).cells ({ frames := 1, cells := 0, slots := 0, locals := 20 } : Room).slots) (T4.setTop (mkF m 15 #[.val (.ref ez), .val (.int k), .val (.int x), .val (.int (2 : Int32))] [(.int (f_c0 x)), (.int k), (.ref ez)]))
    refine Wk.castore W4 hx ((Ve.keep K1 nin0).keep K4 nin0) (Or.inl (by simp)) (f_c0 x) (nar_c16 (c0_8 _).up) E.length (by rw [hk]; exact ofn_clamp (by first | omega | (simp only [List.length_append, List.length_cons, List.length_nil]; omega))) ⟨by rw [hk]; exact ofn_n0 (by first | omega | (simp only [List.length_append, List.length_cons, List.length_nil]; omega)), by rw [hk]; exact ofn_lt (L := 8) (by decide) (by first | omega | (simp only [List.length_append, List.length_cons, List.length_nil]; omega))⟩ (by rw [arN_len (by first | omega | (simp only [List.length_append, List.length_cons, List.length_nil]; omega))]; first | omega | (simp only [List.length_append, List.length_cons, List.length_nil]; omega)) 16 (hb hby d29_15) rfl ?_
    intro T5 h5 W5 K5 Ch5 V5; have H5 := W5.here; have z5 := K5.1
    rw [arN_set (by first | omega | (simp only [List.length_append, List.length_cons, List.length_nil]; omega))] at V5
    refine G.iloadN H5 hx 17 (hb hby d29_16) rfl rfl ?_
    refine G.iconst H5 hx 18 (1 : Int32) (hb hby d29_17) rfl rfl ?_
    refine G.icmpN H5 hx 21 (hb hby d29_18) (tlt (by decide)).2.2.2 rfl ?_
    refine G.aloadN H5 hx 22 (hb hby d29_21) rfl rfl rfl ?_
    refine G.iloadN H5 hx 23 (hb hby d29_22) rfl rfl ?_
    refine G.iconst H5 hx 24 (1 : Int32) (hb hby d29_23) rfl rfl ?_
    refine G.iadd H5 hx 25 (hb hby d29_24) rfl ?_
    refine G.iloadN H5 hx 26 (hb hby d29_25) rfl rfl ?_
    refine Wk.callS W5 hx hoZ (y := (⟨"com/example/proper_grant/propergrant/bench/RequestToStringPinLaw", "c1", "(I)C"⟩ : MethodName)) (wd hw 206 rfl) (wd hw 207 rfl) (wd hw 5 rfl) (wd hw 208 rfl) (by decide) (Wd := 2) (CN.back (rmc1 l Z a0 hw x h5 W5.old ) W5.warm (wd hw 208 rfl) (wd hw 5 rfl) (by decide) (by decide)) (by rw [hml]; rfl) [(.int x)] [(.int (k + (1 : Int32))), (.ref ez)] (lenOf pd6 rfl) rfl rfl (Nat.le_of_eq rfl) 29 (hb hby d29_26) rfl (by decide) (by decide) (fun _ q => nomatch q) ?_
    intro v6 T6 h6 W6 K6 Ch6 Q6
    have H6 := W6.here; have z6 := K6.1
    obtain ⟨rfl, eh6⟩ := Q6
    show Goes p e below (PostN s Z h0 [ez] (QPut Z ez ke E k x h0) ({ frames := 1, cells := 0, slots := 0, locals := 20 } : Room).cells ({ frames := 1, cells := 0, slots := 0, locals := 20 } : Room).slots) (T6.setTop (mkF m 29 #[.val (.ref ez), .val (.int k), .val (.int x), .val (.int (2 : Int32))] [(.int (f_c1 x)), (.int (k + (1 : Int32))), (.ref ez)]))
    refine Wk.castore W6 hx (V5.keep K6 nin0) (Or.inl (by simp)) (f_c1 x) (nar_c16 (c1_8 _).up) (E ++ [(f_c0 x)]).length (by rw [hk, ofn_snoc _ (f_c0 x)]; exact ofn_clamp (by first | omega | (simp only [List.length_append, List.length_cons, List.length_nil]; omega))) ⟨by rw [hk, ofn_snoc _ (f_c0 x)]; exact ofn_n0 (by first | omega | (simp only [List.length_append, List.length_cons, List.length_nil]; omega)), by rw [hk, ofn_snoc _ (f_c0 x)]; exact ofn_lt (L := 8) (by decide) (by first | omega | (simp only [List.length_append, List.length_cons, List.length_nil]; omega))⟩ (by rw [arN_len (by first | omega | (simp only [List.length_append, List.length_cons, List.length_nil]; omega))]; first | omega | (simp only [List.length_append, List.length_cons, List.length_nil]; omega)) 30 (hb hby d29_29) rfl ?_
    intro T7 h7 W7 K7 Ch7 V7; have H7 := W7.here; have z7 := K7.1
    rw [arN_set (by first | omega | (simp only [List.length_append, List.length_cons, List.length_nil]; omega))] at V7
    refine G.iloadN H7 hx 31 (hb hby d29_30) rfl rfl ?_
    refine G.iloadN H7 hx 32 (hb hby d29_31) rfl rfl ?_
    refine G.iadd H7 hx 33 (hb hby d29_32) rfl ?_
    exact Wk.retI W7 hx hret hlk (hb hby d29_33) (by decide) (by decide) ⟨by have q : nm x = [f_c0 x, f_c1 x] := (by simp [nm, en]); rw [q, hk]; rw [List.length_append]; exact congrArg _ (congrArg _ (ofn_add _ 2)), by have q : nm x = [f_c0 x, f_c1 x] := (by simp [nm, en]); rw [q]; have z := V7; rw [List.append_assoc] at z; exact z⟩
def QAt (Z : State) (cz : Int32) (fm : Value) (s0 : Addr) (ez : Addr) (ke : ClassId) (M : List Int32) (i : Nat) (x : Int32) (h0 : Heap) : Option Value → Heap → Prop := fun v h => v = some (.int 1) ∧ h = h0
set_option maxRecDepth 65536 in
set_option maxHeartbeats 40000000 in
theorem rmAt (l : Launch) (Z : State) (a0 : Array Value) (hw : ∀ d ∈ tables_1, d.before a0 Z = true) (cz : Int32) (fm : Value) (s0 : Addr) (ez : Addr) (ke : ClassId) (M : List Int32) (i : Nat) (x : Int32) (h0 : Heap) (O : Ext Z.heap h0) (hCS : Sta Z Z.heap "java/lang/String" "COMPACT_STRINGS" "Z" (.int cz)) (hcz : ¬ cz = 0) (hFM : Sta Z Z.heap "jdk/internal/util/Preconditions" "SIOOBE_FORMATTER" "Ljava/util/function/BiFunction;" fm) (hfm : fm.isRef = true) (Ss : SV Z h0 s0 M) (h8 : ∀ c ∈ M, C8 c) (Ve : Arv Z h0 ez ke .char 8 (arN 8 M) (.int 0)) (hM : M.length ≤ 8) (hi : i < 8) (hx0 : x = Int32.ofNat i) :
    CN [] l Z (⟨"com/example/proper_grant/propergrant/bench/RequestToStringPinLaw", "at", "(Ljava/lang/String;[CII)Z"⟩ : MethodName) method_7_code 4 (Option.some Jvm.ClassFile.FieldType.boolean) ({ frames := 5, cells := 0, slots := 0, locals := 80 } : Room) #[(.ref s0), (.ref ez), (.int (Int32.ofNat M.length)), (.int x)] h0 [] (QAt Z cz fm s0 ez ke M i x h0) := by
  refine CN.of_walk (plainFor_of_name pn2) O (fun _ q => nomatch q) ?_
  intro p e s m below meth c T0 W0 hx hby hml hoZ hnm hret hlk
  have H0 := W0.here; have hz0 := W0.zsize
  refine Goes.cast (ef9 m s0 ez (Int32.ofNat M.length) x) ?_
  have le := ltN Ve.lt; have ls0 := ltN Ss.lt
  refine G.iloadN H0 hx 1 (hb hby d30_0) rfl rfl ?_
  refine G.iloadN H0 hx 2 (hb hby d30_1) rfl rfl ?_
  by_cases c2_1 : x < (Int32.ofNat M.length)
  ·
    refine G.icmpN H0 hx 5 (hb hby d30_2) (tlt c2_1).2.1 rfl ?_
    refine G.aloadN H0 hx 6 (hb hby d30_5) rfl rfl rfl ?_
    refine G.iloadN H0 hx 7 (hb hby d30_6) rfl rfl ?_
    refine Wk.virtual W0 hx hoZ (y := (⟨"java/lang/String", "charAt", "(I)C"⟩ : MethodName)) (z := (⟨"java/lang/String", "charAt", "(I)C"⟩ : MethodName)) (wd hw 168 rfl) (wd hw 169 rfl) (wd hw 171 rfl) (wd hw 170 rfl) (W0.nf (wd hw 171 rfl)) (by decide) (Wd := 0) (chS W0.warm (wsCh hw) (wd hw 11 rfl) W0.old Ss h8 hCS hcz hFM hfm i (lt_of_ofn (by omega) (by omega) (hx0 ▸ c2_1)) hx0 (by decide) (by decide)) Ss.exa (by rw [hml]; rfl) [(.int x)] [] (lenOf pd6 rfl) rfl rfl (Nat.le_of_eq rfl) 10 (hb hby d30_7) rfl (by decide) (by decide) (fun _ q => nomatch q) ?_
    intro v2 T2 h2 W2 K2 Ch2 Q2
    have H2 := W2.here; have z2 := K2.1
    obtain ⟨rfl, eh2⟩ := Q2
    show Goes p e below (PostN s Z h0 [] (QAt Z cz fm s0 ez ke M i x h0) ({ frames := 5, cells := 0, slots := 0, locals := 80 } : Room).cells ({ frames := 5, cells := 0, slots := 0, locals := 80 } : Room).slots) (T2.setTop (mkF m 10 #[.val (.ref s0), .val (.ref ez), .val (.int (Int32.ofNat M.length)), .val (.int x)] [(.int (M.getD i 0))]))
    refine G.aloadN H2 hx 11 (hb hby d30_10) rfl rfl rfl ?_
    refine G.iloadN H2 hx 12 (hb hby d30_11) rfl rfl ?_
    refine Wk.caload W2 hx (Ve.keep K2 nin0) ⟨by rw [hx0]; exact ofn_n0 (by omega), by rw [hx0]; exact ofn_lt (L := 8) (by decide) hi⟩ (.int (M.getD i 0)) (by rw [hx0, ofn_clamp (by omega)]; exact arN_get (lt_of_ofn (by omega) (by omega) (hx0 ▸ c2_1))) 13 (hb hby d30_12) rfl ?_
    refine G.icmpN H2 hx 16 (hb hby d30_13) (teq rfl).2 rfl ?_
    refine G.iconst H2 hx 17 (1 : Int32) (hb hby d30_16) rfl rfl ?_
    refine G.goto H2 hx 21 (hb hby d30_17) (by decide) rfl ?_
    exact Wk.retN W2 hx (1 : Int32) (t := .boolean) rfl (by simp) hret hlk (hb hby d30_21) (by decide) (by decide) ⟨rfl, (by rw [eh2])⟩
  ·
    refine G.icmpY H0 hx 16 (hb hby d30_2) (flt c2_1).2.1 (by decide) rfl ?_
    refine G.iconst H0 hx 17 (1 : Int32) (hb hby d30_16) rfl rfl ?_
    refine G.goto H0 hx 21 (hb hby d30_17) (by decide) rfl ?_
    exact Wk.retN W0 hx (1 : Int32) (t := .boolean) rfl (by simp) hret hlk (hb hby d30_21) (by decide) (by decide) ⟨rfl, rfl⟩
def Q0 (Z : State) (cz : Int32) (fm : Value) (p0 : Int32) (p1 : Int32) (p2 : Int32) (p3 : Int32) (h0 : Heap) : Option Value → Heap → Prop := fun v h => v = some (.int 1)
set_option maxRecDepth 65536 in
set_option maxHeartbeats 40000000 in
theorem rm0 (l : Launch) (Z : State) (a0 : Array Value) (hw : ∀ d ∈ tables_1, d.before a0 Z = true) (cz : Int32) (fm : Value) (p0 : Int32) (p1 : Int32) (p2 : Int32) (p3 : Int32) (h0 : Heap) (O : Ext Z.heap h0) (hCS : Sta Z Z.heap "java/lang/String" "COMPACT_STRINGS" "Z" (.int cz)) (hcz : ¬ cz = 0) (hFM : Sta Z Z.heap "jdk/internal/util/Preconditions" "SIOOBE_FORMATTER" "Ljava/util/function/BiFunction;" fm) (hfm : fm.isRef = true) :
    CW tables_1 l Z consts_1 x code maxLocals ret room_1 #[(.int p0), (.int p1), (.int p2), (.int p3)] h0 [] (Q0 Z cz fm p0 p1 p2 p3 h0) := by
  refine CW.of_walk (plainFor_of_name pn2) O (fun _ q => nomatch q) ?_
  intro p e s m below meth c T0 W0 hsf hx hby hml hoZ hnm hret hlk
  have H0 := W0.here; have hz0 := W0.zsize; have hEL := elw hw
  refine Goes.cast (ef17 m p0 p1 p2 p3) ?_
  refine G.iloadN H0 hx 1 (hb hby at_0) rfl rfl ?_
  refine G.iconst H0 hx 2 (1 : Int32) (hb hby at_1) rfl rfl ?_
  refine G.iand H0 hx 3 (hb hby at_2) rfl ?_
  have J11_2 : ∀ (b1 : Int32) (hb1 : b1 = (if (p3 &&& (1 : Int32)) = 0 then (0 : Int32) else (1 : Int32))), Goes p e below (PostW s Z consts_1 h0 [] (Q0 Z cz fm p0 p1 p2 p3 h0) room_1.cells room_1.slots) (T0.setTop (mkF m 11 #[.val (.int p0), .val (.int p1), .val (.int p2), .val (.int p3), .unset, .unset, .unset, .unset, .unset] [(.int b1)])) := by
    intro b1 hb1
    refine G.istoreX H0 hx 13 #[.val (.int p0), .val (.int p1), .val (.int p2), .val (.int p3), .val (.int b1), .unset, .unset, .unset, .unset] (hb hby at_11) rfl rfl ?_
    refine Wk.newO W0 hx hoZ (wd hw 0 rfl) (wd hw 1 rfl) (wd hw 2 rfl) 16 (hb hby at_13) rfl (by decide) (by decide) ?_
    intro T3 h3 a3 W3 E3 g3 A3 D3 S3
    have H3 := W3.here; have z3 := E3.1; have gu3 := Nat.le_of_eq g3; have gt3 := Nat.le_of_eq g3.symm; have l3 := ltN A3.lt
    refine G.dup H3 hx 17 (hb hby at_16) rfl rfl ?_
    refine G.iloadN H3 hx 18 (hb hby at_17) rfl rfl ?_
    refine Wk.callSW W3 hx hoZ (y := (⟨"com/example/proper_grant/propergrant/bench/RequestToStringPinLaw", "name", "(I)Ljava/lang/String;"⟩ : MethodName)) (wd hw 3 rfl) (wd hw 4 rfl) (wd hw 5 rfl) (wd hw 6 rfl) (by decide) (Wd := 2) (CW.back (rmMk l Z a0 hw cz p0 h3 W3.old hCS hcz) W3.warm (wd hw 6 rfl) (wd hw 5 rfl) (by decide) (by decide) hEL W3.ch (fun _ q => nomatch q) (fun _ q => nomatch q)) (by rw [hml]; rfl) [(.int p0)] [(.ref a3), (.ref a3)] (lenOf pd25 rfl) rfl rfl (Nat.le_of_eq rfl) 21 (hb hby at_18) rfl (by decide) (by decide) (fun _ q => nomatch q) ?_
    intro v4 vm4 T4 h4 W4 K4 Ch4 Q4
    have H4 := W4.here; have z4 := K4.1
    obtain ⟨a4, rfl, g4, Sv4⟩ := Q4; have l4 := ltN Sv4.lt
    show Goes p e below (PostW s Z consts_1 h0 [] (Q0 Z cz fm p0 p1 p2 p3 h0) room_1.cells room_1.slots) (T4.setTop (mkF m 21 #[.val (.int p0), .val (.int p1), .val (.int p2), .val (.int p3), .val (.int b1), .unset, .unset, .unset, .unset] [(.ref a4), (.ref a3), (.ref a3)]))
    refine G.iloadN H4 hx 22 (hb hby at_21) rfl rfl ?_
    refine Wk.callSW W4 hx hoZ (y := (⟨"com/example/proper_grant/propergrant/bench/RequestToStringPinLaw", "name", "(I)Ljava/lang/String;"⟩ : MethodName)) (wd hw 3 rfl) (wd hw 4 rfl) (wd hw 5 rfl) (wd hw 6 rfl) (by decide) (Wd := 3) (CW.back (rmMk l Z a0 hw cz p1 h4 W4.old hCS hcz) W4.warm (wd hw 6 rfl) (wd hw 5 rfl) (by decide) (by decide) hEL W4.ch (fun _ q => nomatch q) (fun _ q => nomatch q)) (by rw [hml]; rfl) [(.int p1)] [(.ref a4), (.ref a3), (.ref a3)] (lenOf pd25 rfl) rfl rfl (Nat.le_of_eq rfl) 25 (hb hby at_22) rfl (by decide) (by decide) (fun _ q => nomatch q) ?_
    intro v5 vm5 T5 h5 W5 K5 Ch5 Q5
    have H5 := W5.here; have z5 := K5.1
    obtain ⟨a5, rfl, g5, Sv5⟩ := Q5; have l5 := ltN Sv5.lt
    show Goes p e below (PostW s Z consts_1 h0 [] (Q0 Z cz fm p0 p1 p2 p3 h0) room_1.cells room_1.slots) (T5.setTop (mkF m 25 #[.val (.int p0), .val (.int p1), .val (.int p2), .val (.int p3), .val (.int b1), .unset, .unset, .unset, .unset] [(.ref a5), (.ref a4), (.ref a3), (.ref a3)]))
    refine G.iloadN H5 hx 26 (hb hby at_25) rfl rfl ?_
    refine Wk.callSW W5 hx hoZ (y := (⟨"com/example/proper_grant/propergrant/bench/RequestToStringPinLaw", "name", "(I)Ljava/lang/String;"⟩ : MethodName)) (wd hw 3 rfl) (wd hw 4 rfl) (wd hw 5 rfl) (wd hw 6 rfl) (by decide) (Wd := 4) (CW.back (rmMk l Z a0 hw cz p2 h5 W5.old hCS hcz) W5.warm (wd hw 6 rfl) (wd hw 5 rfl) (by decide) (by decide) hEL W5.ch (fun _ q => nomatch q) (fun _ q => nomatch q)) (by rw [hml]; rfl) [(.int p2)] [(.ref a5), (.ref a4), (.ref a3), (.ref a3)] (lenOf pd25 rfl) rfl rfl (Nat.le_of_eq rfl) 29 (hb hby at_26) rfl (by decide) (by decide) (fun _ q => nomatch q) ?_
    intro v6 vm6 T6 h6 W6 K6 Ch6 Q6
    have H6 := W6.here; have z6 := K6.1
    obtain ⟨a6, rfl, g6, Sv6⟩ := Q6; have l6 := ltN Sv6.lt
    show Goes p e below (PostW s Z consts_1 h0 [] (Q0 Z cz fm p0 p1 p2 p3 h0) room_1.cells room_1.slots) (T6.setTop (mkF m 29 #[.val (.int p0), .val (.int p1), .val (.int p2), .val (.int p3), .val (.int b1), .unset, .unset, .unset, .unset] [(.ref a6), (.ref a5), (.ref a4), (.ref a3), (.ref a3)]))
    refine G.iload H6 hx 31 (hb hby at_29) rfl rfl ?_
    refine Wk.special W6 hx hoZ (y := (⟨"com/example/proper_grant/propergrant/bench/Request", "<init>", "(Ljava/lang/String;Ljava/lang/String;Ljava/lang/String;Z)V"⟩ : MethodName)) rfl (wd hw 32 rfl) (wd hw 33 rfl) (wd hw 34 rfl) (by decide) (Wd := 1) (CN.back (rmRin l Z a0 hw a3 (.ref a4) (.ref a5) (.ref a6) b1 h6 W6.old (by omega) (((A3.keep K4).keep K5).keep K6) rfl rfl rfl (own_b hb1) ((((D3 (Or.inr (wd hw 37 rfl)) (ty := (.object "java/lang/String")) (by decide)).keep K4 nin0).keep K5 nin0).keep K6 nin0) ((((D3 (Or.inr (wd hw 39 rfl)) (ty := (.object "java/lang/String")) (by decide)).keep K4 nin0).keep K5 nin0).keep K6 nin0) ((((D3 (Or.inr (wd hw 41 rfl)) (ty := (.object "java/lang/String")) (by decide)).keep K4 nin0).keep K5 nin0).keep K6 nin0) ((((D3 (Or.inr (wd hw 43 rfl)) (ty := .boolean) (by decide)).keep K4 nin0).keep K5 nin0).keep K6 nin0)) W6.warm (wd hw 34 rfl) (wd hw 2 rfl) (by decide) (by decide)) a3 (by rw [hml]; rfl) [(.ref a4), (.ref a5), (.ref a6), (.int b1)] [(.ref a3)] (lenOf pd26 rfl) rfl rfl (Nat.le_of_eq rfl) 34 (hb hby at_31) rfl (by decide) (by decide) (hws1 (Or.inr (by omega)) (Ch6.safe (ltA (by omega)) (Ch5.safe (ltA (by omega)) (Ch4.safe (ltA (by omega)) S3)))) ?_
    intro v7 T7 h7 W7 K7 Ch7 Q7
    have H7 := W7.here; have z7 := K7.1
    obtain ⟨rfl, X7, F7_principal, F7_operation, F7_resource, F7_granted⟩ := Q7
    show Goes p e below (PostW s Z consts_1 h0 [] (Q0 Z cz fm p0 p1 p2 p3 h0) room_1.cells room_1.slots) (T7.setTop (mkF m 34 #[.val (.int p0), .val (.int p1), .val (.int p2), .val (.int p3), .val (.int b1), .unset, .unset, .unset, .unset] [(.ref a3)]))
    refine G.astore H7 hx 36 #[.val (.int p0), .val (.int p1), .val (.int p2), .val (.int p3), .val (.int b1), .val (.ref a3), .unset, .unset, .unset] (hb hby at_34) rfl rfl rfl ?_
    refine G.aload H7 hx 38 (hb hby at_36) rfl rfl rfl ?_
    refine Wk.virtualW W7 hx hoZ (y := (⟨"com/example/proper_grant/propergrant/bench/Request", "toString", "()Ljava/lang/String;"⟩ : MethodName)) (z := (⟨"com/example/proper_grant/propergrant/bench/Request", "toString", "()Ljava/lang/String;"⟩ : MethodName)) (wd hw 44 rfl) (wd hw 45 rfl) (wd hw 47 rfl) (wd hw 46 rfl) (W7.nf (wd hw 47 rfl)) (by decide) (Wd := 0) (CW.back (rmRqS l Z a0 hw cz a3 a4 a5 a6 (nm p0) (nm p1) (nm p2) h7 W7.old hCS hcz X7 F7_principal F7_operation F7_resource (((Sv4.keepX K5 ala0).keepX K6 ala0).keepX K7 (ala ⟨neA (by omega), NB.exa (((A3.keep K4).keep K5).keep K6) (wd hw 1 rfl)⟩ (ala0))) ((Sv5.keepX K6 ala0).keepX K7 (ala ⟨neA (by omega), NB.exa (((A3.keep K4).keep K5).keep K6) (wd hw 1 rfl)⟩ (ala0))) (Sv6.keepX K7 (ala ⟨neA (by omega), NB.exa (((A3.keep K4).keep K5).keep K6) (wd hw 1 rfl)⟩ (ala0))) (nm_8 p0) (nm_8 p1) (nm_8 p2) (nm_len p0) (nm_len p1) (nm_len p2)) W7.warm (wd hw 48 rfl) (wd hw 2 rfl) (by decide) (by decide) hEL W7.ch (fun _ q => nomatch q) (fun _ q => nomatch q)) X7 (by rw [hml]; rfl) [] [] (lenOf pd24 rfl) rfl rfl (Nat.le_of_eq rfl) 41 (hb hby at_38) rfl (by decide) (by decide) (fun _ q => nomatch q) ?_
    intro v8 vm8 T8 h8 W8 K8 Ch8 Q8
    have H8 := W8.here; have z8 := K8.1
    obtain ⟨a8, rfl, g8, Sv8⟩ := Q8; have l8 := ltN Sv8.lt
    show Goes p e below (PostW s Z consts_1 h0 [] (Q0 Z cz fm p0 p1 p2 p3 h0) room_1.cells room_1.slots) (T8.setTop (mkF m 41 #[.val (.int p0), .val (.int p1), .val (.int p2), .val (.int p3), .val (.int b1), .val (.ref a3), .unset, .unset, .unset] [(.ref a8)]))
    refine G.astore H8 hx 43 #[.val (.int p0), .val (.int p1), .val (.int p2), .val (.int p3), .val (.int b1), .val (.ref a3), .val (.ref a8), .unset, .unset] (hb hby at_41) rfl rfl rfl ?_
    refine G.bipush H8 hx 45 (8 : Int32) (hb hby at_43) rfl rfl ?_
    refine Wk.newP W8 hx (wd hw 13 rfl) 47 (hb hby at_45) (by decide) 8 (by decide) rfl (by decide) (by decide) (by decide) ?_
    intro T9 h9 a9 k9 W9 E9 g9 V9 S9
    have H9 := W9.here; have z9 := E9.1; have gu9 := Nat.le_of_eq g9; have gt9 := Nat.le_of_eq g9.symm; have l9 := ltN V9.lt
    have V9 : Arv Z h9 a9 k9 .char (8 : Int32) [(.int (0 : Int32)), (.int (0 : Int32)), (.int (0 : Int32)), (.int (0 : Int32)), (.int (0 : Int32)), (.int (0 : Int32)), (.int (0 : Int32)), (.int (0 : Int32))] (.int (0 : Int32)) := V9
    refine G.astore H9 hx 49 #[.val (.int p0), .val (.int p1), .val (.int p2), .val (.int p3), .val (.int b1), .val (.ref a3), .val (.ref a8), .val (.ref a9), .unset] (hb hby at_47) rfl rfl rfl ?_
    refine G.aload H9 hx 51 (hb hby at_49) rfl rfl rfl ?_
    refine G.iconst H9 hx 52 (0 : Int32) (hb hby at_51) rfl rfl ?_
    refine G.iloadN H9 hx 53 (hb hby at_52) rfl rfl ?_
    refine Wk.callS W9 hx hoZ (y := (⟨"com/example/proper_grant/propergrant/bench/RequestToStringPinLaw", "put", "([CII)I"⟩ : MethodName)) (wd hw 161 rfl) (wd hw 162 rfl) (wd hw 5 rfl) (wd hw 163 rfl) (by decide) (Wd := 0) (CN.back (rmPut l Z a0 hw a9 k9 ([] : List Int32) (0 : Int32) p0 h9 W9.old (by omega) (show Arv Z h9 a9 k9 .char 8 (arN 8 ([] : List Int32)) (.int 0) from V9) (by have n0 := nm_len p0; have n1 := nm_len p1; have n2 := nm_len p2; simp only [List.length_append, List.length_cons, List.length_nil]; omega) rfl) W9.warm (wd hw 163 rfl) (wd hw 5 rfl) (by decide) (by decide)) (by rw [hml]; rfl) [(.ref a9), (.int (0 : Int32)), (.int p0)] [] (lenOf pd27 rfl) rfl rfl (Nat.le_of_eq rfl) 56 (hb hby at_53) rfl (by decide) (by decide) (hws1 (Or.inr (by omega)) S9) ?_
    intro v10 T10 h10 W10 K10 Ch10 Q10
    have H10 := W10.here; have z10 := K10.1
    obtain ⟨rfl, V10⟩ := Q10
    show Goes p e below (PostW s Z consts_1 h0 [] (Q0 Z cz fm p0 p1 p2 p3 h0) room_1.cells room_1.slots) (T10.setTop (mkF m 56 #[.val (.int p0), .val (.int p1), .val (.int p2), .val (.int p3), .val (.int b1), .val (.ref a3), .val (.ref a8), .val (.ref a9), .unset] [(.int (Int32.ofNat (([] : List Int32) ++ (nm p0)).length))]))
    refine G.istoreX H10 hx 58 #[.val (.int p0), .val (.int p1), .val (.int p2), .val (.int p3), .val (.int b1), .val (.ref a3), .val (.ref a8), .val (.ref a9), .val (.int (Int32.ofNat (([] : List Int32) ++ (nm p0)).length))] (hb hby at_56) rfl rfl ?_
    refine G.aload H10 hx 60 (hb hby at_58) rfl rfl rfl ?_
    refine G.iload H10 hx 62 (hb hby at_60) rfl rfl ?_
    refine G.bipush H10 hx 64 (32 : Int32) (hb hby at_62) rfl rfl ?_
    refine Wk.castore W10 hx V10 (Or.inr (by omega)) (32 : Int32) rfl (([] : List Int32) ++ (nm p0)).length (ofn_clamp (by have n0 := nm_len p0; have n1 := nm_len p1; have n2 := nm_len p2; simp only [List.length_append, List.length_cons, List.length_nil]; omega)) ⟨ofn_n0 (by have n0 := nm_len p0; have n1 := nm_len p1; have n2 := nm_len p2; simp only [List.length_append, List.length_cons, List.length_nil]; omega), ofn_lt (L := 8) (by decide) (by have n0 := nm_len p0; have n1 := nm_len p1; have n2 := nm_len p2; simp only [List.length_append, List.length_cons, List.length_nil]; omega)⟩ (by rw [arN_len (by have n0 := nm_len p0; have n1 := nm_len p1; have n2 := nm_len p2; simp only [List.length_append, List.length_cons, List.length_nil]; omega)]; have n0 := nm_len p0; have n1 := nm_len p1; have n2 := nm_len p2; simp only [List.length_append, List.length_cons, List.length_nil]; omega) 65 (hb hby at_64) rfl ?_
    intro T11 h11 W11 K11 Ch11 V11; have H11 := W11.here; have z11 := K11.1
    rw [arN_set (by have n0 := nm_len p0; have n1 := nm_len p1; have n2 := nm_len p2; simp only [List.length_append, List.length_cons, List.length_nil]; omega)] at V11
    refine G.iload H11 hx 67 (hb hby at_65) rfl rfl ?_
    refine G.iconst H11 hx 68 (1 : Int32) (hb hby at_67) rfl rfl ?_
    refine G.iadd H11 hx 69 (hb hby at_68) rfl ?_
    refine G.istoreX H11 hx 71 #[.val (.int p0), .val (.int p1), .val (.int p2), .val (.int p3), .val (.int b1), .val (.ref a3), .val (.ref a8), .val (.ref a9), .val (.int ((Int32.ofNat (([] : List Int32) ++ (nm p0)).length) + (1 : Int32)))] (hb hby at_69) rfl rfl ?_
    refine G.aload H11 hx 73 (hb hby at_71) rfl rfl rfl ?_
    refine G.iload H11 hx 75 (hb hby at_73) rfl rfl ?_
    refine G.iloadN H11 hx 76 (hb hby at_75) rfl rfl ?_
    refine Wk.callS W11 hx hoZ (y := (⟨"com/example/proper_grant/propergrant/bench/RequestToStringPinLaw", "put", "([CII)I"⟩ : MethodName)) (wd hw 161 rfl) (wd hw 162 rfl) (wd hw 5 rfl) (wd hw 163 rfl) (by decide) (Wd := 0) (CN.back (rmPut l Z a0 hw a9 k9 ((([] : List Int32) ++ (nm p0)) ++ ([(32 : Int32)] : List Int32)) ((Int32.ofNat (([] : List Int32) ++ (nm p0)).length) + (1 : Int32)) p1 h11 W11.old (by omega) V11 (by have n0 := nm_len p0; have n1 := nm_len p1; have n2 := nm_len p2; simp only [List.length_append, List.length_cons, List.length_nil]; omega) (ofn_snoc _ _)) W11.warm (wd hw 163 rfl) (wd hw 5 rfl) (by decide) (by decide)) (by rw [hml]; rfl) [(.ref a9), (.int ((Int32.ofNat (([] : List Int32) ++ (nm p0)).length) + (1 : Int32))), (.int p1)] [] (lenOf pd27 rfl) rfl rfl (Nat.le_of_eq rfl) 79 (hb hby at_76) rfl (by decide) (by decide) (hws1 (Or.inr (by omega)) (Ch11.safe (ltA (by omega)) (Ch10.safe (ltA (by omega)) S9))) ?_
    intro v12 T12 h12 W12 K12 Ch12 Q12
    have H12 := W12.here; have z12 := K12.1
    obtain ⟨rfl, V12⟩ := Q12
    show Goes p e below (PostW s Z consts_1 h0 [] (Q0 Z cz fm p0 p1 p2 p3 h0) room_1.cells room_1.slots) (T12.setTop (mkF m 79 #[.val (.int p0), .val (.int p1), .val (.int p2), .val (.int p3), .val (.int b1), .val (.ref a3), .val (.ref a8), .val (.ref a9), .val (.int ((Int32.ofNat (([] : List Int32) ++ (nm p0)).length) + (1 : Int32)))] [(.int (Int32.ofNat (((([] : List Int32) ++ (nm p0)) ++ ([(32 : Int32)] : List Int32)) ++ (nm p1)).length))]))
    refine G.istoreX H12 hx 81 #[.val (.int p0), .val (.int p1), .val (.int p2), .val (.int p3), .val (.int b1), .val (.ref a3), .val (.ref a8), .val (.ref a9), .val (.int (Int32.ofNat (((([] : List Int32) ++ (nm p0)) ++ ([(32 : Int32)] : List Int32)) ++ (nm p1)).length))] (hb hby at_79) rfl rfl ?_
    refine G.aload H12 hx 83 (hb hby at_81) rfl rfl rfl ?_
    refine G.iload H12 hx 85 (hb hby at_83) rfl rfl ?_
    refine G.bipush H12 hx 87 (32 : Int32) (hb hby at_85) rfl rfl ?_
    refine Wk.castore W12 hx V12 (Or.inr (by omega)) (32 : Int32) rfl (((([] : List Int32) ++ (nm p0)) ++ ([(32 : Int32)] : List Int32)) ++ (nm p1)).length (ofn_clamp (by have n0 := nm_len p0; have n1 := nm_len p1; have n2 := nm_len p2; simp only [List.length_append, List.length_cons, List.length_nil]; omega)) ⟨ofn_n0 (by have n0 := nm_len p0; have n1 := nm_len p1; have n2 := nm_len p2; simp only [List.length_append, List.length_cons, List.length_nil]; omega), ofn_lt (L := 8) (by decide) (by have n0 := nm_len p0; have n1 := nm_len p1; have n2 := nm_len p2; simp only [List.length_append, List.length_cons, List.length_nil]; omega)⟩ (by rw [arN_len (by have n0 := nm_len p0; have n1 := nm_len p1; have n2 := nm_len p2; simp only [List.length_append, List.length_cons, List.length_nil]; omega)]; have n0 := nm_len p0; have n1 := nm_len p1; have n2 := nm_len p2; simp only [List.length_append, List.length_cons, List.length_nil]; omega) 88 (hb hby at_87) rfl ?_
    intro T13 h13 W13 K13 Ch13 V13; have H13 := W13.here; have z13 := K13.1
    rw [arN_set (by have n0 := nm_len p0; have n1 := nm_len p1; have n2 := nm_len p2; simp only [List.length_append, List.length_cons, List.length_nil]; omega)] at V13
    refine G.iload H13 hx 90 (hb hby at_88) rfl rfl ?_
    refine G.iconst H13 hx 91 (1 : Int32) (hb hby at_90) rfl rfl ?_
    refine G.iadd H13 hx 92 (hb hby at_91) rfl ?_
    refine G.istoreX H13 hx 94 #[.val (.int p0), .val (.int p1), .val (.int p2), .val (.int p3), .val (.int b1), .val (.ref a3), .val (.ref a8), .val (.ref a9), .val (.int ((Int32.ofNat (((([] : List Int32) ++ (nm p0)) ++ ([(32 : Int32)] : List Int32)) ++ (nm p1)).length) + (1 : Int32)))] (hb hby at_92) rfl rfl ?_
    refine G.aload H13 hx 96 (hb hby at_94) rfl rfl rfl ?_
    refine G.iload H13 hx 98 (hb hby at_96) rfl rfl ?_
    refine G.iloadN H13 hx 99 (hb hby at_98) rfl rfl ?_
    refine Wk.callS W13 hx hoZ (y := (⟨"com/example/proper_grant/propergrant/bench/RequestToStringPinLaw", "put", "([CII)I"⟩ : MethodName)) (wd hw 161 rfl) (wd hw 162 rfl) (wd hw 5 rfl) (wd hw 163 rfl) (by decide) (Wd := 0) (CN.back (rmPut l Z a0 hw a9 k9 ((((([] : List Int32) ++ (nm p0)) ++ ([(32 : Int32)] : List Int32)) ++ (nm p1)) ++ ([(32 : Int32)] : List Int32)) ((Int32.ofNat (((([] : List Int32) ++ (nm p0)) ++ ([(32 : Int32)] : List Int32)) ++ (nm p1)).length) + (1 : Int32)) p2 h13 W13.old (by omega) V13 (by have n0 := nm_len p0; have n1 := nm_len p1; have n2 := nm_len p2; simp only [List.length_append, List.length_cons, List.length_nil]; omega) (ofn_snoc _ _)) W13.warm (wd hw 163 rfl) (wd hw 5 rfl) (by decide) (by decide)) (by rw [hml]; rfl) [(.ref a9), (.int ((Int32.ofNat (((([] : List Int32) ++ (nm p0)) ++ ([(32 : Int32)] : List Int32)) ++ (nm p1)).length) + (1 : Int32))), (.int p2)] [] (lenOf pd27 rfl) rfl rfl (Nat.le_of_eq rfl) 102 (hb hby at_99) rfl (by decide) (by decide) (hws1 (Or.inr (by omega)) (Ch13.safe (ltA (by omega)) (Ch12.safe (ltA (by omega)) (Ch11.safe (ltA (by omega)) (Ch10.safe (ltA (by omega)) S9))))) ?_
    intro v14 T14 h14 W14 K14 Ch14 Q14
    have H14 := W14.here; have z14 := K14.1
    obtain ⟨rfl, V14⟩ := Q14
    show Goes p e below (PostW s Z consts_1 h0 [] (Q0 Z cz fm p0 p1 p2 p3 h0) room_1.cells room_1.slots) (T14.setTop (mkF m 102 #[.val (.int p0), .val (.int p1), .val (.int p2), .val (.int p3), .val (.int b1), .val (.ref a3), .val (.ref a8), .val (.ref a9), .val (.int ((Int32.ofNat (((([] : List Int32) ++ (nm p0)) ++ ([(32 : Int32)] : List Int32)) ++ (nm p1)).length) + (1 : Int32)))] [(.int (Int32.ofNat (((((([] : List Int32) ++ (nm p0)) ++ ([(32 : Int32)] : List Int32)) ++ (nm p1)) ++ ([(32 : Int32)] : List Int32)) ++ (nm p2)).length))]))
    refine G.istoreX H14 hx 104 #[.val (.int p0), .val (.int p1), .val (.int p2), .val (.int p3), .val (.int b1), .val (.ref a3), .val (.ref a8), .val (.ref a9), .val (.int (Int32.ofNat (((((([] : List Int32) ++ (nm p0)) ++ ([(32 : Int32)] : List Int32)) ++ (nm p1)) ++ ([(32 : Int32)] : List Int32)) ++ (nm p2)).length))] (hb hby at_102) rfl rfl ?_
    refine G.aload H14 hx 106 (hb hby at_104) rfl rfl rfl ?_
    refine G.ifnullN H14 hx 109 (hb hby at_106) rfl ?_
    refine G.aload H14 hx 111 (hb hby at_109) rfl rfl rfl ?_
    refine Wk.virtual W14 hx hoZ (y := (⟨"java/lang/String", "length", "()I"⟩ : MethodName)) (z := (⟨"java/lang/String", "length", "()I"⟩ : MethodName)) (wd hw 164 rfl) (wd hw 78 rfl) (wd hw 80 rfl) (wd hw 79 rfl) (W14.nf (wd hw 80 rfl)) (by decide) (Wd := 0) (lenS W14.warm (wsLen hw) (wd hw 11 rfl) W14.old ((((((Sv8.ext E9).keepX K10 (ala ⟨neA (by omega), NB.arv (show Arv Z h9 a9 k9 .char 8 (arN 8 ([] : List Int32)) (.int 0) from V9) (by intro q; cases q)⟩ (ala0))).keepX K11 (ala ⟨neA (by omega), NB.arv V10 (by intro q; cases q)⟩ ala0)).keepX K12 (ala ⟨neA (by omega), NB.arv V11 (by intro q; cases q)⟩ (ala0))).keepX K13 (ala ⟨neA (by omega), NB.arv V12 (by intro q; cases q)⟩ ala0)).keepX K14 (ala ⟨neA (by omega), NB.arv V13 (by intro q; cases q)⟩ (ala0))) hCS hcz (by decide) (by decide)) ((((((Sv8.exa.ext E9).keep K10).keep K11).keep K12).keep K13).keep K14) (by rw [hml]; rfl) [] [] (lenOf pd12 rfl) rfl rfl (Nat.le_of_eq rfl) 114 (hb hby at_111) rfl (by decide) (by decide) (fun _ q => nomatch q) ?_
    intro v15 T15 h15 W15 K15 Ch15 Q15
    have H15 := W15.here; have z15 := K15.1
    obtain ⟨rfl, eh15⟩ := Q15
    show Goes p e below (PostW s Z consts_1 h0 [] (Q0 Z cz fm p0 p1 p2 p3 h0) room_1.cells room_1.slots) (T15.setTop (mkF m 114 #[.val (.int p0), .val (.int p1), .val (.int p2), .val (.int p3), .val (.int b1), .val (.ref a3), .val (.ref a8), .val (.ref a9), .val (.int (Int32.ofNat (((((([] : List Int32) ++ (nm p0)) ++ ([(32 : Int32)] : List Int32)) ++ (nm p1)) ++ ([(32 : Int32)] : List Int32)) ++ (nm p2)).length))] [(.int (Int32.ofNat (((((([] : List Int32) ++ (nm p0)) ++ ([(32 : Int32)] : List Int32)) ++ (nm p1)) ++ ([(32 : Int32)] : List Int32)) ++ (nm p2)).length))]))
    refine G.iload H15 hx 116 (hb hby at_114) rfl rfl ?_
    refine G.icmpY H15 hx 121 (hb hby at_116) (teq rfl).1 (by decide) rfl ?_
    refine G.aload H15 hx 123 (hb hby at_121) rfl rfl rfl ?_
    refine G.aload H15 hx 125 (hb hby at_123) rfl rfl rfl ?_
    refine G.iload H15 hx 127 (hb hby at_125) rfl rfl ?_
    refine G.iconst H15 hx 128 (0 : Int32) (hb hby at_127) rfl rfl ?_
    refine Wk.callS W15 hx hoZ (y := (⟨"com/example/proper_grant/propergrant/bench/RequestToStringPinLaw", "at", "(Ljava/lang/String;[CII)Z"⟩ : MethodName)) (wd hw 165 rfl) (wd hw 166 rfl) (wd hw 5 rfl) (wd hw 167 rfl) (by decide) (Wd := 0) (CN.back (rmAt l Z a0 hw cz fm a8 a9 k9 (((((([] : List Int32) ++ (nm p0)) ++ ([(32 : Int32)] : List Int32)) ++ (nm p1)) ++ ([(32 : Int32)] : List Int32)) ++ (nm p2)) 0 (0 : Int32) h15 W15.old hCS hcz hFM hfm (((((((Sv8.ext E9).keepX K10 (ala ⟨neA (by omega), NB.arv (show Arv Z h9 a9 k9 .char 8 (arN 8 ([] : List Int32)) (.int 0) from V9) (by intro q; cases q)⟩ (ala0))).keepX K11 (ala ⟨neA (by omega), NB.arv V10 (by intro q; cases q)⟩ ala0)).keepX K12 (ala ⟨neA (by omega), NB.arv V11 (by intro q; cases q)⟩ (ala0))).keepX K13 (ala ⟨neA (by omega), NB.arv V12 (by intro q; cases q)⟩ ala0)).keepX K14 (ala ⟨neA (by omega), NB.arv V13 (by intro q; cases q)⟩ (ala0))).keepX K15 ala0) (c8_app (c8_app (c8_app (c8_app (c8_app ala0 (nm_8 p0)) (ala (C8.of (by decide)) ala0)) (nm_8 p1)) (ala (C8.of (by decide)) ala0)) (nm_8 p2)) (V14.keep K15 nin0) (by have n0 := nm_len p0; have n1 := nm_len p1; have n2 := nm_len p2; simp only [List.length_append, List.length_cons, List.length_nil]; omega) (by decide) rfl) W15.warm (wd hw 167 rfl) (wd hw 5 rfl) (by decide) (by decide)) (by rw [hml]; rfl) [(.ref a8), (.ref a9), (.int (Int32.ofNat (((((([] : List Int32) ++ (nm p0)) ++ ([(32 : Int32)] : List Int32)) ++ (nm p1)) ++ ([(32 : Int32)] : List Int32)) ++ (nm p2)).length)), (.int (0 : Int32))] [] (lenOf pd28 rfl) rfl rfl (Nat.le_of_eq rfl) 131 (hb hby at_128) rfl (by decide) (by decide) (fun _ q => nomatch q) ?_
    intro v16 T16 h16 W16 K16 Ch16 Q16
    have H16 := W16.here; have z16 := K16.1
    obtain ⟨rfl, eh16⟩ := Q16
    show Goes p e below (PostW s Z consts_1 h0 [] (Q0 Z cz fm p0 p1 p2 p3 h0) room_1.cells room_1.slots) (T16.setTop (mkF m 131 #[.val (.int p0), .val (.int p1), .val (.int p2), .val (.int p3), .val (.int b1), .val (.ref a3), .val (.ref a8), .val (.ref a9), .val (.int (Int32.ofNat (((((([] : List Int32) ++ (nm p0)) ++ ([(32 : Int32)] : List Int32)) ++ (nm p1)) ++ ([(32 : Int32)] : List Int32)) ++ (nm p2)).length))] [(.int (1 : Int32))]))
    refine G.ifN H16 hx 134 (hb hby at_131) (zne (by decide)).1 rfl ?_
    refine G.aload H16 hx 136 (hb hby at_134) rfl rfl rfl ?_
    refine G.aload H16 hx 138 (hb hby at_136) rfl rfl rfl ?_
    refine G.iload H16 hx 140 (hb hby at_138) rfl rfl ?_
    refine G.iconst H16 hx 141 (1 : Int32) (hb hby at_140) rfl rfl ?_
    refine Wk.callS W16 hx hoZ (y := (⟨"com/example/proper_grant/propergrant/bench/RequestToStringPinLaw", "at", "(Ljava/lang/String;[CII)Z"⟩ : MethodName)) (wd hw 165 rfl) (wd hw 166 rfl) (wd hw 5 rfl) (wd hw 167 rfl) (by decide) (Wd := 0) (CN.back (rmAt l Z a0 hw cz fm a8 a9 k9 (((((([] : List Int32) ++ (nm p0)) ++ ([(32 : Int32)] : List Int32)) ++ (nm p1)) ++ ([(32 : Int32)] : List Int32)) ++ (nm p2)) 1 (1 : Int32) h16 W16.old hCS hcz hFM hfm ((((((((Sv8.ext E9).keepX K10 (ala ⟨neA (by omega), NB.arv (show Arv Z h9 a9 k9 .char 8 (arN 8 ([] : List Int32)) (.int 0) from V9) (by intro q; cases q)⟩ (ala0))).keepX K11 (ala ⟨neA (by omega), NB.arv V10 (by intro q; cases q)⟩ ala0)).keepX K12 (ala ⟨neA (by omega), NB.arv V11 (by intro q; cases q)⟩ (ala0))).keepX K13 (ala ⟨neA (by omega), NB.arv V12 (by intro q; cases q)⟩ ala0)).keepX K14 (ala ⟨neA (by omega), NB.arv V13 (by intro q; cases q)⟩ (ala0))).keepX K15 ala0).keepX K16 ala0) (c8_app (c8_app (c8_app (c8_app (c8_app ala0 (nm_8 p0)) (ala (C8.of (by decide)) ala0)) (nm_8 p1)) (ala (C8.of (by decide)) ala0)) (nm_8 p2)) ((V14.keep K15 nin0).keep K16 nin0) (by have n0 := nm_len p0; have n1 := nm_len p1; have n2 := nm_len p2; simp only [List.length_append, List.length_cons, List.length_nil]; omega) (by decide) rfl) W16.warm (wd hw 167 rfl) (wd hw 5 rfl) (by decide) (by decide)) (by rw [hml]; rfl) [(.ref a8), (.ref a9), (.int (Int32.ofNat (((((([] : List Int32) ++ (nm p0)) ++ ([(32 : Int32)] : List Int32)) ++ (nm p1)) ++ ([(32 : Int32)] : List Int32)) ++ (nm p2)).length)), (.int (1 : Int32))] [] (lenOf pd28 rfl) rfl rfl (Nat.le_of_eq rfl) 144 (hb hby at_141) rfl (by decide) (by decide) (fun _ q => nomatch q) ?_
    intro v17 T17 h17 W17 K17 Ch17 Q17
    have H17 := W17.here; have z17 := K17.1
    obtain ⟨rfl, eh17⟩ := Q17
    show Goes p e below (PostW s Z consts_1 h0 [] (Q0 Z cz fm p0 p1 p2 p3 h0) room_1.cells room_1.slots) (T17.setTop (mkF m 144 #[.val (.int p0), .val (.int p1), .val (.int p2), .val (.int p3), .val (.int b1), .val (.ref a3), .val (.ref a8), .val (.ref a9), .val (.int (Int32.ofNat (((((([] : List Int32) ++ (nm p0)) ++ ([(32 : Int32)] : List Int32)) ++ (nm p1)) ++ ([(32 : Int32)] : List Int32)) ++ (nm p2)).length))] [(.int (1 : Int32))]))
    refine G.ifN H17 hx 147 (hb hby at_144) (zne (by decide)).1 rfl ?_
    refine G.aload H17 hx 149 (hb hby at_147) rfl rfl rfl ?_
    refine G.aload H17 hx 151 (hb hby at_149) rfl rfl rfl ?_
    refine G.iload H17 hx 153 (hb hby at_151) rfl rfl ?_
    refine G.iconst H17 hx 154 (2 : Int32) (hb hby at_153) rfl rfl ?_
    refine Wk.callS W17 hx hoZ (y := (⟨"com/example/proper_grant/propergrant/bench/RequestToStringPinLaw", "at", "(Ljava/lang/String;[CII)Z"⟩ : MethodName)) (wd hw 165 rfl) (wd hw 166 rfl) (wd hw 5 rfl) (wd hw 167 rfl) (by decide) (Wd := 0) (CN.back (rmAt l Z a0 hw cz fm a8 a9 k9 (((((([] : List Int32) ++ (nm p0)) ++ ([(32 : Int32)] : List Int32)) ++ (nm p1)) ++ ([(32 : Int32)] : List Int32)) ++ (nm p2)) 2 (2 : Int32) h17 W17.old hCS hcz hFM hfm (((((((((Sv8.ext E9).keepX K10 (ala ⟨neA (by omega), NB.arv (show Arv Z h9 a9 k9 .char 8 (arN 8 ([] : List Int32)) (.int 0) from V9) (by intro q; cases q)⟩ (ala0))).keepX K11 (ala ⟨neA (by omega), NB.arv V10 (by intro q; cases q)⟩ ala0)).keepX K12 (ala ⟨neA (by omega), NB.arv V11 (by intro q; cases q)⟩ (ala0))).keepX K13 (ala ⟨neA (by omega), NB.arv V12 (by intro q; cases q)⟩ ala0)).keepX K14 (ala ⟨neA (by omega), NB.arv V13 (by intro q; cases q)⟩ (ala0))).keepX K15 ala0).keepX K16 ala0).keepX K17 ala0) (c8_app (c8_app (c8_app (c8_app (c8_app ala0 (nm_8 p0)) (ala (C8.of (by decide)) ala0)) (nm_8 p1)) (ala (C8.of (by decide)) ala0)) (nm_8 p2)) (((V14.keep K15 nin0).keep K16 nin0).keep K17 nin0) (by have n0 := nm_len p0; have n1 := nm_len p1; have n2 := nm_len p2; simp only [List.length_append, List.length_cons, List.length_nil]; omega) (by decide) rfl) W17.warm (wd hw 167 rfl) (wd hw 5 rfl) (by decide) (by decide)) (by rw [hml]; rfl) [(.ref a8), (.ref a9), (.int (Int32.ofNat (((((([] : List Int32) ++ (nm p0)) ++ ([(32 : Int32)] : List Int32)) ++ (nm p1)) ++ ([(32 : Int32)] : List Int32)) ++ (nm p2)).length)), (.int (2 : Int32))] [] (lenOf pd28 rfl) rfl rfl (Nat.le_of_eq rfl) 157 (hb hby at_154) rfl (by decide) (by decide) (fun _ q => nomatch q) ?_
    intro v18 T18 h18 W18 K18 Ch18 Q18
    have H18 := W18.here; have z18 := K18.1
    obtain ⟨rfl, eh18⟩ := Q18
    show Goes p e below (PostW s Z consts_1 h0 [] (Q0 Z cz fm p0 p1 p2 p3 h0) room_1.cells room_1.slots) (T18.setTop (mkF m 157 #[.val (.int p0), .val (.int p1), .val (.int p2), .val (.int p3), .val (.int b1), .val (.ref a3), .val (.ref a8), .val (.ref a9), .val (.int (Int32.ofNat (((((([] : List Int32) ++ (nm p0)) ++ ([(32 : Int32)] : List Int32)) ++ (nm p1)) ++ ([(32 : Int32)] : List Int32)) ++ (nm p2)).length))] [(.int (1 : Int32))]))
    refine G.ifN H18 hx 160 (hb hby at_157) (zne (by decide)).1 rfl ?_
    refine G.aload H18 hx 162 (hb hby at_160) rfl rfl rfl ?_
    refine G.aload H18 hx 164 (hb hby at_162) rfl rfl rfl ?_
    refine G.iload H18 hx 166 (hb hby at_164) rfl rfl ?_
    refine G.iconst H18 hx 167 (3 : Int32) (hb hby at_166) rfl rfl ?_
    refine Wk.callS W18 hx hoZ (y := (⟨"com/example/proper_grant/propergrant/bench/RequestToStringPinLaw", "at", "(Ljava/lang/String;[CII)Z"⟩ : MethodName)) (wd hw 165 rfl) (wd hw 166 rfl) (wd hw 5 rfl) (wd hw 167 rfl) (by decide) (Wd := 0) (CN.back (rmAt l Z a0 hw cz fm a8 a9 k9 (((((([] : List Int32) ++ (nm p0)) ++ ([(32 : Int32)] : List Int32)) ++ (nm p1)) ++ ([(32 : Int32)] : List Int32)) ++ (nm p2)) 3 (3 : Int32) h18 W18.old hCS hcz hFM hfm ((((((((((Sv8.ext E9).keepX K10 (ala ⟨neA (by omega), NB.arv (show Arv Z h9 a9 k9 .char 8 (arN 8 ([] : List Int32)) (.int 0) from V9) (by intro q; cases q)⟩ (ala0))).keepX K11 (ala ⟨neA (by omega), NB.arv V10 (by intro q; cases q)⟩ ala0)).keepX K12 (ala ⟨neA (by omega), NB.arv V11 (by intro q; cases q)⟩ (ala0))).keepX K13 (ala ⟨neA (by omega), NB.arv V12 (by intro q; cases q)⟩ ala0)).keepX K14 (ala ⟨neA (by omega), NB.arv V13 (by intro q; cases q)⟩ (ala0))).keepX K15 ala0).keepX K16 ala0).keepX K17 ala0).keepX K18 ala0) (c8_app (c8_app (c8_app (c8_app (c8_app ala0 (nm_8 p0)) (ala (C8.of (by decide)) ala0)) (nm_8 p1)) (ala (C8.of (by decide)) ala0)) (nm_8 p2)) ((((V14.keep K15 nin0).keep K16 nin0).keep K17 nin0).keep K18 nin0) (by have n0 := nm_len p0; have n1 := nm_len p1; have n2 := nm_len p2; simp only [List.length_append, List.length_cons, List.length_nil]; omega) (by decide) rfl) W18.warm (wd hw 167 rfl) (wd hw 5 rfl) (by decide) (by decide)) (by rw [hml]; rfl) [(.ref a8), (.ref a9), (.int (Int32.ofNat (((((([] : List Int32) ++ (nm p0)) ++ ([(32 : Int32)] : List Int32)) ++ (nm p1)) ++ ([(32 : Int32)] : List Int32)) ++ (nm p2)).length)), (.int (3 : Int32))] [] (lenOf pd28 rfl) rfl rfl (Nat.le_of_eq rfl) 170 (hb hby at_167) rfl (by decide) (by decide) (fun _ q => nomatch q) ?_
    intro v19 T19 h19 W19 K19 Ch19 Q19
    have H19 := W19.here; have z19 := K19.1
    obtain ⟨rfl, eh19⟩ := Q19
    show Goes p e below (PostW s Z consts_1 h0 [] (Q0 Z cz fm p0 p1 p2 p3 h0) room_1.cells room_1.slots) (T19.setTop (mkF m 170 #[.val (.int p0), .val (.int p1), .val (.int p2), .val (.int p3), .val (.int b1), .val (.ref a3), .val (.ref a8), .val (.ref a9), .val (.int (Int32.ofNat (((((([] : List Int32) ++ (nm p0)) ++ ([(32 : Int32)] : List Int32)) ++ (nm p1)) ++ ([(32 : Int32)] : List Int32)) ++ (nm p2)).length))] [(.int (1 : Int32))]))
    refine G.ifN H19 hx 173 (hb hby at_170) (zne (by decide)).1 rfl ?_
    refine G.aload H19 hx 175 (hb hby at_173) rfl rfl rfl ?_
    refine G.aload H19 hx 177 (hb hby at_175) rfl rfl rfl ?_
    refine G.iload H19 hx 179 (hb hby at_177) rfl rfl ?_
    refine G.iconst H19 hx 180 (4 : Int32) (hb hby at_179) rfl rfl ?_
    refine Wk.callS W19 hx hoZ (y := (⟨"com/example/proper_grant/propergrant/bench/RequestToStringPinLaw", "at", "(Ljava/lang/String;[CII)Z"⟩ : MethodName)) (wd hw 165 rfl) (wd hw 166 rfl) (wd hw 5 rfl) (wd hw 167 rfl) (by decide) (Wd := 0) (CN.back (rmAt l Z a0 hw cz fm a8 a9 k9 (((((([] : List Int32) ++ (nm p0)) ++ ([(32 : Int32)] : List Int32)) ++ (nm p1)) ++ ([(32 : Int32)] : List Int32)) ++ (nm p2)) 4 (4 : Int32) h19 W19.old hCS hcz hFM hfm (((((((((((Sv8.ext E9).keepX K10 (ala ⟨neA (by omega), NB.arv (show Arv Z h9 a9 k9 .char 8 (arN 8 ([] : List Int32)) (.int 0) from V9) (by intro q; cases q)⟩ (ala0))).keepX K11 (ala ⟨neA (by omega), NB.arv V10 (by intro q; cases q)⟩ ala0)).keepX K12 (ala ⟨neA (by omega), NB.arv V11 (by intro q; cases q)⟩ (ala0))).keepX K13 (ala ⟨neA (by omega), NB.arv V12 (by intro q; cases q)⟩ ala0)).keepX K14 (ala ⟨neA (by omega), NB.arv V13 (by intro q; cases q)⟩ (ala0))).keepX K15 ala0).keepX K16 ala0).keepX K17 ala0).keepX K18 ala0).keepX K19 ala0) (c8_app (c8_app (c8_app (c8_app (c8_app ala0 (nm_8 p0)) (ala (C8.of (by decide)) ala0)) (nm_8 p1)) (ala (C8.of (by decide)) ala0)) (nm_8 p2)) (((((V14.keep K15 nin0).keep K16 nin0).keep K17 nin0).keep K18 nin0).keep K19 nin0) (by have n0 := nm_len p0; have n1 := nm_len p1; have n2 := nm_len p2; simp only [List.length_append, List.length_cons, List.length_nil]; omega) (by decide) rfl) W19.warm (wd hw 167 rfl) (wd hw 5 rfl) (by decide) (by decide)) (by rw [hml]; rfl) [(.ref a8), (.ref a9), (.int (Int32.ofNat (((((([] : List Int32) ++ (nm p0)) ++ ([(32 : Int32)] : List Int32)) ++ (nm p1)) ++ ([(32 : Int32)] : List Int32)) ++ (nm p2)).length)), (.int (4 : Int32))] [] (lenOf pd28 rfl) rfl rfl (Nat.le_of_eq rfl) 183 (hb hby at_180) rfl (by decide) (by decide) (fun _ q => nomatch q) ?_
    intro v20 T20 h20 W20 K20 Ch20 Q20
    have H20 := W20.here; have z20 := K20.1
    obtain ⟨rfl, eh20⟩ := Q20
    show Goes p e below (PostW s Z consts_1 h0 [] (Q0 Z cz fm p0 p1 p2 p3 h0) room_1.cells room_1.slots) (T20.setTop (mkF m 183 #[.val (.int p0), .val (.int p1), .val (.int p2), .val (.int p3), .val (.int b1), .val (.ref a3), .val (.ref a8), .val (.ref a9), .val (.int (Int32.ofNat (((((([] : List Int32) ++ (nm p0)) ++ ([(32 : Int32)] : List Int32)) ++ (nm p1)) ++ ([(32 : Int32)] : List Int32)) ++ (nm p2)).length))] [(.int (1 : Int32))]))
    refine G.ifN H20 hx 186 (hb hby at_183) (zne (by decide)).1 rfl ?_
    refine G.aload H20 hx 188 (hb hby at_186) rfl rfl rfl ?_
    refine G.aload H20 hx 190 (hb hby at_188) rfl rfl rfl ?_
    refine G.iload H20 hx 192 (hb hby at_190) rfl rfl ?_
    refine G.iconst H20 hx 193 (5 : Int32) (hb hby at_192) rfl rfl ?_
    refine Wk.callS W20 hx hoZ (y := (⟨"com/example/proper_grant/propergrant/bench/RequestToStringPinLaw", "at", "(Ljava/lang/String;[CII)Z"⟩ : MethodName)) (wd hw 165 rfl) (wd hw 166 rfl) (wd hw 5 rfl) (wd hw 167 rfl) (by decide) (Wd := 0) (CN.back (rmAt l Z a0 hw cz fm a8 a9 k9 (((((([] : List Int32) ++ (nm p0)) ++ ([(32 : Int32)] : List Int32)) ++ (nm p1)) ++ ([(32 : Int32)] : List Int32)) ++ (nm p2)) 5 (5 : Int32) h20 W20.old hCS hcz hFM hfm ((((((((((((Sv8.ext E9).keepX K10 (ala ⟨neA (by omega), NB.arv (show Arv Z h9 a9 k9 .char 8 (arN 8 ([] : List Int32)) (.int 0) from V9) (by intro q; cases q)⟩ (ala0))).keepX K11 (ala ⟨neA (by omega), NB.arv V10 (by intro q; cases q)⟩ ala0)).keepX K12 (ala ⟨neA (by omega), NB.arv V11 (by intro q; cases q)⟩ (ala0))).keepX K13 (ala ⟨neA (by omega), NB.arv V12 (by intro q; cases q)⟩ ala0)).keepX K14 (ala ⟨neA (by omega), NB.arv V13 (by intro q; cases q)⟩ (ala0))).keepX K15 ala0).keepX K16 ala0).keepX K17 ala0).keepX K18 ala0).keepX K19 ala0).keepX K20 ala0) (c8_app (c8_app (c8_app (c8_app (c8_app ala0 (nm_8 p0)) (ala (C8.of (by decide)) ala0)) (nm_8 p1)) (ala (C8.of (by decide)) ala0)) (nm_8 p2)) ((((((V14.keep K15 nin0).keep K16 nin0).keep K17 nin0).keep K18 nin0).keep K19 nin0).keep K20 nin0) (by have n0 := nm_len p0; have n1 := nm_len p1; have n2 := nm_len p2; simp only [List.length_append, List.length_cons, List.length_nil]; omega) (by decide) rfl) W20.warm (wd hw 167 rfl) (wd hw 5 rfl) (by decide) (by decide)) (by rw [hml]; rfl) [(.ref a8), (.ref a9), (.int (Int32.ofNat (((((([] : List Int32) ++ (nm p0)) ++ ([(32 : Int32)] : List Int32)) ++ (nm p1)) ++ ([(32 : Int32)] : List Int32)) ++ (nm p2)).length)), (.int (5 : Int32))] [] (lenOf pd28 rfl) rfl rfl (Nat.le_of_eq rfl) 196 (hb hby at_193) rfl (by decide) (by decide) (fun _ q => nomatch q) ?_
    intro v21 T21 h21 W21 K21 Ch21 Q21
    have H21 := W21.here; have z21 := K21.1
    obtain ⟨rfl, eh21⟩ := Q21
    show Goes p e below (PostW s Z consts_1 h0 [] (Q0 Z cz fm p0 p1 p2 p3 h0) room_1.cells room_1.slots) (T21.setTop (mkF m 196 #[.val (.int p0), .val (.int p1), .val (.int p2), .val (.int p3), .val (.int b1), .val (.ref a3), .val (.ref a8), .val (.ref a9), .val (.int (Int32.ofNat (((((([] : List Int32) ++ (nm p0)) ++ ([(32 : Int32)] : List Int32)) ++ (nm p1)) ++ ([(32 : Int32)] : List Int32)) ++ (nm p2)).length))] [(.int (1 : Int32))]))
    refine G.ifN H21 hx 199 (hb hby at_196) (zne (by decide)).1 rfl ?_
    refine G.aload H21 hx 201 (hb hby at_199) rfl rfl rfl ?_
    refine G.aload H21 hx 203 (hb hby at_201) rfl rfl rfl ?_
    refine G.iload H21 hx 205 (hb hby at_203) rfl rfl ?_
    refine G.bipush H21 hx 207 (6 : Int32) (hb hby at_205) rfl rfl ?_
    refine Wk.callS W21 hx hoZ (y := (⟨"com/example/proper_grant/propergrant/bench/RequestToStringPinLaw", "at", "(Ljava/lang/String;[CII)Z"⟩ : MethodName)) (wd hw 165 rfl) (wd hw 166 rfl) (wd hw 5 rfl) (wd hw 167 rfl) (by decide) (Wd := 0) (CN.back (rmAt l Z a0 hw cz fm a8 a9 k9 (((((([] : List Int32) ++ (nm p0)) ++ ([(32 : Int32)] : List Int32)) ++ (nm p1)) ++ ([(32 : Int32)] : List Int32)) ++ (nm p2)) 6 (6 : Int32) h21 W21.old hCS hcz hFM hfm (((((((((((((Sv8.ext E9).keepX K10 (ala ⟨neA (by omega), NB.arv (show Arv Z h9 a9 k9 .char 8 (arN 8 ([] : List Int32)) (.int 0) from V9) (by intro q; cases q)⟩ (ala0))).keepX K11 (ala ⟨neA (by omega), NB.arv V10 (by intro q; cases q)⟩ ala0)).keepX K12 (ala ⟨neA (by omega), NB.arv V11 (by intro q; cases q)⟩ (ala0))).keepX K13 (ala ⟨neA (by omega), NB.arv V12 (by intro q; cases q)⟩ ala0)).keepX K14 (ala ⟨neA (by omega), NB.arv V13 (by intro q; cases q)⟩ (ala0))).keepX K15 ala0).keepX K16 ala0).keepX K17 ala0).keepX K18 ala0).keepX K19 ala0).keepX K20 ala0).keepX K21 ala0) (c8_app (c8_app (c8_app (c8_app (c8_app ala0 (nm_8 p0)) (ala (C8.of (by decide)) ala0)) (nm_8 p1)) (ala (C8.of (by decide)) ala0)) (nm_8 p2)) (((((((V14.keep K15 nin0).keep K16 nin0).keep K17 nin0).keep K18 nin0).keep K19 nin0).keep K20 nin0).keep K21 nin0) (by have n0 := nm_len p0; have n1 := nm_len p1; have n2 := nm_len p2; simp only [List.length_append, List.length_cons, List.length_nil]; omega) (by decide) rfl) W21.warm (wd hw 167 rfl) (wd hw 5 rfl) (by decide) (by decide)) (by rw [hml]; rfl) [(.ref a8), (.ref a9), (.int (Int32.ofNat (((((([] : List Int32) ++ (nm p0)) ++ ([(32 : Int32)] : List Int32)) ++ (nm p1)) ++ ([(32 : Int32)] : List Int32)) ++ (nm p2)).length)), (.int (6 : Int32))] [] (lenOf pd28 rfl) rfl rfl (Nat.le_of_eq rfl) 210 (hb hby at_207) rfl (by decide) (by decide) (fun _ q => nomatch q) ?_
    intro v22 T22 h22 W22 K22 Ch22 Q22
    have H22 := W22.here; have z22 := K22.1
    obtain ⟨rfl, eh22⟩ := Q22
    show Goes p e below (PostW s Z consts_1 h0 [] (Q0 Z cz fm p0 p1 p2 p3 h0) room_1.cells room_1.slots) (T22.setTop (mkF m 210 #[.val (.int p0), .val (.int p1), .val (.int p2), .val (.int p3), .val (.int b1), .val (.ref a3), .val (.ref a8), .val (.ref a9), .val (.int (Int32.ofNat (((((([] : List Int32) ++ (nm p0)) ++ ([(32 : Int32)] : List Int32)) ++ (nm p1)) ++ ([(32 : Int32)] : List Int32)) ++ (nm p2)).length))] [(.int (1 : Int32))]))
    refine G.ifN H22 hx 213 (hb hby at_210) (zne (by decide)).1 rfl ?_
    refine G.aload H22 hx 215 (hb hby at_213) rfl rfl rfl ?_
    refine G.aload H22 hx 217 (hb hby at_215) rfl rfl rfl ?_
    refine G.iload H22 hx 219 (hb hby at_217) rfl rfl ?_
    refine G.bipush H22 hx 221 (7 : Int32) (hb hby at_219) rfl rfl ?_
    refine Wk.callS W22 hx hoZ (y := (⟨"com/example/proper_grant/propergrant/bench/RequestToStringPinLaw", "at", "(Ljava/lang/String;[CII)Z"⟩ : MethodName)) (wd hw 165 rfl) (wd hw 166 rfl) (wd hw 5 rfl) (wd hw 167 rfl) (by decide) (Wd := 0) (CN.back (rmAt l Z a0 hw cz fm a8 a9 k9 (((((([] : List Int32) ++ (nm p0)) ++ ([(32 : Int32)] : List Int32)) ++ (nm p1)) ++ ([(32 : Int32)] : List Int32)) ++ (nm p2)) 7 (7 : Int32) h22 W22.old hCS hcz hFM hfm ((((((((((((((Sv8.ext E9).keepX K10 (ala ⟨neA (by omega), NB.arv (show Arv Z h9 a9 k9 .char 8 (arN 8 ([] : List Int32)) (.int 0) from V9) (by intro q; cases q)⟩ (ala0))).keepX K11 (ala ⟨neA (by omega), NB.arv V10 (by intro q; cases q)⟩ ala0)).keepX K12 (ala ⟨neA (by omega), NB.arv V11 (by intro q; cases q)⟩ (ala0))).keepX K13 (ala ⟨neA (by omega), NB.arv V12 (by intro q; cases q)⟩ ala0)).keepX K14 (ala ⟨neA (by omega), NB.arv V13 (by intro q; cases q)⟩ (ala0))).keepX K15 ala0).keepX K16 ala0).keepX K17 ala0).keepX K18 ala0).keepX K19 ala0).keepX K20 ala0).keepX K21 ala0).keepX K22 ala0) (c8_app (c8_app (c8_app (c8_app (c8_app ala0 (nm_8 p0)) (ala (C8.of (by decide)) ala0)) (nm_8 p1)) (ala (C8.of (by decide)) ala0)) (nm_8 p2)) ((((((((V14.keep K15 nin0).keep K16 nin0).keep K17 nin0).keep K18 nin0).keep K19 nin0).keep K20 nin0).keep K21 nin0).keep K22 nin0) (by have n0 := nm_len p0; have n1 := nm_len p1; have n2 := nm_len p2; simp only [List.length_append, List.length_cons, List.length_nil]; omega) (by decide) rfl) W22.warm (wd hw 167 rfl) (wd hw 5 rfl) (by decide) (by decide)) (by rw [hml]; rfl) [(.ref a8), (.ref a9), (.int (Int32.ofNat (((((([] : List Int32) ++ (nm p0)) ++ ([(32 : Int32)] : List Int32)) ++ (nm p1)) ++ ([(32 : Int32)] : List Int32)) ++ (nm p2)).length)), (.int (7 : Int32))] [] (lenOf pd28 rfl) rfl rfl (Nat.le_of_eq rfl) 224 (hb hby at_221) rfl (by decide) (by decide) (fun _ q => nomatch q) ?_
    intro v23 T23 h23 W23 K23 Ch23 Q23
    have H23 := W23.here; have z23 := K23.1
    obtain ⟨rfl, eh23⟩ := Q23
    show Goes p e below (PostW s Z consts_1 h0 [] (Q0 Z cz fm p0 p1 p2 p3 h0) room_1.cells room_1.slots) (T23.setTop (mkF m 224 #[.val (.int p0), .val (.int p1), .val (.int p2), .val (.int p3), .val (.int b1), .val (.ref a3), .val (.ref a8), .val (.ref a9), .val (.int (Int32.ofNat (((((([] : List Int32) ++ (nm p0)) ++ ([(32 : Int32)] : List Int32)) ++ (nm p1)) ++ ([(32 : Int32)] : List Int32)) ++ (nm p2)).length))] [(.int (1 : Int32))]))
    refine G.ifN H23 hx 227 (hb hby at_224) (zne (by decide)).1 rfl ?_
    refine G.iconst H23 hx 228 (1 : Int32) (hb hby at_227) rfl rfl ?_
    refine G.goto H23 hx 232 (hb hby at_228) (by decide) rfl ?_
    exact Wk.retNW W23 hx hEL (1 : Int32) (t := .boolean) rfl (by simp) hret hlk (hb hby at_232) (by decide) (by decide) rfl
  by_cases c3_24 : (p3 &&& (1 : Int32)) = 0
  ·
    refine G.ifY H0 hx 10 (hb hby at_3) (zeq c3_24).1 (by decide) rfl ?_
    refine G.iconst H0 hx 11 (0 : Int32) (hb hby at_10) rfl rfl ?_
    exact J11_2 _ (by simp only [if_pos c3_24])
  ·
    refine G.ifN H0 hx 6 (hb hby at_3) (zne c3_24).1 rfl ?_
    refine G.iconst H0 hx 7 (1 : Int32) (hb hby at_6) rfl rfl ?_
    refine G.goto H0 hx 11 (hb hby at_7) (by decide) rfl ?_
    exact J11_2 _ (by simp only [if_neg c3_24])
set_option maxRecDepth 65536 in
set_option maxHeartbeats 40000000 in
theorem comes_1 {Post : Tables → Env → Array Value → State → Outcome → State → Prop} (hpost : ∀ tb e args s v u, (limb_1_1.after args s (.returned v) u = true ∧ limb_1_2.after args s (.returned v) u = true ∧ True) → ReturnedEndW s (.returned v) u (Jvm.fieldLocs frame_1_writes args s ++ Jvm.arrayLocs frame_1_arrays args s ++ Jvm.staticLocs frame_1_statics s) 48 2304 → Post tb e args s (.returned v) u) :
    ArmFor flags0 classFile x code maxLocals ret World_1 tables_1 room_1 Calls_1 rest_1 Pre_1 Post := by
  intro l hfl _ _ p e ha hc hk s m args below hf hA hF happ hP
  obtain ⟨hcalls, hrest, hpre⟩ := hP
  obtain ⟨-, -, -, hnamed, -, -, -, hat⟩ := (Spec.applies_iff hf).mp happ
  obtain ⟨hg, hn⟩ := and_e (Cond.before_iff.mp (show (Jvm.Cond.and given_1 narrow_1).before args s = true from hpre))
  obtain ⟨hcount, hg0⟩ := and_e hg
  obtain ⟨ha0, hg1⟩ := and_e hg0
  obtain ⟨ha1, hg2⟩ := and_e hg1
  obtain ⟨ha2, hg3⟩ := and_e hg2
  obtain ⟨w0, w1, w2, w3, rfl⟩ : ∃ w0 w1 w2 w3 : Value, args = #[w0, w1, w2, w3] := by
    have hs : args.size = 4 := by simpa [Cond.value, given_1] using hcount
    obtain ⟨L⟩ := args
    match L, hs with
    | [w0, w1, w2, w3], _ => exact ⟨w0, w1, w2, w3, rfl⟩
  have hw := fun d (hd : d ∈ tables_1) => atoms_spec (ws := Jvm.Cond.code x code maxLocals ret :: tables_1) hat d (List.mem_cons_of_mem _ hd)
  obtain ⟨hsets, hown0⟩ := atoms_of _ (rest_1_c_eq ▸ (show rest_1_c.before _ s = true from hrest))
  have n5 := not_v (Cond.before_iff.mp (hsets _ (List.mem_of_getElem? (i := 2) rfl)))
  obtain ⟨i0, ei0⟩ := is_v ha0
  obtain rfl : w0 = (.int i0) := Option.some.inj ei0
  obtain ⟨i1, ei1⟩ := is_v ha1
  obtain rfl : w1 = (.int i1) := Option.some.inj ei1
  obtain ⟨i2, ei2⟩ := is_v ha2
  obtain rfl : w2 = (.int i2) := Option.some.inj ei2
  obtain ⟨i3, ei3⟩ := is_v hg3
  obtain rfl : w3 = (.int i3) := Option.some.inj ei3
  obtain ⟨cz, ecz⟩ := is_v (Cond.before_iff.mp (hsets _ (List.mem_of_getElem? (i := 1) rfl)))
  have hCS : Sta s s.heap "java/lang/String" "COMPACT_STRINGS" "Z" (.int cz) := Sta.start ecz (Or.inl (hsets _ (List.mem_of_getElem? (i := 0) rfl)))
  obtain ⟨fm, efm, hfm⟩ := isR_v (Cond.before_iff.mp (hsets _ (List.mem_of_getElem? (i := 8) rfl)))
  have hFM : Sta s s.heap "jdk/internal/util/Preconditions" "SIOOBE_FORMATTER" "Ljava/util/function/BiFunction;" fm := Sta.start efm (Or.inl (hsets _ (List.mem_of_getElem? (i := 7) rfl)))
  have hcz : ¬ cz = (0 : Int32) := gotF (Cond.eq_ints ecz (Term.int_eval (0))) n5
  have hCH : CHv s consts_1 s.vm s.heap := CHv.start (elw hw) (fun p hp => hcalls.1 p hp) (hsets _ (List.mem_of_getElem? (i := 2) rfl)) (wsStr hw _ (by simp [Bundle.stringAtoms])) (wsStr hw _ (by simp [Bundle.stringAtoms, Bundle.sN]))
  obtain ⟨n, o, h1, h2, h3, _, L, rfl, ⟨N, -, rfl⟩, -, hq⟩ := rm0 l s _ hw cz fm i0 i1 i2 i3 s.heap (ext_refl _) hCS hcz hFM hfm p e ha hc hk s m _ below hf ((Spec.applies_iff_loose hf).mp happ).1 ⟨rfl, State.Warmed39.refl s, rfl, hCH, fun _ q => nomatch q⟩ trivial
  refine ⟨n, _, h1, h2, h3, hpost _ _ _ _ _ _ ⟨Cond.after_iff.mpr rfl, Cond.after_iff.mpr (eq_i res_at (Term.int_eval (1)) rfl), trivial⟩ ⟨hq.1, hq.2.1, hq.2.2.1, (hq.2.2.2.sift fun y hy => Or.inr (N y hy)).mono (by decide) (by decide)⟩⟩
theorem main_1_1 : Claimed_1_1 := comes_1 fun _ _ _ _ _ _ h hF => ⟨h.1, hF⟩
theorem main_1_2 : Claimed_1_2 := comes_1 fun _ _ _ _ _ _ h hF => ⟨h.2.1, hF⟩
end Jvm.Pilot.@@N@@
namespace Jvm.Pilot.@@N@@
open Jvm Jvm.ClassFile Sem Op Lib Jvm.Free Jvm.Stand Jvm.Pilot.@@N@@.Jvm.D
/-! MADE BY PROGRAM (witnessworld.py) out of the Statement's table words and the real class files: 26 classes; the members and pool entries that the words name. The judged class is class 1, her method 7. -/
namespace start1
open Jvm.ClassFile
def u (s : String) : CpInfo := .utf8 (stringToUtf16 s)
/-- a pool by its gaps: so many unusable entries, then the entry; so many at the end -/
def gap : Nat → List CpInfo → List CpInfo
  | 0, r => r
  | n + 1, r => .unusable :: gap n r
def poolList (es : List (Nat × CpInfo)) (last : Nat) : List CpInfo := es.foldr (fun e r => gap e.1 (e.2 :: r)) (gap last [])
def pool (es : List (Nat × CpInfo)) (last : Nat) : Array CpInfo := ⟨poolList es last⟩
def fileOf (pool : Array CpInfo) (this : Nat) (attrs : Array Attribute := #[]) (ms : Array MethodInfo := #[]) (fl : Nat := 33) (sup : Nat := 0) (ifs : Array Nat := #[]) (fds : Array FieldInfo := #[]) : ClassFile where
  minorVersion := 0
  majorVersion := 65
  constantPool := pool
  accessFlags := fl
  thisClass := this
  superClass := sup
  interfaces := ifs
  fields := fds
  methods := ms
  attributes := attrs
def plain (name : String) (sup : Option ClassId) : Class where
  name := name
  kind := .ordinary
  loader := none
  accessFlags := 33
  super := sup
  interfaces := #[]
  cf := none
  fields := #[]
  methods := #[]
  instanceTypes := #[]
  staticTypes := #[]
  resolved := #[]
  callSites := []
  init := .initialized
  statics := none
  mirror := none

def pool0 : Array CpInfo := pool [(5, u "<init>"), (0, u "()V"), (1, .class_ 10), (1, u "java/lang/Object")] 113

def k0c0 : Code := { maxStack := 0, maxLocals := 1, code := object_method_1_code, exceptionTable := #[], attributes := #[] }
def k0m0 : Method := { name := "<init>", desc := "()V", sig := { parameters := [], returnType := none }, accessFlags := 1, code := some k0c0 }
/-- java/lang/Object -/
def k0 : Class := { plain "java/lang/Object" none with
  accessFlags := 33
  interfaces := #[]
  cf := some (fileOf pool0 8 #[] #[{ accessFlags := 1, nameIndex := 5, descriptorIndex := 6, attributes := #[] }] 33 0 #[] #[])
  fields := #[]
  methods := #[k0m0]
  instanceTypes := #[]
  staticTypes := #[]
  resolved := Array.replicate 124 none
  statics := none }

def pool1 : Array CpInfo := pool [(2, .class_ 4), (1, u "java/lang/Object"), (0, u "<init>"), (0, u "()V"), (0, .methodref 8 9), (0, .class_ 10), (0, .nameAndType 11 12), (0, u "com/example/proper_grant/propergrant/bench/RequestToStringPinLaw"), (0, u "len"), (0, u "(I)I"), (0, .class_ 14), (0, u "java/lang/String"), (0, .methodref 13 16), (0, .nameAndType 5 17), (0, u "([C)V"), (0, .methodref 8 19), (0, .nameAndType 20 21), (0, u "c0"), (0, u "(I)C"), (0, .methodref 13 23), (0, .nameAndType 24 25), (0, u "valueOf"), (0, u "(C)Ljava/lang/String;"), (0, .methodref 8 27), (0, .nameAndType 28 21), (0, u "c1"), (0, .methodref 13 30), (0, .nameAndType 31 21), (0, u "charAt"), (0, .class_ 33), (0, u "com/example/proper_grant/propergrant/bench/Request"), (0, .methodref 8 35), (0, .nameAndType 36 37), (0, u "name"), (0, u "(I)Ljava/lang/String;"), (0, .methodref 32 39), (0, .nameAndType 5 40), (0, u "(Ljava/lang/String;Ljava/lang/String;Ljava/lang/String;Z)V"), (0, .methodref 32 42), (0, .nameAndType 43 44), (0, u "toString"), (0, u "()Ljava/lang/String;"), (0, .methodref 8 46), (0, .nameAndType 47 48), (0, u "put"), (0, u "([CII)I"), (0, .methodref 13 50), (0, .nameAndType 51 52), (0, u "length"), (0, u "()I"), (0, .methodref 8 54), (0, .nameAndType 55 56), (0, u "at"), (0, u "(Ljava/lang/String;[CII)Z"), (3, u "law"), (0, u "(IIII)Z")] 4

def k1m0 : Method := { name := "<init>", desc := "()V", sig := { parameters := [], returnType := none }, accessFlags := 1, code := none }
def k1c1 : Code := { maxStack := 2, maxLocals := 1, code := method_2_code, exceptionTable := #[], attributes := #[] }
def k1m1 : Method := { name := "len", desc := "(I)I", sig := { parameters := [.int], returnType := some .int }, accessFlags := 10, code := some k1c1 }
def k1c2 : Code := { maxStack := 2, maxLocals := 1, code := method_3_code, exceptionTable := #[], attributes := #[] }
def k1m2 : Method := { name := "c0", desc := "(I)C", sig := { parameters := [.int], returnType := some .char }, accessFlags := 10, code := some k1c2 }
def k1c3 : Code := { maxStack := 2, maxLocals := 1, code := method_4_code, exceptionTable := #[], attributes := #[] }
def k1m3 : Method := { name := "c1", desc := "(I)C", sig := { parameters := [.int], returnType := some .char }, accessFlags := 10, code := some k1c3 }
def k1c4 : Code := { maxStack := 3, maxLocals := 3, code := method_5_code, exceptionTable := #[], attributes := #[] }
def k1m4 : Method := { name := "name", desc := "(I)Ljava/lang/String;", sig := { parameters := [.int], returnType := some (.object "java/lang/String") }, accessFlags := 10, code := some k1c4 }
def k1c5 : Code := { maxStack := 3, maxLocals := 4, code := method_6_code, exceptionTable := #[], attributes := #[] }
def k1m5 : Method := { name := "put", desc := "([CII)I", sig := { parameters := [(.array .char), .int, .int], returnType := some .int }, accessFlags := 10, code := some k1c5 }
def k1c6 : Code := { maxStack := 3, maxLocals := 4, code := method_7_code, exceptionTable := #[], attributes := #[] }
def k1m6 : Method := { name := "at", desc := "(Ljava/lang/String;[CII)Z", sig := { parameters := [(.object "java/lang/String"), (.array .char), .int, .int], returnType := some .boolean }, accessFlags := 10, code := some k1c6 }
def k1c7 : Code := { maxStack := 6, maxLocals := 9, code := code, exceptionTable := #[], attributes := #[] }
def k1m7 : Method := { name := "law", desc := "(IIII)Z", sig := { parameters := [.int, .int, .int, .int], returnType := some .boolean }, accessFlags := 9, code := some k1c7 }
/-- com/example/proper_grant/propergrant/bench/RequestToStringPinLaw -/
def k1 : Class := { plain "com/example/proper_grant/propergrant/bench/RequestToStringPinLaw" (some 0) with
  accessFlags := 49
  interfaces := #[]
  cf := some (fileOf pool1 8 #[] #[{ accessFlags := 1, nameIndex := 5, descriptorIndex := 6, attributes := #[] }, { accessFlags := 10, nameIndex := 11, descriptorIndex := 12, attributes := #[] }, { accessFlags := 10, nameIndex := 20, descriptorIndex := 21, attributes := #[] }, { accessFlags := 10, nameIndex := 28, descriptorIndex := 21, attributes := #[] }, { accessFlags := 10, nameIndex := 36, descriptorIndex := 37, attributes := #[] }, { accessFlags := 10, nameIndex := 47, descriptorIndex := 48, attributes := #[] }, { accessFlags := 10, nameIndex := 55, descriptorIndex := 56, attributes := #[] }, { accessFlags := 9, nameIndex := 60, descriptorIndex := 61, attributes := #[] }] 49 2 #[] #[])
  fields := #[]
  methods := #[k1m0, k1m1, k1m2, k1m3, k1m4, k1m5, k1m6, k1m7]
  instanceTypes := #[]
  staticTypes := #[]
  resolved := Array.replicate 66 none
  statics := none }

def pool2 : Array CpInfo := pool [(1, .methodref 2 3), (0, .class_ 4), (0, .nameAndType 5 6), (0, u "java/lang/Object"), (0, u "<init>"), (0, u "()V"), (0, .fieldref 8 9), (0, .class_ 10), (0, .nameAndType 11 12), (0, u "com/example/proper_grant/propergrant/bench/Request"), (0, u "principal"), (0, u "Ljava/lang/String;"), (0, .fieldref 8 14), (0, .nameAndType 15 12), (0, u "operation"), (0, .fieldref 8 17), (0, .nameAndType 18 12), (0, u "resource"), (0, .fieldref 8 20), (0, .nameAndType 21 22), (0, u "granted"), (0, u "Z"), (0, .class_ 24), (0, u "java/lang/StringBuilder"), (0, .methodref 23 3), (0, .methodref 23 27), (0, .nameAndType 28 29), (0, u "append"), (0, u "(Ljava/lang/String;)Ljava/lang/StringBuilder;"), (0, .string 31), (0, u " "), (0, .methodref 23 33), (0, .nameAndType 34 35), (0, u "toString"), (0, u "()Ljava/lang/String;"), (0, u "(Ljava/lang/String;Ljava/lang/String;Ljava/lang/String;Z)V")] 5

def k2c0 : Code := { maxStack := 2, maxLocals := 5, code := prog_20_method_1_code, exceptionTable := #[], attributes := #[] }
def k2m0 : Method := { name := "<init>", desc := "(Ljava/lang/String;Ljava/lang/String;Ljava/lang/String;Z)V", sig := { parameters := [(.object "java/lang/String"), (.object "java/lang/String"), (.object "java/lang/String"), .boolean], returnType := none }, accessFlags := 0, code := some k2c0 }
def k2c1 : Code := { maxStack := 2, maxLocals := 1, code := prog_20_method_6_code, exceptionTable := #[], attributes := #[] }
def k2m1 : Method := { name := "toString", desc := "()Ljava/lang/String;", sig := { parameters := [], returnType := some (.object "java/lang/String") }, accessFlags := 1, code := some k2c1 }
/-- com/example/proper_grant/propergrant/bench/Request -/
def k2 : Class := { plain "com/example/proper_grant/propergrant/bench/Request" (some 0) with
  accessFlags := 32
  interfaces := #[]
  cf := some (fileOf pool2 8 #[] #[{ accessFlags := 0, nameIndex := 5, descriptorIndex := 36, attributes := #[] }, { accessFlags := 1, nameIndex := 34, descriptorIndex := 35, attributes := #[] }] 32 2 #[] #[{ accessFlags := 18, nameIndex := 11, descriptorIndex := 12, attributes := #[] }, { accessFlags := 18, nameIndex := 15, descriptorIndex := 12, attributes := #[] }, { accessFlags := 18, nameIndex := 18, descriptorIndex := 12, attributes := #[] }, { accessFlags := 18, nameIndex := 21, descriptorIndex := 22, attributes := #[] }])
  fields := #[{ name := "principal", type := (.object "java/lang/String"), accessFlags := 18, slot := 0, constantValue := 0 }, { name := "operation", type := (.object "java/lang/String"), accessFlags := 18, slot := 1, constantValue := 0 }, { name := "resource", type := (.object "java/lang/String"), accessFlags := 18, slot := 2, constantValue := 0 }, { name := "granted", type := .boolean, accessFlags := 18, slot := 3, constantValue := 0 }]
  methods := #[k2m0, k2m1]
  instanceTypes := #[(.object "java/lang/String"), (.object "java/lang/String"), (.object "java/lang/String"), .boolean]
  staticTypes := #[]
  resolved := Array.replicate 42 none
  statics := none }

def pool3 : Array CpInfo := pool [(1, .class_ 2), (0, u "java/io/Serializable"), (0, .class_ 4), (0, u "java/lang/Object")] 2

/-- java/io/Serializable -/
def k3 : Class := { plain "java/io/Serializable" (some 0) with
  accessFlags := 1537
  interfaces := #[]
  cf := some (fileOf pool3 1 #[] #[] 1537 3 #[] #[])
  fields := #[]
  methods := #[]
  instanceTypes := #[]
  staticTypes := #[]
  resolved := Array.replicate 7 none
  statics := none }

def pool4 : Array CpInfo := pool [(1, .class_ 2), (0, u "java/lang/Comparable"), (0, .class_ 4), (0, u "java/lang/Object")] 7

/-- java/lang/Comparable -/
def k4 : Class := { plain "java/lang/Comparable" (some 0) with
  accessFlags := 1537
  interfaces := #[]
  cf := some (fileOf pool4 1 #[] #[] 1537 3 #[] #[])
  fields := #[]
  methods := #[]
  instanceTypes := #[]
  staticTypes := #[]
  resolved := Array.replicate 12 none
  statics := none }

def pool5 : Array CpInfo := pool [(2, .class_ 4), (1, u "java/lang/CharSequence"), (42, .class_ 48), (0, u "java/lang/CharSequence$1CodePointIterator"), (10, .class_ 60), (0, u "java/lang/CharSequence$1CharIterator"), (5, .class_ 67), (0, u "java/lang/Object")] 63

/-- java/lang/CharSequence -/
def k5 : Class := { plain "java/lang/CharSequence" (some 0) with
  accessFlags := 1537
  interfaces := #[]
  cf := some (fileOf pool5 2 #[.nestMembers #[47, 59]] #[] 1537 66 #[] #[])
  fields := #[]
  methods := #[]
  instanceTypes := #[]
  staticTypes := #[]
  resolved := Array.replicate 131 none
  statics := none }

def pool6 : Array CpInfo := pool [(1, .class_ 2), (0, u "java/lang/constant/Constable"), (0, .class_ 4), (0, u "java/lang/Object")] 6

/-- java/lang/constant/Constable -/
def k6 : Class := { plain "java/lang/constant/Constable" (some 0) with
  accessFlags := 1537
  interfaces := #[]
  cf := some (fileOf pool6 1 #[] #[] 1537 3 #[] #[])
  fields := #[]
  methods := #[]
  instanceTypes := #[]
  staticTypes := #[]
  resolved := Array.replicate 11 none
  statics := none }

def pool7 : Array CpInfo := pool [(1, .class_ 2), (0, u "java/lang/constant/ConstantDesc"), (0, .class_ 4), (0, u "java/lang/Object")] 32

/-- java/lang/constant/ConstantDesc -/
def k7 : Class := { plain "java/lang/constant/ConstantDesc" (some 0) with
  accessFlags := 1537
  interfaces := #[]
  cf := some (fileOf pool7 1 #[] #[] 1537 3 #[] #[])
  fields := #[]
  methods := #[]
  instanceTypes := #[]
  staticTypes := #[]
  resolved := Array.replicate 37 none
  statics := none }

def pool8 : Array CpInfo := pool [(1, .methodref 2 3), (0, .class_ 4), (0, .nameAndType 5 6), (0, u "java/lang/Object"), (0, u "<init>"), (0, u "()V"), (0, .string 8), (0, u ""), (0, .fieldref 10 11), (0, .class_ 12), (0, .nameAndType 13 14), (0, u "java/lang/String"), (0, u "value"), (0, u "[B"), (0, .fieldref 10 16), (0, .nameAndType 17 18), (0, u "coder"), (0, u "B"), (2, u "hash"), (0, u "I"), (2, u "hashIsZero"), (0, u "Z"), (0, .methodref 10 28), (0, .nameAndType 5 29), (0, u "([CIILjava/lang/Void;)V"), (8, .fieldref 10 39), (0, .nameAndType 40 26), (0, u "COMPACT_STRINGS"), (1, .class_ 44), (1, u "java/lang/StringUTF16"), (0, u "compress"), (1, .methodref 42 48), (0, .nameAndType 49 50), (0, u "coderFromArrayLen"), (0, u "([BI)B"), (2, u "toBytes"), (0, .methodref 55 56), (0, .class_ 57), (0, .nameAndType 58 59), (0, u "java/util/Arrays"), (0, u "copyOfRange"), (0, u "([BII)[B"), (47, .class_ 109), (1, u "java/lang/StringLatin1"), (32, u "()Z"), (34, .methodref 42 178), (0, .nameAndType 45 179), (0, u "([CII)[B"), (13, .class_ 195), (1, u "java/lang/System"), (13, .methodref 10 210), (0, .nameAndType 5 211), (0, u "([BB)V"), (0, .methodref 193 213), (0, .nameAndType 214 215), (0, u "arraycopy"), (0, u "(Ljava/lang/Object;ILjava/lang/Object;II)V"), (118, u "()I"), (0, .methodref 10 336), (0, .nameAndType 17 337), (0, u "()B"), (2, u "()[B"), (22, u "([BI)C"), (5, u "(C)Z"), (21, u "(II)V"), (35, u "(I)C"), (61, .methodref 10 490), (0, .nameAndType 5 491), (0, u "(Ljava/lang/AbstractStringBuilder;Ljava/lang/Void;)V"), (0, .methodref 10 493), (0, .nameAndType 494 142), (0, u "isLatin1"), (0, .methodref 107 496), (0, .nameAndType 497 363), (0, u "charAt"), (3, u "checkIndex"), (4, .nameAndType 507 334), (0, u "length"), (24, u "getBytes"), (16, .methodref 550 506), (0, .class_ 551), (0, u "java/lang/AbstractStringBuilder"), (0, .methodref 550 553), (0, .nameAndType 554 340), (0, u "getValue"), (20, .class_ 576), (0, u "java/lang/CharSequence"), (22, u "CASE_INSENSITIVE_ORDER"), (0, u "Ljava/util/Comparator;"), (181, u "valueOf"), (0, u "(C)Ljava/lang/String;"), (37, u "([BIB)V"), (188, u "([C)V"), (4, .methodref 107 1016), (0, .nameAndType 1017 369), (0, u "canEncode"), (0, .methodref 107 1019), (0, .nameAndType 53 1020), (0, u "(C)[B"), (26, .methodref 550 493), (5, .fieldref 1054 1055), (0, .class_ 1056), (0, .nameAndType 1057 1058), (0, u "jdk/internal/util/Preconditions"), (0, u "SIOOBE_FORMATTER"), (0, u "Ljava/util/function/BiFunction;"), (0, .methodref 1054 1060), (0, .nameAndType 501 1061), (0, u "(IILjava/util/function/BiFunction;)I"), (39, u "serialPersistentFields"), (0, u "[Ljava/io/ObjectStreamField;"), (0, .class_ 1104), (0, u "java/lang/String$CaseInsensitiveComparator"), (1, .class_ 1107), (0, u "java/io/Serializable"), (0, .class_ 1109), (0, u "java/lang/Comparable"), (0, .class_ 1111), (0, u "java/lang/constant/Constable"), (0, .class_ 1113), (0, u "java/lang/constant/ConstantDesc"), (2, u "serialVersionUID"), (0, u "J"), (3, u "REPL"), (0, u "C"), (2, u "LATIN1"), (1, u "UTF16"), (105, u "(Ljava/lang/StringBuilder;)V")] 217

def k8m0 : Method := { name := "<init>", desc := "()V", sig := { parameters := [], returnType := none }, accessFlags := 1, code := none }
def k8c1 : Code := { maxStack := 5, maxLocals := 2, code := jdk_42_method_3_code, exceptionTable := #[], attributes := #[] }
def k8m1 : Method := { name := "<init>", desc := "([C)V", sig := { parameters := [(.array .char)], returnType := none }, accessFlags := 1, code := some k8c1 }
def k8c2 : Code := { maxStack := 3, maxLocals := 2, code := jdk_42_method_53_code, exceptionTable := #[], attributes := #[] }
def k8m2 : Method := { name := "<init>", desc := "(Ljava/lang/StringBuilder;)V", sig := { parameters := [(.object "java/lang/StringBuilder")], returnType := none }, accessFlags := 1, code := some k8c2 }
def k8c3 : Code := { maxStack := 2, maxLocals := 1, code := jdk_42_method_54_code, exceptionTable := #[], attributes := #[] }
def k8m3 : Method := { name := "length", desc := "()I", sig := { parameters := [], returnType := some .int }, accessFlags := 1, code := some k8c3 }
def k8c4 : Code := { maxStack := 2, maxLocals := 2, code := jdk_42_method_56_code, exceptionTable := #[], attributes := #[] }
def k8m4 : Method := { name := "charAt", desc := "(I)C", sig := { parameters := [.int], returnType := some .char }, accessFlags := 1, code := some k8c4 }
def k8c5 : Code := { maxStack := 4, maxLocals := 1, code := jdk_42_method_139_code, exceptionTable := #[], attributes := #[] }
def k8m5 : Method := { name := "valueOf", desc := "(C)Ljava/lang/String;", sig := { parameters := [.char], returnType := some (.object "java/lang/String") }, accessFlags := 9, code := some k8c5 }
def k8c6 : Code := { maxStack := 5, maxLocals := 4, code := jdk_42_method_147_code, exceptionTable := #[], attributes := #[] }
def k8m6 : Method := { name := "getBytes", desc := "([BIB)V", sig := { parameters := [(.array .byte), .int, .byte], returnType := none }, accessFlags := 0, code := some k8c6 }
def k8c7 : Code := { maxStack := 4, maxLocals := 6, code := jdk_42_method_149_code, exceptionTable := #[], attributes := #[] }
def k8m7 : Method := { name := "<init>", desc := "([CIILjava/lang/Void;)V", sig := { parameters := [(.array .char), .int, .int, (.object "java/lang/Void")], returnType := none }, accessFlags := 2, code := some k8c7 }
def k8c8 : Code := { maxStack := 5, maxLocals := 5, code := jdk_42_method_150_code, exceptionTable := #[], attributes := #[] }
def k8m8 : Method := { name := "<init>", desc := "(Ljava/lang/AbstractStringBuilder;Ljava/lang/Void;)V", sig := { parameters := [(.object "java/lang/AbstractStringBuilder"), (.object "java/lang/Void")], returnType := none }, accessFlags := 0, code := some k8c8 }
def k8c9 : Code := { maxStack := 2, maxLocals := 3, code := jdk_42_method_151_code, exceptionTable := #[], attributes := #[] }
def k8m9 : Method := { name := "<init>", desc := "([BB)V", sig := { parameters := [(.array .byte), .byte], returnType := none }, accessFlags := 0, code := some k8c9 }
def k8c10 : Code := { maxStack := 1, maxLocals := 1, code := jdk_42_method_152_code, exceptionTable := #[], attributes := #[] }
def k8m10 : Method := { name := "coder", desc := "()B", sig := { parameters := [], returnType := some .byte }, accessFlags := 0, code := some k8c10 }
def k8c11 : Code := { maxStack := 1, maxLocals := 1, code := jdk_42_method_154_code, exceptionTable := #[], attributes := #[] }
def k8m11 : Method := { name := "isLatin1", desc := "()Z", sig := { parameters := [], returnType := some .boolean }, accessFlags := 0, code := some k8c11 }
def k8c12 : Code := { maxStack := 3, maxLocals := 2, code := jdk_42_method_155_code, exceptionTable := #[], attributes := #[] }
def k8m12 : Method := { name := "checkIndex", desc := "(II)V", sig := { parameters := [.int, .int], returnType := none }, accessFlags := 8, code := some k8c12 }
/-- java/lang/String -/
def k8 : Class := { plain "java/lang/String" (some 0) with
  accessFlags := 49
  interfaces := #[3, 4, 5, 6, 7]
  cf := some (fileOf pool8 10 #[.nestMembers #[1103]] #[{ accessFlags := 1, nameIndex := 5, descriptorIndex := 6, attributes := #[] }, { accessFlags := 1, nameIndex := 5, descriptorIndex := 1010, attributes := #[] }, { accessFlags := 1, nameIndex := 5, descriptorIndex := 1233, attributes := #[] }, { accessFlags := 1, nameIndex := 507, descriptorIndex := 334, attributes := #[] }, { accessFlags := 1, nameIndex := 497, descriptorIndex := 427, attributes := #[] }, { accessFlags := 9, nameIndex := 782, descriptorIndex := 783, attributes := #[] }, { accessFlags := 0, nameIndex := 532, descriptorIndex := 821, attributes := #[] }, { accessFlags := 2, nameIndex := 5, descriptorIndex := 29, attributes := #[] }, { accessFlags := 0, nameIndex := 5, descriptorIndex := 491, attributes := #[] }, { accessFlags := 0, nameIndex := 5, descriptorIndex := 211, attributes := #[] }, { accessFlags := 0, nameIndex := 17, descriptorIndex := 337, attributes := #[] }, { accessFlags := 0, nameIndex := 494, descriptorIndex := 142, attributes := #[] }, { accessFlags := 8, nameIndex := 501, descriptorIndex := 391, attributes := #[] }] 49 2 #[1106, 1108, 575, 1110, 1112] #[{ accessFlags := 18, nameIndex := 13, descriptorIndex := 14, attributes := #[] }, { accessFlags := 18, nameIndex := 17, descriptorIndex := 18, attributes := #[] }, { accessFlags := 2, nameIndex := 21, descriptorIndex := 22, attributes := #[] }, { accessFlags := 2, nameIndex := 25, descriptorIndex := 26, attributes := #[] }, { accessFlags := 26, nameIndex := 1116, descriptorIndex := 1117, attributes := #[] }, { accessFlags := 24, nameIndex := 40, descriptorIndex := 26, attributes := #[] }, { accessFlags := 26, nameIndex := 1101, descriptorIndex := 1102, attributes := #[] }, { accessFlags := 26, nameIndex := 1121, descriptorIndex := 1122, attributes := #[] }, { accessFlags := 25, nameIndex := 599, descriptorIndex := 600, attributes := #[] }, { accessFlags := 24, nameIndex := 1125, descriptorIndex := 18, attributes := #[] }, { accessFlags := 24, nameIndex := 1127, descriptorIndex := 18, attributes := #[] }])
  fields := #[{ name := "value", type := (.array .byte), accessFlags := 18, slot := 0, constantValue := 0 }, { name := "coder", type := .byte, accessFlags := 18, slot := 1, constantValue := 0 }, { name := "hash", type := .int, accessFlags := 2, slot := 2, constantValue := 0 }, { name := "hashIsZero", type := .boolean, accessFlags := 2, slot := 3, constantValue := 0 }, { name := "serialVersionUID", type := .long, accessFlags := 26, slot := 0, constantValue := 0 }, { name := "COMPACT_STRINGS", type := .boolean, accessFlags := 24, slot := 1, constantValue := 0 }, { name := "serialPersistentFields", type := (.array (.object "java/io/ObjectStreamField")), accessFlags := 26, slot := 2, constantValue := 0 }, { name := "REPL", type := .char, accessFlags := 26, slot := 3, constantValue := 0 }, { name := "CASE_INSENSITIVE_ORDER", type := (.object "java/util/Comparator"), accessFlags := 25, slot := 4, constantValue := 0 }, { name := "LATIN1", type := .byte, accessFlags := 24, slot := 5, constantValue := 0 }, { name := "UTF16", type := .byte, accessFlags := 24, slot := 6, constantValue := 0 }]
  methods := #[k8m0, k8m1, k8m2, k8m3, k8m4, k8m5, k8m6, k8m7, k8m8, k8m9, k8m10, k8m11, k8m12]
  instanceTypes := #[(.array .byte), .byte, .int, .boolean]
  staticTypes := #[.long, .boolean, (.array (.object "java/io/ObjectStreamField")), .char, (.object "java/util/Comparator"), .byte, .byte]
  resolved := Array.replicate 1451 none
  statics := some 0 }

def pool9 : Array CpInfo := pool [(1, .class_ 2), (0, u "java/lang/Appendable"), (0, .class_ 4), (0, u "java/lang/Object")] 9

/-- java/lang/Appendable -/
def k9 : Class := { plain "java/lang/Appendable" (some 0) with
  accessFlags := 1537
  interfaces := #[]
  cf := some (fileOf pool9 1 #[] #[] 1537 3 #[] #[])
  fields := #[]
  methods := #[]
  instanceTypes := #[]
  staticTypes := #[]
  resolved := Array.replicate 14 none
  statics := none }

def pool10 : Array CpInfo := pool [(1, .class_ 2), (0, u "java/lang/String"), (0, .methodref 4 5), (0, .class_ 6), (0, .nameAndType 7 8), (0, u "java/lang/Object"), (0, u "<init>"), (0, u "()V"), (1, .class_ 12), (1, u "java/lang/AbstractStringBuilder"), (0, u "EMPTYVALUE"), (0, u "[B"), (0, .fieldref 10 16), (0, .nameAndType 17 14), (0, u "value"), (0, .fieldref 1 19), (0, .nameAndType 20 21), (0, u "COMPACT_STRINGS"), (0, u "Z"), (0, .fieldref 10 23), (0, .nameAndType 24 25), (0, u "coder"), (0, u "B"), (6, .methodref 1 33), (0, .nameAndType 34 35), (0, u "length"), (0, u "()I"), (4, .methodref 1 41), (0, .nameAndType 24 42), (0, u "()B"), (2, u "append"), (0, u "(Ljava/lang/String;)Ljava/lang/AbstractStringBuilder;"), (1, .class_ 49), (0, u "java/lang/CharSequence"), (19, u "(Ljava/lang/String;)V"), (5, u "maybeLatin1"), (3, .fieldref 10 80), (0, .nameAndType 81 82), (0, u "count"), (0, u "I"), (2, u "isLatin1"), (0, u "()Z"), (13, .methodref 10 101), (0, .nameAndType 102 103), (0, u "ensureCapacityInternal"), (0, u "(I)V"), (104, .methodref 10 209), (0, .nameAndType 210 211), (0, u "putStringAt"), (0, u "(ILjava/lang/String;)V"), (5, u "inflateIfNeededFor"), (2, .nameAndType 221 222), (0, u "getBytes"), (0, u "([BIB)V"), (174, .methodref 10 398), (0, .nameAndType 217 69), (0, .methodref 1 220), (3, u "()[B"), (40, .class_ 445), (0, u "java/lang/Appendable"), (106, u "getValue")] 56

def k10m0 : Method := { name := "<init>", desc := "()V", sig := { parameters := [], returnType := none }, accessFlags := 0, code := none }
def k10c1 : Code := { maxStack := 2, maxLocals := 2, code := jdk_68_method_2_code, exceptionTable := #[], attributes := #[] }
def k10m1 : Method := { name := "<init>", desc := "(I)V", sig := { parameters := [.int], returnType := none }, accessFlags := 0, code := some k10c1 }
def k10c2 : Code := { maxStack := 1, maxLocals := 1, code := jdk_68_method_6_code, exceptionTable := #[], attributes := #[] }
def k10m2 : Method := { name := "length", desc := "()I", sig := { parameters := [], returnType := some .int }, accessFlags := 1, code := some k10c2 }
def k10c3 : Code := { maxStack := 4, maxLocals := 3, code := jdk_68_method_9_code, exceptionTable := #[], attributes := #[] }
def k10m3 : Method := { name := "ensureCapacityInternal", desc := "(I)V", sig := { parameters := [.int], returnType := none }, accessFlags := 2, code := some k10c3 }
def k10c4 : Code := { maxStack := 3, maxLocals := 3, code := jdk_68_method_22_code, exceptionTable := #[], attributes := #[] }
def k10m4 : Method := { name := "append", desc := "(Ljava/lang/String;)Ljava/lang/AbstractStringBuilder;", sig := { parameters := [(.object "java/lang/String")], returnType := some (.object "java/lang/AbstractStringBuilder") }, accessFlags := 1, code := some k10c4 }
def k10c5 : Code := { maxStack := 1, maxLocals := 1, code := jdk_68_method_64_code, exceptionTable := #[], attributes := #[] }
def k10m5 : Method := { name := "getValue", desc := "()[B", sig := { parameters := [], returnType := some (.array .byte) }, accessFlags := 16, code := some k10c5 }
def k10c6 : Code := { maxStack := 1, maxLocals := 1, code := jdk_68_method_68_code, exceptionTable := #[], attributes := #[] }
def k10m6 : Method := { name := "isLatin1", desc := "()Z", sig := { parameters := [], returnType := some .boolean }, accessFlags := 16, code := some k10c6 }
def k10c7 : Code := { maxStack := 2, maxLocals := 2, code := jdk_68_method_71_code, exceptionTable := #[], attributes := #[] }
def k10m7 : Method := { name := "inflateIfNeededFor", desc := "(Ljava/lang/String;)V", sig := { parameters := [(.object "java/lang/String")], returnType := none }, accessFlags := 2, code := some k10c7 }
def k10c8 : Code := { maxStack := 4, maxLocals := 3, code := jdk_68_method_73_code, exceptionTable := #[], attributes := #[] }
def k10m8 : Method := { name := "putStringAt", desc := "(ILjava/lang/String;)V", sig := { parameters := [.int, (.object "java/lang/String")], returnType := none }, accessFlags := 2, code := some k10c8 }
/-- java/lang/AbstractStringBuilder -/
def k10 : Class := { plain "java/lang/AbstractStringBuilder" (some 0) with
  accessFlags := 1056
  interfaces := #[9, 5]
  cf := some (fileOf pool10 10 #[] #[{ accessFlags := 0, nameIndex := 7, descriptorIndex := 8, attributes := #[] }, { accessFlags := 0, nameIndex := 7, descriptorIndex := 103, attributes := #[] }, { accessFlags := 1, nameIndex := 34, descriptorIndex := 35, attributes := #[] }, { accessFlags := 2, nameIndex := 102, descriptorIndex := 103, attributes := #[] }, { accessFlags := 1, nameIndex := 45, descriptorIndex := 46, attributes := #[] }, { accessFlags := 16, nameIndex := 552, descriptorIndex := 403, attributes := #[] }, { accessFlags := 16, nameIndex := 85, descriptorIndex := 86, attributes := #[] }, { accessFlags := 2, nameIndex := 217, descriptorIndex := 69, attributes := #[] }, { accessFlags := 2, nameIndex := 210, descriptorIndex := 211, attributes := #[] }] 1056 4 #[444, 48] #[{ accessFlags := 0, nameIndex := 17, descriptorIndex := 14, attributes := #[] }, { accessFlags := 0, nameIndex := 24, descriptorIndex := 25, attributes := #[] }, { accessFlags := 0, nameIndex := 75, descriptorIndex := 21, attributes := #[] }, { accessFlags := 0, nameIndex := 81, descriptorIndex := 82, attributes := #[] }, { accessFlags := 26, nameIndex := 13, descriptorIndex := 14, attributes := #[] }])
  fields := #[{ name := "value", type := (.array .byte), accessFlags := 0, slot := 0, constantValue := 0 }, { name := "coder", type := .byte, accessFlags := 0, slot := 1, constantValue := 0 }, { name := "maybeLatin1", type := .boolean, accessFlags := 0, slot := 2, constantValue := 0 }, { name := "count", type := .int, accessFlags := 0, slot := 3, constantValue := 0 }, { name := "EMPTYVALUE", type := (.array .byte), accessFlags := 26, slot := 0, constantValue := 0 }]
  methods := #[k10m0, k10m1, k10m2, k10m3, k10m4, k10m5, k10m6, k10m7, k10m8]
  instanceTypes := #[(.array .byte), .byte, .boolean, .int]
  staticTypes := #[(.array .byte)]
  resolved := Array.replicate 609 none
  statics := none }

def pool11 : Array CpInfo := pool [(1, .methodref 2 3), (0, .class_ 4), (0, .nameAndType 5 6), (0, u "java/lang/AbstractStringBuilder"), (0, u "<init>"), (0, u "(I)V"), (11, .class_ 20), (1, u "java/lang/String"), (3, .class_ 26), (1, u "java/lang/StringBuilder"), (0, u "append"), (0, u "(Ljava/lang/String;)Ljava/lang/StringBuilder;"), (0, .methodref 2 30), (0, .nameAndType 27 31), (0, u "(Ljava/lang/String;)Ljava/lang/AbstractStringBuilder;"), (105, .methodref 18 138), (0, .nameAndType 5 139), (0, u "(Ljava/lang/StringBuilder;)V"), (5, u "()V"), (10, u "()I"), (186, .methodref 2 344), (0, .nameAndType 345 156), (0, u "length"), (3, .class_ 350), (0, u "java/lang/Appendable"), (0, .class_ 352), (0, u "java/io/Serializable"), (0, .class_ 354), (0, u "java/lang/Comparable"), (0, .class_ 356), (0, u "java/lang/CharSequence"), (0, u "serialVersionUID"), (0, u "J"), (40, u "toString"), (0, u "()Ljava/lang/String;")] 21

def k11c0 : Code := { maxStack := 2, maxLocals := 1, code := jdk_67_method_1_code, exceptionTable := #[], attributes := #[] }
def k11m0 : Method := { name := "<init>", desc := "()V", sig := { parameters := [], returnType := none }, accessFlags := 1, code := some k11c0 }
def k11c1 : Code := { maxStack := 2, maxLocals := 2, code := jdk_67_method_7_code, exceptionTable := #[], attributes := #[] }
def k11m1 : Method := { name := "append", desc := "(Ljava/lang/String;)Ljava/lang/StringBuilder;", sig := { parameters := [(.object "java/lang/String")], returnType := some (.object "java/lang/StringBuilder") }, accessFlags := 1, code := some k11c1 }
def k11c2 : Code := { maxStack := 3, maxLocals := 1, code := jdk_67_method_42_code, exceptionTable := #[], attributes := #[] }
def k11m2 : Method := { name := "toString", desc := "()Ljava/lang/String;", sig := { parameters := [], returnType := some (.object "java/lang/String") }, accessFlags := 1, code := some k11c2 }
def k11c3 : Code := { maxStack := 1, maxLocals := 1, code := jdk_67_method_93_code, exceptionTable := #[], attributes := #[] }
def k11m3 : Method := { name := "length", desc := "()I", sig := { parameters := [], returnType := some .int }, accessFlags := 4161, code := some k11c3 }
/-- java/lang/StringBuilder -/
def k11 : Class := { plain "java/lang/StringBuilder" (some 10) with
  accessFlags := 49
  interfaces := #[9, 3, 4, 5]
  cf := some (fileOf pool11 24 #[] #[{ accessFlags := 1, nameIndex := 5, descriptorIndex := 145, attributes := #[] }, { accessFlags := 1, nameIndex := 27, descriptorIndex := 28, attributes := #[] }, { accessFlags := 1, nameIndex := 399, descriptorIndex := 400, attributes := #[] }, { accessFlags := 4161, nameIndex := 345, descriptorIndex := 156, attributes := #[] }] 49 2 #[349, 351, 353, 355] #[{ accessFlags := 24, nameIndex := 357, descriptorIndex := 358, attributes := #[] }])
  fields := #[{ name := "serialVersionUID", type := .long, accessFlags := 24, slot := 0, constantValue := 0 }]
  methods := #[k11m0, k11m1, k11m2, k11m3]
  instanceTypes := #[(.array .byte), .byte, .boolean, .int]
  staticTypes := #[.long]
  resolved := Array.replicate 422 none
  statics := none }

def pool12 : Array CpInfo := pool [(2, .class_ 4), (1, u "java/lang/Object"), (0, u "<init>"), (0, u "()V"), (1, .class_ 10), (1, u "java/lang/System"), (0, u "allowSecurityManager"), (0, u "I"), (16, u "cons"), (0, u "Ljava/io/Console;"), (77, .class_ 110), (1, u "java/lang/System$CallersHolder"), (43, u "initialErrStream"), (0, u "Ljava/io/PrintStream;"), (19, u "security"), (0, u "Ljava/lang/SecurityManager;"), (31, .class_ 209), (0, u "java/lang/System$1"), (7, u "props"), (0, u "Ljava/util/Properties;"), (2, u "lineSeparator"), (0, u "Ljava/lang/String;"), (96, .class_ 321), (1, u "java/lang/System$LoggerFinder"), (5, .class_ 328), (0, u "java/lang/System$Logger"), (67, u "err"), (2, u "out"), (91, u "notSupportedJnuEncoding"), (15, u "in"), (17, u "initialIn"), (0, u "Ljava/io/InputStream;"), (35, u "bootLayer"), (0, u "Ljava/lang/ModuleLayer;"), (99, .class_ 664), (0, u "java/lang/System$2"), (9, u "NEVER"), (2, u "MAYBE"), (49, u "arraycopy"), (0, u "(Ljava/lang/Object;ILjava/lang/Object;II)V"), (72, .class_ 802), (0, u "java/lang/System$Logger$Level")] 31

def k12m0 : Method := { name := "<init>", desc := "()V", sig := { parameters := [], returnType := none }, accessFlags := 2, code := none }
def k12m1 : Method := { name := "arraycopy", desc := "(Ljava/lang/Object;ILjava/lang/Object;II)V", sig := { parameters := [(.object "java/lang/Object"), .int, (.object "java/lang/Object"), .int, .int], returnType := none }, accessFlags := 265, code := none }
/-- java/lang/System -/
def k12 : Class := { plain "java/lang/System" (some 0) with
  accessFlags := 49
  interfaces := #[]
  cf := some (fileOf pool12 8 #[.nestMembers #[319, 327, 801, 108, 663, 208]] #[{ accessFlags := 2, nameIndex := 5, descriptorIndex := 6, attributes := #[] }, { accessFlags := 265, nameIndex := 727, descriptorIndex := 728, attributes := #[] }] 49 2 #[] #[{ accessFlags := 25, nameIndex := 507, descriptorIndex := 526, attributes := #[] }, { accessFlags := 25, nameIndex := 399, descriptorIndex := 155, attributes := #[] }, { accessFlags := 25, nameIndex := 396, descriptorIndex := 155, attributes := #[] }, { accessFlags := 10, nameIndex := 525, descriptorIndex := 526, attributes := #[] }, { accessFlags := 26, nameIndex := 674, descriptorIndex := 12, attributes := #[] }, { accessFlags := 26, nameIndex := 677, descriptorIndex := 12, attributes := #[] }, { accessFlags := 10, nameIndex := 11, descriptorIndex := 12, attributes := #[] }, { accessFlags := 74, nameIndex := 175, descriptorIndex := 176, attributes := #[] }, { accessFlags := 10, nameIndex := 491, descriptorIndex := 222, attributes := #[] }, { accessFlags := 74, nameIndex := 29, descriptorIndex := 30, attributes := #[] }, { accessFlags := 74, nameIndex := 154, descriptorIndex := 155, attributes := #[] }, { accessFlags := 10, nameIndex := 217, descriptorIndex := 218, attributes := #[] }, { accessFlags := 10, nameIndex := 221, descriptorIndex := 222, attributes := #[] }, { accessFlags := 8, nameIndex := 562, descriptorIndex := 563, attributes := #[] }])
  fields := #[{ name := "in", type := (.object "java/io/InputStream"), accessFlags := 25, slot := 0, constantValue := 0 }, { name := "out", type := (.object "java/io/PrintStream"), accessFlags := 25, slot := 1, constantValue := 0 }, { name := "err", type := (.object "java/io/PrintStream"), accessFlags := 25, slot := 2, constantValue := 0 }, { name := "initialIn", type := (.object "java/io/InputStream"), accessFlags := 10, slot := 3, constantValue := 0 }, { name := "NEVER", type := .int, accessFlags := 26, slot := 4, constantValue := 0 }, { name := "MAYBE", type := .int, accessFlags := 26, slot := 5, constantValue := 0 }, { name := "allowSecurityManager", type := .int, accessFlags := 10, slot := 6, constantValue := 0 }, { name := "security", type := (.object "java/lang/SecurityManager"), accessFlags := 74, slot := 7, constantValue := 0 }, { name := "notSupportedJnuEncoding", type := (.object "java/lang/String"), accessFlags := 10, slot := 8, constantValue := 0 }, { name := "cons", type := (.object "java/io/Console"), accessFlags := 74, slot := 9, constantValue := 0 }, { name := "initialErrStream", type := (.object "java/io/PrintStream"), accessFlags := 74, slot := 10, constantValue := 0 }, { name := "props", type := (.object "java/util/Properties"), accessFlags := 10, slot := 11, constantValue := 0 }, { name := "lineSeparator", type := (.object "java/lang/String"), accessFlags := 10, slot := 12, constantValue := 0 }, { name := "bootLayer", type := (.object "java/lang/ModuleLayer"), accessFlags := 8, slot := 13, constantValue := 0 }]
  methods := #[k12m0, k12m1]
  instanceTypes := #[]
  staticTypes := #[(.object "java/io/InputStream"), (.object "java/io/PrintStream"), (.object "java/io/PrintStream"), (.object "java/io/InputStream"), .int, .int, .int, (.object "java/lang/SecurityManager"), (.object "java/lang/String"), (.object "java/io/Console"), (.object "java/io/PrintStream"), (.object "java/util/Properties"), (.object "java/lang/String"), (.object "java/lang/ModuleLayer")]
  resolved := Array.replicate 834 none
  statics := none }

def pool13 : Array CpInfo := pool [(2, .class_ 4), (1, u "java/lang/Object"), (0, u "<init>"), (0, u "()V"), (7, .class_ 16), (1, u "java/util/Arrays"), (57, .class_ 76), (1, u "java/util/Arrays$NaturalOrder"), (36, .class_ 115), (1, u "java/util/Arrays$LegacyMergeSort"), (1, u "Z"), (21, u "copyOfRange"), (10, .methodref 151 152), (0, .class_ 153), (0, .nameAndType 154 155), (0, u "java/lang/System"), (0, u "arraycopy"), (0, u "(Ljava/lang/Object;ILjava/lang/Object;II)V"), (148, .methodref 305 306), (0, .class_ 307), (0, .nameAndType 308 309), (0, u "java/lang/Math"), (0, u "min"), (0, u "(II)I"), (29, .methodref 14 340), (0, .nameAndType 341 342), (0, u "copyOfRangeByte"), (0, u "([BII)[B"), (0, .methodref 14 344), (0, .nameAndType 345 346), (0, u "checkLength"), (0, u "(II)V"), (28, .class_ 376), (0, u "java/util/Arrays$ArrayList"), (68, u "$assertionsDisabled"), (269, u "MIN_ARRAY_SORT_GRAN"), (0, u "I"), (2, u "INSERTIONSORT_THRESHOLD"), (255, .class_ 976), (0, u "java/util/Arrays$ArrayItr")] 52

def k13m0 : Method := { name := "<init>", desc := "()V", sig := { parameters := [], returnType := none }, accessFlags := 2, code := none }
def k13c1 : Code := { maxStack := 4, maxLocals := 2, code := jdk_65_method_131_code, exceptionTable := #[], attributes := #[] }
def k13m1 : Method := { name := "checkLength", desc := "(II)V", sig := { parameters := [.int, .int], returnType := none }, accessFlags := 10, code := some k13c1 }
def k13c2 : Code := { maxStack := 3, maxLocals := 3, code := jdk_65_method_132_code, exceptionTable := #[], attributes := #[] }
def k13m2 : Method := { name := "copyOfRange", desc := "([BII)[B", sig := { parameters := [(.array .byte), .int, .int], returnType := some (.array .byte) }, accessFlags := 9, code := some k13c2 }
def k13c3 : Code := { maxStack := 6, maxLocals := 5, code := jdk_65_method_133_code, exceptionTable := #[], attributes := #[] }
def k13m3 : Method := { name := "copyOfRangeByte", desc := "([BII)[B", sig := { parameters := [(.array .byte), .int, .int], returnType := some (.array .byte) }, accessFlags := 10, code := some k13c3 }
/-- java/util/Arrays -/
def k13 : Class := { plain "java/util/Arrays" (some 0) with
  accessFlags := 49
  interfaces := #[]
  cf := some (fileOf pool13 14 #[.nestMembers #[975, 375, 113, 74]] #[{ accessFlags := 2, nameIndex := 5, descriptorIndex := 6, attributes := #[] }, { accessFlags := 10, nameIndex := 345, descriptorIndex := 346, attributes := #[] }, { accessFlags := 9, nameIndex := 139, descriptorIndex := 342, attributes := #[] }, { accessFlags := 10, nameIndex := 341, descriptorIndex := 342, attributes := #[] }] 49 2 #[] #[{ accessFlags := 26, nameIndex := 715, descriptorIndex := 716, attributes := #[] }, { accessFlags := 26, nameIndex := 719, descriptorIndex := 716, attributes := #[] }, { accessFlags := 4120, nameIndex := 445, descriptorIndex := 117, attributes := #[] }])
  fields := #[{ name := "MIN_ARRAY_SORT_GRAN", type := .int, accessFlags := 26, slot := 0, constantValue := 0 }, { name := "INSERTIONSORT_THRESHOLD", type := .int, accessFlags := 26, slot := 1, constantValue := 0 }, { name := "$assertionsDisabled", type := .boolean, accessFlags := 4120, slot := 2, constantValue := 0 }]
  methods := #[k13m0, k13m1, k13m2, k13m3]
  instanceTypes := #[]
  staticTypes := #[.int, .int, .boolean]
  resolved := Array.replicate 1029 none
  statics := none }

def pool14 : Array CpInfo := pool [(1, .class_ 2), (0, u "java/lang/Math"), (1, .class_ 6), (1, u "java/lang/Object"), (0, u "<init>"), (0, u "()V"), (89, .class_ 100), (1, u "java/lang/Math$RandomNumberGeneratorHolder"), (71, u "negativeZeroFloatBits"), (0, u "J"), (2, u "negativeZeroDoubleBits"), (24, u "min"), (43, u "$assertionsDisabled"), (0, u "Z"), (88, u "(II)I"), (2, u "twoToTheDoubleScaleDown"), (0, u "D"), (4, u "twoToTheDoubleScaleUp"), (9, u "E"), (3, u "PI"), (2, u "TAU"), (2, u "DEGREES_TO_RADIANS"), (0, u "RADIANS_TO_DEGREES")] 94

def k14m0 : Method := { name := "<init>", desc := "()V", sig := { parameters := [], returnType := none }, accessFlags := 2, code := none }
def k14c1 : Code := { maxStack := 2, maxLocals := 2, code := jdk_29_method_69_code, exceptionTable := #[], attributes := #[] }
def k14m1 : Method := { name := "min", desc := "(II)I", sig := { parameters := [.int, .int], returnType := some .int }, accessFlags := 9, code := some k14c1 }
/-- java/lang/Math -/
def k14 : Class := { plain "java/lang/Math" (some 0) with
  accessFlags := 49
  interfaces := #[]
  cf := some (fileOf pool14 1 #[.nestMembers #[98]] #[{ accessFlags := 2, nameIndex := 7, descriptorIndex := 8, attributes := #[] }, { accessFlags := 9, nameIndex := 201, descriptorIndex := 335, attributes := #[] }] 49 4 #[] #[{ accessFlags := 25, nameIndex := 354, descriptorIndex := 339, attributes := #[] }, { accessFlags := 25, nameIndex := 358, descriptorIndex := 339, attributes := #[] }, { accessFlags := 25, nameIndex := 361, descriptorIndex := 339, attributes := #[] }, { accessFlags := 26, nameIndex := 364, descriptorIndex := 339, attributes := #[] }, { accessFlags := 26, nameIndex := 365, descriptorIndex := 339, attributes := #[] }, { accessFlags := 26, nameIndex := 172, descriptorIndex := 173, attributes := #[] }, { accessFlags := 26, nameIndex := 176, descriptorIndex := 173, attributes := #[] }, { accessFlags := 8, nameIndex := 344, descriptorIndex := 339, attributes := #[] }, { accessFlags := 8, nameIndex := 338, descriptorIndex := 339, attributes := #[] }, { accessFlags := 4120, nameIndex := 245, descriptorIndex := 246, attributes := #[] }])
  fields := #[{ name := "E", type := .double, accessFlags := 25, slot := 0, constantValue := 0 }, { name := "PI", type := .double, accessFlags := 25, slot := 1, constantValue := 0 }, { name := "TAU", type := .double, accessFlags := 25, slot := 2, constantValue := 0 }, { name := "DEGREES_TO_RADIANS", type := .double, accessFlags := 26, slot := 3, constantValue := 0 }, { name := "RADIANS_TO_DEGREES", type := .double, accessFlags := 26, slot := 4, constantValue := 0 }, { name := "negativeZeroFloatBits", type := .long, accessFlags := 26, slot := 5, constantValue := 0 }, { name := "negativeZeroDoubleBits", type := .long, accessFlags := 26, slot := 6, constantValue := 0 }, { name := "twoToTheDoubleScaleUp", type := .double, accessFlags := 8, slot := 7, constantValue := 0 }, { name := "twoToTheDoubleScaleDown", type := .double, accessFlags := 8, slot := 8, constantValue := 0 }, { name := "$assertionsDisabled", type := .boolean, accessFlags := 4120, slot := 9, constantValue := 0 }]
  methods := #[k14m0, k14m1]
  instanceTypes := #[]
  staticTypes := #[.double, .double, .double, .double, .double, .long, .long, .double, .double, .boolean]
  resolved := Array.replicate 460 none
  statics := none }

def pool15 : Array CpInfo := pool [(1, .class_ 2), (0, u "java/lang/String"), (1, .class_ 6), (1, u "java/lang/Object"), (0, u "<init>"), (0, u "()V"), (0, .methodref 1 10), (0, .nameAndType 11 12), (0, u "checkIndex"), (0, u "(II)V"), (1, .class_ 16), (1, u "java/lang/StringLatin1"), (36, u "([BI)C"), (36, u "canEncode"), (14, u "(C)Z"), (15, u "$assertionsDisabled"), (0, u "Z"), (98, .class_ 223), (1, u "java/lang/StringLatin1$LinesSpliterator"), (28, u "charAt"), (127, u "toBytes"), (1, u "(C)[B"), (7, .class_ 391), (0, u "java/lang/StringLatin1$CharsSpliterator")] 3

def k15m0 : Method := { name := "<init>", desc := "()V", sig := { parameters := [], returnType := none }, accessFlags := 0, code := none }
def k15c1 : Code := { maxStack := 2, maxLocals := 2, code := jdk_43_method_2_code, exceptionTable := #[], attributes := #[] }
def k15m1 : Method := { name := "charAt", desc := "([BI)C", sig := { parameters := [(.array .byte), .int], returnType := some .char }, accessFlags := 9, code := some k15c1 }
def k15c2 : Code := { maxStack := 2, maxLocals := 1, code := jdk_43_method_3_code, exceptionTable := #[], attributes := #[] }
def k15m2 : Method := { name := "canEncode", desc := "(C)Z", sig := { parameters := [.char], returnType := some .boolean }, accessFlags := 9, code := some k15c2 }
def k15c3 : Code := { maxStack := 4, maxLocals := 1, code := jdk_43_method_46_code, exceptionTable := #[], attributes := #[] }
def k15m3 : Method := { name := "toBytes", desc := "(C)[B", sig := { parameters := [.char], returnType := some (.array .byte) }, accessFlags := 9, code := some k15c3 }
/-- java/lang/StringLatin1 -/
def k15 : Class := { plain "java/lang/StringLatin1" (some 0) with
  accessFlags := 48
  interfaces := #[]
  cf := some (fileOf pool15 14 #[.nestMembers #[390, 221]] #[{ accessFlags := 0, nameIndex := 7, descriptorIndex := 8, attributes := #[] }, { accessFlags := 9, nameIndex := 252, descriptorIndex := 53, attributes := #[] }, { accessFlags := 9, nameIndex := 90, descriptorIndex := 105, attributes := #[] }, { accessFlags := 9, nameIndex := 380, descriptorIndex := 382, attributes := #[] }] 48 4 #[] #[{ accessFlags := 4120, nameIndex := 121, descriptorIndex := 122, attributes := #[] }])
  fields := #[{ name := "$assertionsDisabled", type := .boolean, accessFlags := 4120, slot := 0, constantValue := 0 }]
  methods := #[k15m0, k15m1, k15m2, k15m3]
  instanceTypes := #[]
  staticTypes := #[.boolean]
  resolved := Array.replicate 395 none
  statics := none }

def pool16 : Array CpInfo := pool [(2, .class_ 4), (1, u "java/lang/Object"), (0, u "<init>"), (0, u "()V"), (17, .class_ 26), (1, u "jdk/internal/util/Preconditions"), (6, u "checkIndex"), (21, .class_ 56), (0, u "jdk/internal/util/Preconditions$4"), (57, .class_ 115), (0, u "jdk/internal/util/Preconditions$1"), (7, u "SIOOBE_FORMATTER"), (0, u "Ljava/util/function/BiFunction;"), (0, .class_ 126), (0, u "jdk/internal/util/Preconditions$2"), (3, u "AIOOBE_FORMATTER"), (0, .class_ 132), (0, u "jdk/internal/util/Preconditions$3"), (3, u "IOOBE_FORMATTER"), (41, u "(IILjava/util/function/BiFunction;)I")] 15

def k16m0 : Method := { name := "<init>", desc := "()V", sig := { parameters := [], returnType := none }, accessFlags := 1, code := none }
def k16c1 : Code := { maxStack := 3, maxLocals := 3, code := jdk_41_method_11_code, exceptionTable := #[], attributes := #[] }
def k16m1 : Method := { name := "checkIndex", desc := "(IILjava/util/function/BiFunction;)I", sig := { parameters := [.int, .int, (.object "java/util/function/BiFunction")], returnType := some .int }, accessFlags := 9, code := some k16c1 }
/-- jdk/internal/util/Preconditions -/
def k16 : Class := { plain "jdk/internal/util/Preconditions" (some 0) with
  accessFlags := 33
  interfaces := #[]
  cf := some (fileOf pool16 24 #[.nestMembers #[55, 131, 125, 114]] #[{ accessFlags := 1, nameIndex := 5, descriptorIndex := 6, attributes := #[] }, { accessFlags := 9, nameIndex := 33, descriptorIndex := 178, attributes := #[] }] 33 2 #[] #[{ accessFlags := 25, nameIndex := 123, descriptorIndex := 124, attributes := #[] }, { accessFlags := 25, nameIndex := 130, descriptorIndex := 124, attributes := #[] }, { accessFlags := 25, nameIndex := 136, descriptorIndex := 124, attributes := #[] }])
  fields := #[{ name := "SIOOBE_FORMATTER", type := (.object "java/util/function/BiFunction"), accessFlags := 25, slot := 0, constantValue := 0 }, { name := "AIOOBE_FORMATTER", type := (.object "java/util/function/BiFunction"), accessFlags := 25, slot := 1, constantValue := 0 }, { name := "IOOBE_FORMATTER", type := (.object "java/util/function/BiFunction"), accessFlags := 25, slot := 2, constantValue := 0 }]
  methods := #[k16m0, k16m1]
  instanceTypes := #[]
  staticTypes := #[(.object "java/util/function/BiFunction"), (.object "java/util/function/BiFunction"), (.object "java/util/function/BiFunction")]
  resolved := Array.replicate 194 none
  statics := some 1 }

def pool17 : Array CpInfo := pool [(6, .class_ 8), (1, u "java/lang/Object"), (0, u "<init>"), (0, u "()V"), (1, .class_ 14), (1, u "java/lang/StringUTF16"), (31, u "$assertionsDisabled"), (0, u "Z"), (13, u "HI_BYTE_SHIFT"), (0, u "I"), (2, u "LO_BYTE_SHIFT"), (49, .methodref 12 116), (0, .nameAndType 117 118), (0, u "compress"), (0, u "([CI[BII)I"), (3, u "([CII)[B"), (138, u "coderFromArrayLen"), (0, u "([BI)B"), (106, .class_ 371), (1, u "java/lang/StringUTF16$LinesSpliterator"), (58, u "MAX_LENGTH"), (196, .class_ 628), (0, u "java/lang/StringUTF16$CodePointsSpliterator"), (0, .class_ 630), (0, u "java/lang/StringUTF16$CharsSpliterator")] 4

def k17m0 : Method := { name := "<init>", desc := "()V", sig := { parameters := [], returnType := none }, accessFlags := 0, code := none }
def k17c1 : Code := { maxStack := 2, maxLocals := 2, code := jdk_52_method_15_code, exceptionTable := #[], attributes := #[] }
def k17m1 : Method := { name := "coderFromArrayLen", desc := "([BI)B", sig := { parameters := [(.array .byte), .int], returnType := some .byte }, accessFlags := 8, code := some k17c1 }
def k17c2 : Code := { maxStack := 5, maxLocals := 6, code := jdk_52_method_16_code, exceptionTable := #[], attributes := #[] }
def k17m2 : Method := { name := "compress", desc := "([CII)[B", sig := { parameters := [(.array .char), .int, .int], returnType := some (.array .byte) }, accessFlags := 9, code := some k17c2 }
def k17c3 : Code := { maxStack := 3, maxLocals := 7, code := jdk_52_method_21_code, exceptionTable := #[], attributes := #[] }
def k17m3 : Method := { name := "compress", desc := "([CI[BII)I", sig := { parameters := [(.array .char), .int, (.array .byte), .int, .int], returnType := some .int }, accessFlags := 9, code := some k17c3 }
/-- java/lang/StringUTF16 -/
def k17 : Class := { plain "java/lang/StringUTF16" (some 0) with
  accessFlags := 48
  interfaces := #[]
  cf := some (fileOf pool17 12 #[.nestMembers #[627, 629, 369]] #[{ accessFlags := 0, nameIndex := 9, descriptorIndex := 10, attributes := #[] }, { accessFlags := 8, nameIndex := 261, descriptorIndex := 262, attributes := #[] }, { accessFlags := 9, nameIndex := 117, descriptorIndex := 122, attributes := #[] }, { accessFlags := 9, nameIndex := 117, descriptorIndex := 118, attributes := #[] }] 48 6 #[] #[{ accessFlags := 26, nameIndex := 61, descriptorIndex := 62, attributes := #[] }, { accessFlags := 26, nameIndex := 65, descriptorIndex := 62, attributes := #[] }, { accessFlags := 24, nameIndex := 430, descriptorIndex := 62, attributes := #[] }, { accessFlags := 4120, nameIndex := 46, descriptorIndex := 47, attributes := #[] }])
  fields := #[{ name := "HI_BYTE_SHIFT", type := .int, accessFlags := 26, slot := 0, constantValue := 0 }, { name := "LO_BYTE_SHIFT", type := .int, accessFlags := 26, slot := 1, constantValue := 0 }, { name := "MAX_LENGTH", type := .int, accessFlags := 24, slot := 2, constantValue := 0 }, { name := "$assertionsDisabled", type := .boolean, accessFlags := 4120, slot := 3, constantValue := 0 }]
  methods := #[k17m0, k17m1, k17m2, k17m3]
  instanceTypes := #[]
  staticTypes := #[.int, .int, .int, .boolean]
  resolved := Array.replicate 635 none
  statics := none }

def pool18 : Array CpInfo := pool [(9, u "<init>"), (6, .class_ 18), (1, u "java/lang/Object"), (0, u "()V"), (1, .class_ 23), (1, u "jdk/internal/util/ArraysSupport"), (0, u "LOG2_ARRAY_LONG_INDEX_SCALE"), (0, u "I"), (2, u "U"), (0, u "Ljdk/internal/misc/Unsafe;"), (8, u "BIG_ENDIAN"), (0, u "Z"), (8, u "LOG2_BYTE_BIT_SIZE"), (4, u "LOG2_ARRAY_INT_INDEX_SCALE"), (54, u "JLA"), (0, u "Ljdk/internal/access/JavaLangAccess;"), (11, u "LOG2_ARRAY_BOOLEAN_INDEX_SCALE"), (9, u "LOG2_ARRAY_BYTE_INDEX_SCALE"), (5, u "LOG2_ARRAY_CHAR_INDEX_SCALE"), (5, u "LOG2_ARRAY_SHORT_INDEX_SCALE"), (18, u "LOG2_ARRAY_FLOAT_INDEX_SCALE"), (24, u "LOG2_ARRAY_DOUBLE_INDEX_SCALE"), (89, u "T_BOOLEAN"), (2, u "T_CHAR"), (1, u "T_FLOAT"), (1, u "T_DOUBLE"), (1, u "T_BYTE"), (1, u "T_SHORT"), (1, u "T_INT"), (1, u "T_LONG"), (1, u "SOFT_MAX_ARRAY_LENGTH")] 83

def k18m0 : Method := { name := "<init>", desc := "()V", sig := { parameters := [], returnType := none }, accessFlags := 2, code := none }
/-- jdk/internal/util/ArraysSupport -/
def k18 : Class := { plain "jdk/internal/util/ArraysSupport" (some 0) with
  accessFlags := 33
  interfaces := #[]
  cf := some (fileOf pool18 21 #[] #[{ accessFlags := 2, nameIndex := 9, descriptorIndex := 19, attributes := #[] }] 33 16 #[] #[{ accessFlags := 24, nameIndex := 28, descriptorIndex := 29, attributes := #[] }, { accessFlags := 26, nameIndex := 38, descriptorIndex := 39, attributes := #[] }, { accessFlags := 25, nameIndex := 121, descriptorIndex := 25, attributes := #[] }, { accessFlags := 25, nameIndex := 131, descriptorIndex := 25, attributes := #[] }, { accessFlags := 25, nameIndex := 137, descriptorIndex := 25, attributes := #[] }, { accessFlags := 25, nameIndex := 143, descriptorIndex := 25, attributes := #[] }, { accessFlags := 25, nameIndex := 53, descriptorIndex := 25, attributes := #[] }, { accessFlags := 25, nameIndex := 24, descriptorIndex := 25, attributes := #[] }, { accessFlags := 25, nameIndex := 162, descriptorIndex := 25, attributes := #[] }, { accessFlags := 25, nameIndex := 187, descriptorIndex := 25, attributes := #[] }, { accessFlags := 26, nameIndex := 48, descriptorIndex := 25, attributes := #[] }, { accessFlags := 25, nameIndex := 277, descriptorIndex := 25, attributes := #[] }, { accessFlags := 25, nameIndex := 280, descriptorIndex := 25, attributes := #[] }, { accessFlags := 25, nameIndex := 282, descriptorIndex := 25, attributes := #[] }, { accessFlags := 25, nameIndex := 284, descriptorIndex := 25, attributes := #[] }, { accessFlags := 25, nameIndex := 286, descriptorIndex := 25, attributes := #[] }, { accessFlags := 25, nameIndex := 288, descriptorIndex := 25, attributes := #[] }, { accessFlags := 25, nameIndex := 290, descriptorIndex := 25, attributes := #[] }, { accessFlags := 25, nameIndex := 292, descriptorIndex := 25, attributes := #[] }, { accessFlags := 26, nameIndex := 108, descriptorIndex := 109, attributes := #[] }, { accessFlags := 25, nameIndex := 294, descriptorIndex := 25, attributes := #[] }])
  fields := #[{ name := "U", type := (.object "jdk/internal/misc/Unsafe"), accessFlags := 24, slot := 0, constantValue := 0 }, { name := "BIG_ENDIAN", type := .boolean, accessFlags := 26, slot := 1, constantValue := 0 }, { name := "LOG2_ARRAY_BOOLEAN_INDEX_SCALE", type := .int, accessFlags := 25, slot := 2, constantValue := 0 }, { name := "LOG2_ARRAY_BYTE_INDEX_SCALE", type := .int, accessFlags := 25, slot := 3, constantValue := 0 }, { name := "LOG2_ARRAY_CHAR_INDEX_SCALE", type := .int, accessFlags := 25, slot := 4, constantValue := 0 }, { name := "LOG2_ARRAY_SHORT_INDEX_SCALE", type := .int, accessFlags := 25, slot := 5, constantValue := 0 }, { name := "LOG2_ARRAY_INT_INDEX_SCALE", type := .int, accessFlags := 25, slot := 6, constantValue := 0 }, { name := "LOG2_ARRAY_LONG_INDEX_SCALE", type := .int, accessFlags := 25, slot := 7, constantValue := 0 }, { name := "LOG2_ARRAY_FLOAT_INDEX_SCALE", type := .int, accessFlags := 25, slot := 8, constantValue := 0 }, { name := "LOG2_ARRAY_DOUBLE_INDEX_SCALE", type := .int, accessFlags := 25, slot := 9, constantValue := 0 }, { name := "LOG2_BYTE_BIT_SIZE", type := .int, accessFlags := 26, slot := 10, constantValue := 0 }, { name := "T_BOOLEAN", type := .int, accessFlags := 25, slot := 11, constantValue := 0 }, { name := "T_CHAR", type := .int, accessFlags := 25, slot := 12, constantValue := 0 }, { name := "T_FLOAT", type := .int, accessFlags := 25, slot := 13, constantValue := 0 }, { name := "T_DOUBLE", type := .int, accessFlags := 25, slot := 14, constantValue := 0 }, { name := "T_BYTE", type := .int, accessFlags := 25, slot := 15, constantValue := 0 }, { name := "T_SHORT", type := .int, accessFlags := 25, slot := 16, constantValue := 0 }, { name := "T_INT", type := .int, accessFlags := 25, slot := 17, constantValue := 0 }, { name := "T_LONG", type := .int, accessFlags := 25, slot := 18, constantValue := 0 }, { name := "JLA", type := (.object "jdk/internal/access/JavaLangAccess"), accessFlags := 26, slot := 19, constantValue := 0 }, { name := "SOFT_MAX_ARRAY_LENGTH", type := .int, accessFlags := 25, slot := 20, constantValue := 0 }]
  methods := #[k18m0]
  instanceTypes := #[]
  staticTypes := #[(.object "jdk/internal/misc/Unsafe"), .boolean, .int, .int, .int, .int, .int, .int, .int, .int, .int, .int, .int, .int, .int, .int, .int, .int, .int, (.object "jdk/internal/access/JavaLangAccess"), .int]
  resolved := Array.replicate 378 none
  statics := none }

def pool19 : Array CpInfo := pool [(1, u "java/lang/Cloneable"), (0, .class_ 1), (0, u "java/lang/Object"), (0, .class_ 3)] 3

/-- java/lang/Cloneable -/
def k19 : Class := { plain "java/lang/Cloneable" (some 0) with
  accessFlags := 1537
  interfaces := #[]
  cf := some (fileOf pool19 2 #[] #[] 1537 4 #[] #[])
  fields := #[]
  methods := #[]
  instanceTypes := #[]
  staticTypes := #[]
  resolved := Array.replicate 8 none
  statics := none }

/-- the primitive byte -/
def k20 : Class := { plain "byte" none with kind := .primitive 'B', accessFlags := 0x411 }
/-- [B -/
def k21 : Class := { plain "[B" (some 0) with kind := .array 20 .byte, interfaces := #[19, 3], accessFlags := 1041 }

/-- the primitive char -/
def k22 : Class := { plain "char" none with kind := .primitive 'C', accessFlags := 0x411 }
/-- [C -/
def k23 : Class := { plain "[C" (some 0) with kind := .array 22 .char, interfaces := #[19, 3], accessFlags := 1041 }

/-- the primitive int -/
def k24 : Class := { plain "int" none with kind := .primitive 'I', accessFlags := 0x411 }
/-- [I -/
def k25 : Class := { plain "[I" (some 0) with kind := .array 24 .int, interfaces := #[19, 3], accessFlags := 1041 }

def heap : Heap := #[{ cls := 8, slots := #[.long 0, .int 1, .null, .int 0, .null, .int 0, .int 0], vm := .statics 8 },
  { cls := 16, slots := #[.null, .null, .null], vm := .statics 16 }]
def classes : Array Class := #[k0, k1, k2, k3, k4, k5, k6, k7, k8, k9, k10, k11, k12, k13, k14, k15, k16, k17, k18, k19, k20, k21, k22, k23, k24, k25]
def interned : List (Array UInt16 × Addr) := []
def slotsUsed : Nat := 10
def theMethod : MethodId := ⟨1, 7⟩
def args0 : Array Value := #[.int 5, .int 5, .int 5, .int 5]
def aboutOver (below : List Frame) : State where
  vm := { classes := classes, interned := interned.toArray }
  heap := heap
  slotsUsed := slotsUsed
  threads := #[{ frames := .invoking theMethod args0 :: below }]
def below0 : List Frame := [.native { method := ⟨0, 0⟩, args := #[] }]
def about1 : State := aboutOver below0
def p0 : Program := .bare "" "" ""
def e0 : Env := launch0.env 0 0 0
theorem w_frames : about1.frames = Frame.invoking theMethod args0 :: below0 := rfl
set_option maxRecDepth 65536 in
theorem w_args : argsFit about1.vm theMethod args0 = true := by decide +kernel
set_option maxRecDepth 65536 in
theorem w_heap : heapFits about1 = true := by decide +kernel
set_option maxRecDepth 65536 in
theorem w_runnable : about1.curStatus? = some .runnable := by decide +kernel
set_option maxRecDepth 65536 in
theorem w_alone : about1.alone = true := by decide +kernel
set_option maxRecDepth 65536 in
theorem w_named : about1.methodNamed? x = some theMethod := by decide +kernel
set_option maxRecDepth 65536 in
theorem w_hears : about1.hears theMethod below0 = true := by decide +kernel
set_option maxRecDepth 65536 in
theorem w_ripe : about1.ripe theMethod args0 below0 = true := by decide +kernel
theorem w_running : about1.status = .running := rfl
set_option maxRecDepth 65536 in
theorem w_room : about1.hasRoom e0.platform room_1 = true :=
  launch0.hasRoom_least _ room_1 (by decide +kernel) (by decide +kernel) (by decide +kernel) (by decide +kernel) (by decide +kernel) (by decide +kernel)
theorem allAtoms_all (ts : List Jvm.Cond) (a : Array Jvm.Value) (st : Jvm.State) : (allAtoms ts).before a st = ts.all (fun c => c.before a st) := by
  induction ts with
  | nil => rfl
  | cons c t ih =>
    show (Jvm.Cond.and c (allAtoms t)).before a st = _
    rw [Jvm.Cond.before_and, ih, List.all_cons]
def words1 : List Jvm.Cond := Jvm.Cond.code x code maxLocals ret :: tables_1
/-- a 'code' word, met by the world's own term for the bytes: nothing is compared byte by byte -/
theorem code_word {y : MethodName} {bytes : ByteArray} {mx : Nat} {rt : Option FieldType} {a : Array Value} {s : State} {m : MethodId} {meth : Method} {c : Code} (h1 : s.methodNamed? y = some m) (h2 : s.vm.method? m = some meth) (h3 : meth.code = some c) (h4 : c.code = bytes)
    (h5 : (c.maxLocals == mx && c.exceptionTable.isEmpty && decide (c.maxStack ≤ mostOperands) && decide (meth.sig.returnType = rt) && !meth.locks && decide (parseMethodDescriptor y.desc = some meth.sig)) = true) : (Jvm.Cond.code y bytes mx rt).before a s = true := by
  simp only [Bool.and_eq_true, beq_iff_eq, Bool.not_eq_true', decide_eq_true_eq] at h5
  obtain ⟨⟨⟨⟨⟨g1, g2⟩, g3⟩, g4⟩, g5⟩, g6⟩ := h5
  simp [Cond.before, Cond.holds, Cond.value, h1, h2, h3, h4, g1, g2, g3, g4, g5, g6]
def isCode : Jvm.Cond → Bool
  | .code _ _ _ _ => true
  | _ => false
theorem all_split {L : List Jvm.Cond} {P : Jvm.Cond → Bool} (h1 : L.all (fun c => isCode c || P c) = true) (h2 : ∀ c ∈ L.filter isCode, P c = true) : L.all P = true := by
  refine List.all_eq_true.mpr fun c hc => ?_
  have h := List.all_eq_true.mp h1 c hc
  rcases Bool.eq_false_or_eq_true (isCode c) with hi | hi
  · exact h2 c (List.mem_filter.mpr ⟨hc, hi⟩)
  · simpa [hi] using h
set_option maxRecDepth 65536 in
theorem w_c0 : (Jvm.Cond.code x code maxLocals ret).before args0 about1 = true := code_word (m := ⟨1, 7⟩) (meth := k1m7) (c := k1c7) (by decide +kernel) rfl rfl rfl (by decide +kernel)
set_option maxRecDepth 65536 in
theorem w_c1 : (Jvm.Cond.code ({ cls := "com/example/proper_grant/propergrant/bench/RequestToStringPinLaw", name := "name", desc := "(I)Ljava/lang/String;" } : Jvm.MethodName) method_5_code (3 : Nat) (Option.some (Jvm.ClassFile.FieldType.object "java/lang/String"))).before args0 about1 = true := code_word (m := ⟨1, 4⟩) (meth := k1m4) (c := k1c4) (by decide +kernel) rfl rfl rfl (by decide +kernel)
set_option maxRecDepth 65536 in
theorem w_c2 : (Jvm.Cond.code ({ cls := "com/example/proper_grant/propergrant/bench/RequestToStringPinLaw", name := "len", desc := "(I)I" } : Jvm.MethodName) method_2_code (1 : Nat) (Option.some Jvm.ClassFile.FieldType.int)).before args0 about1 = true := code_word (m := ⟨1, 1⟩) (meth := k1m1) (c := k1c1) (by decide +kernel) rfl rfl rfl (by decide +kernel)
set_option maxRecDepth 65536 in
theorem w_c3 : (Jvm.Cond.code ({ cls := "java/lang/String", name := "<init>", desc := "([C)V" } : Jvm.MethodName) jdk_42_method_3_code (2 : Nat) (Option.none : Option Jvm.ClassFile.FieldType)).before args0 about1 = true := code_word (m := ⟨8, 1⟩) (meth := k8m1) (c := k8c1) (by decide +kernel) rfl rfl rfl (by decide +kernel)
set_option maxRecDepth 65536 in
theorem w_c4 : (Jvm.Cond.code ({ cls := "java/lang/String", name := "<init>", desc := "([CIILjava/lang/Void;)V" } : Jvm.MethodName) jdk_42_method_149_code (6 : Nat) (Option.none : Option Jvm.ClassFile.FieldType)).before args0 about1 = true := code_word (m := ⟨8, 7⟩) (meth := k8m7) (c := k8c7) (by decide +kernel) rfl rfl rfl (by decide +kernel)
set_option maxRecDepth 65536 in
theorem w_c5 : (Jvm.Cond.code ({ cls := "java/lang/Object", name := "<init>", desc := "()V" } : Jvm.MethodName) object_method_1_code (1 : Nat) (Option.none : Option Jvm.ClassFile.FieldType)).before args0 about1 = true := code_word (m := ⟨0, 0⟩) (meth := k0m0) (c := k0c0) (by decide +kernel) rfl rfl rfl (by decide +kernel)
set_option maxRecDepth 65536 in
theorem w_c6 : (Jvm.Cond.code ({ cls := "com/example/proper_grant/propergrant/bench/Request", name := "<init>", desc := "(Ljava/lang/String;Ljava/lang/String;Ljava/lang/String;Z)V" } : Jvm.MethodName) prog_20_method_1_code (5 : Nat) (Option.none : Option Jvm.ClassFile.FieldType)).before args0 about1 = true := code_word (m := ⟨2, 0⟩) (meth := k2m0) (c := k2c0) (by decide +kernel) rfl rfl rfl (by decide +kernel)
set_option maxRecDepth 65536 in
theorem w_c7 : (Jvm.Cond.code ({ cls := "com/example/proper_grant/propergrant/bench/Request", name := "toString", desc := "()Ljava/lang/String;" } : Jvm.MethodName) prog_20_method_6_code (1 : Nat) (Option.some (Jvm.ClassFile.FieldType.object "java/lang/String"))).before args0 about1 = true := code_word (m := ⟨2, 1⟩) (meth := k2m1) (c := k2c1) (by decide +kernel) rfl rfl rfl (by decide +kernel)
set_option maxRecDepth 65536 in
theorem w_c8 : (Jvm.Cond.code ({ cls := "java/lang/StringBuilder", name := "<init>", desc := "()V" } : Jvm.MethodName) jdk_67_method_1_code (1 : Nat) (Option.none : Option Jvm.ClassFile.FieldType)).before args0 about1 = true := code_word (m := ⟨11, 0⟩) (meth := k11m0) (c := k11c0) (by decide +kernel) rfl rfl rfl (by decide +kernel)
set_option maxRecDepth 65536 in
theorem w_c9 : (Jvm.Cond.code ({ cls := "java/lang/AbstractStringBuilder", name := "<init>", desc := "(I)V" } : Jvm.MethodName) jdk_68_method_2_code (2 : Nat) (Option.none : Option Jvm.ClassFile.FieldType)).before args0 about1 = true := code_word (m := ⟨10, 1⟩) (meth := k10m1) (c := k10c1) (by decide +kernel) rfl rfl rfl (by decide +kernel)
set_option maxRecDepth 65536 in
theorem w_c10 : (Jvm.Cond.code ({ cls := "java/lang/StringBuilder", name := "append", desc := "(Ljava/lang/String;)Ljava/lang/StringBuilder;" } : Jvm.MethodName) jdk_67_method_7_code (2 : Nat) (Option.some (Jvm.ClassFile.FieldType.object "java/lang/StringBuilder"))).before args0 about1 = true := code_word (m := ⟨11, 1⟩) (meth := k11m1) (c := k11c1) (by decide +kernel) rfl rfl rfl (by decide +kernel)
set_option maxRecDepth 65536 in
theorem w_c11 : (Jvm.Cond.code ({ cls := "java/lang/AbstractStringBuilder", name := "append", desc := "(Ljava/lang/String;)Ljava/lang/AbstractStringBuilder;" } : Jvm.MethodName) jdk_68_method_22_code (3 : Nat) (Option.some (Jvm.ClassFile.FieldType.object "java/lang/AbstractStringBuilder"))).before args0 about1 = true := code_word (m := ⟨10, 4⟩) (meth := k10m4) (c := k10c4) (by decide +kernel) rfl rfl rfl (by decide +kernel)
set_option maxRecDepth 65536 in
theorem w_c12 : (Jvm.Cond.code ({ cls := "java/lang/String", name := "length", desc := "()I" } : Jvm.MethodName) jdk_42_method_54_code (1 : Nat) (Option.some Jvm.ClassFile.FieldType.int)).before args0 about1 = true := code_word (m := ⟨8, 3⟩) (meth := k8m3) (c := k8c3) (by decide +kernel) rfl rfl rfl (by decide +kernel)
set_option maxRecDepth 65536 in
theorem w_c13 : (Jvm.Cond.code ({ cls := "java/lang/String", name := "coder", desc := "()B" } : Jvm.MethodName) jdk_42_method_152_code (1 : Nat) (Option.some Jvm.ClassFile.FieldType.byte)).before args0 about1 = true := code_word (m := ⟨8, 10⟩) (meth := k8m10) (c := k8c10) (by decide +kernel) rfl rfl rfl (by decide +kernel)
set_option maxRecDepth 65536 in
theorem w_c14 : (Jvm.Cond.code ({ cls := "java/lang/AbstractStringBuilder", name := "ensureCapacityInternal", desc := "(I)V" } : Jvm.MethodName) jdk_68_method_9_code (3 : Nat) (Option.none : Option Jvm.ClassFile.FieldType)).before args0 about1 = true := code_word (m := ⟨10, 3⟩) (meth := k10m3) (c := k10c3) (by decide +kernel) rfl rfl rfl (by decide +kernel)
set_option maxRecDepth 65536 in
theorem w_c15 : (Jvm.Cond.code ({ cls := "java/lang/AbstractStringBuilder", name := "putStringAt", desc := "(ILjava/lang/String;)V" } : Jvm.MethodName) jdk_68_method_73_code (3 : Nat) (Option.none : Option Jvm.ClassFile.FieldType)).before args0 about1 = true := code_word (m := ⟨10, 8⟩) (meth := k10m8) (c := k10c8) (by decide +kernel) rfl rfl rfl (by decide +kernel)
set_option maxRecDepth 65536 in
theorem w_c16 : (Jvm.Cond.code ({ cls := "java/lang/AbstractStringBuilder", name := "inflateIfNeededFor", desc := "(Ljava/lang/String;)V" } : Jvm.MethodName) jdk_68_method_71_code (2 : Nat) (Option.none : Option Jvm.ClassFile.FieldType)).before args0 about1 = true := code_word (m := ⟨10, 7⟩) (meth := k10m7) (c := k10c7) (by decide +kernel) rfl rfl rfl (by decide +kernel)
set_option maxRecDepth 65536 in
theorem w_c17 : (Jvm.Cond.code ({ cls := "java/lang/String", name := "getBytes", desc := "([BIB)V" } : Jvm.MethodName) jdk_42_method_147_code (4 : Nat) (Option.none : Option Jvm.ClassFile.FieldType)).before args0 about1 = true := code_word (m := ⟨8, 6⟩) (meth := k8m6) (c := k8c6) (by decide +kernel) rfl rfl rfl (by decide +kernel)
set_option maxRecDepth 65536 in
theorem w_c18 : (Jvm.Cond.code ({ cls := "java/lang/StringBuilder", name := "toString", desc := "()Ljava/lang/String;" } : Jvm.MethodName) jdk_67_method_42_code (1 : Nat) (Option.some (Jvm.ClassFile.FieldType.object "java/lang/String"))).before args0 about1 = true := code_word (m := ⟨11, 2⟩) (meth := k11m2) (c := k11c2) (by decide +kernel) rfl rfl rfl (by decide +kernel)
set_option maxRecDepth 65536 in
theorem w_c19 : (Jvm.Cond.code ({ cls := "java/lang/String", name := "<init>", desc := "(Ljava/lang/StringBuilder;)V" } : Jvm.MethodName) jdk_42_method_53_code (2 : Nat) (Option.none : Option Jvm.ClassFile.FieldType)).before args0 about1 = true := code_word (m := ⟨8, 2⟩) (meth := k8m2) (c := k8c2) (by decide +kernel) rfl rfl rfl (by decide +kernel)
set_option maxRecDepth 65536 in
theorem w_c20 : (Jvm.Cond.code ({ cls := "java/lang/String", name := "<init>", desc := "(Ljava/lang/AbstractStringBuilder;Ljava/lang/Void;)V" } : Jvm.MethodName) jdk_42_method_150_code (5 : Nat) (Option.none : Option Jvm.ClassFile.FieldType)).before args0 about1 = true := code_word (m := ⟨8, 8⟩) (meth := k8m8) (c := k8c8) (by decide +kernel) rfl rfl rfl (by decide +kernel)
set_option maxRecDepth 65536 in
theorem w_c21 : (Jvm.Cond.code ({ cls := "java/lang/AbstractStringBuilder", name := "getValue", desc := "()[B" } : Jvm.MethodName) jdk_68_method_64_code (1 : Nat) (Option.some (Jvm.ClassFile.FieldType.array Jvm.ClassFile.FieldType.byte))).before args0 about1 = true := code_word (m := ⟨10, 5⟩) (meth := k10m5) (c := k10c5) (by decide +kernel) rfl rfl rfl (by decide +kernel)
set_option maxRecDepth 65536 in
theorem w_c22 : (Jvm.Cond.code ({ cls := "java/lang/StringBuilder", name := "length", desc := "()I" } : Jvm.MethodName) jdk_67_method_93_code (1 : Nat) (Option.some Jvm.ClassFile.FieldType.int)).before args0 about1 = true := code_word (m := ⟨11, 3⟩) (meth := k11m3) (c := k11c3) (by decide +kernel) rfl rfl rfl (by decide +kernel)
set_option maxRecDepth 65536 in
theorem w_c23 : (Jvm.Cond.code ({ cls := "java/lang/AbstractStringBuilder", name := "length", desc := "()I" } : Jvm.MethodName) jdk_68_method_6_code (1 : Nat) (Option.some Jvm.ClassFile.FieldType.int)).before args0 about1 = true := code_word (m := ⟨10, 2⟩) (meth := k10m2) (c := k10c2) (by decide +kernel) rfl rfl rfl (by decide +kernel)
set_option maxRecDepth 65536 in
theorem w_c24 : (Jvm.Cond.code ({ cls := "java/lang/AbstractStringBuilder", name := "isLatin1", desc := "()Z" } : Jvm.MethodName) jdk_68_method_68_code (1 : Nat) (Option.some Jvm.ClassFile.FieldType.boolean)).before args0 about1 = true := code_word (m := ⟨10, 6⟩) (meth := k10m6) (c := k10c6) (by decide +kernel) rfl rfl rfl (by decide +kernel)
set_option maxRecDepth 65536 in
theorem w_c25 : (Jvm.Cond.code ({ cls := "java/util/Arrays", name := "copyOfRange", desc := "([BII)[B" } : Jvm.MethodName) jdk_65_method_132_code (3 : Nat) (Option.some (Jvm.ClassFile.FieldType.array Jvm.ClassFile.FieldType.byte))).before args0 about1 = true := code_word (m := ⟨13, 2⟩) (meth := k13m2) (c := k13c2) (by decide +kernel) rfl rfl rfl (by decide +kernel)
set_option maxRecDepth 65536 in
theorem w_c26 : (Jvm.Cond.code ({ cls := "java/util/Arrays", name := "copyOfRangeByte", desc := "([BII)[B" } : Jvm.MethodName) jdk_65_method_133_code (5 : Nat) (Option.some (Jvm.ClassFile.FieldType.array Jvm.ClassFile.FieldType.byte))).before args0 about1 = true := code_word (m := ⟨13, 3⟩) (meth := k13m3) (c := k13c3) (by decide +kernel) rfl rfl rfl (by decide +kernel)
set_option maxRecDepth 65536 in
theorem w_c27 : (Jvm.Cond.code ({ cls := "java/util/Arrays", name := "checkLength", desc := "(II)V" } : Jvm.MethodName) jdk_65_method_131_code (2 : Nat) (Option.none : Option Jvm.ClassFile.FieldType)).before args0 about1 = true := code_word (m := ⟨13, 1⟩) (meth := k13m1) (c := k13c1) (by decide +kernel) rfl rfl rfl (by decide +kernel)
set_option maxRecDepth 65536 in
theorem w_c28 : (Jvm.Cond.code ({ cls := "java/lang/Math", name := "min", desc := "(II)I" } : Jvm.MethodName) jdk_29_method_69_code (2 : Nat) (Option.some Jvm.ClassFile.FieldType.int)).before args0 about1 = true := code_word (m := ⟨14, 1⟩) (meth := k14m1) (c := k14c1) (by decide +kernel) rfl rfl rfl (by decide +kernel)
set_option maxRecDepth 65536 in
theorem w_c29 : (Jvm.Cond.code ({ cls := "com/example/proper_grant/propergrant/bench/RequestToStringPinLaw", name := "put", desc := "([CII)I" } : Jvm.MethodName) method_6_code (4 : Nat) (Option.some Jvm.ClassFile.FieldType.int)).before args0 about1 = true := code_word (m := ⟨1, 5⟩) (meth := k1m5) (c := k1c5) (by decide +kernel) rfl rfl rfl (by decide +kernel)
set_option maxRecDepth 65536 in
theorem w_c30 : (Jvm.Cond.code ({ cls := "com/example/proper_grant/propergrant/bench/RequestToStringPinLaw", name := "at", desc := "(Ljava/lang/String;[CII)Z" } : Jvm.MethodName) method_7_code (4 : Nat) (Option.some Jvm.ClassFile.FieldType.boolean)).before args0 about1 = true := code_word (m := ⟨1, 6⟩) (meth := k1m6) (c := k1c6) (by decide +kernel) rfl rfl rfl (by decide +kernel)
set_option maxRecDepth 65536 in
theorem w_c31 : (Jvm.Cond.code ({ cls := "java/lang/String", name := "charAt", desc := "(I)C" } : Jvm.MethodName) jdk_42_method_56_code (2 : Nat) (Option.some Jvm.ClassFile.FieldType.char)).before args0 about1 = true := code_word (m := ⟨8, 4⟩) (meth := k8m4) (c := k8c4) (by decide +kernel) rfl rfl rfl (by decide +kernel)
set_option maxRecDepth 65536 in
theorem w_c32 : (Jvm.Cond.code ({ cls := "java/lang/String", name := "isLatin1", desc := "()Z" } : Jvm.MethodName) jdk_42_method_154_code (1 : Nat) (Option.some Jvm.ClassFile.FieldType.boolean)).before args0 about1 = true := code_word (m := ⟨8, 11⟩) (meth := k8m11) (c := k8c11) (by decide +kernel) rfl rfl rfl (by decide +kernel)
set_option maxRecDepth 65536 in
theorem w_c33 : (Jvm.Cond.code ({ cls := "java/lang/StringLatin1", name := "charAt", desc := "([BI)C" } : Jvm.MethodName) jdk_43_method_2_code (2 : Nat) (Option.some Jvm.ClassFile.FieldType.char)).before args0 about1 = true := code_word (m := ⟨15, 1⟩) (meth := k15m1) (c := k15c1) (by decide +kernel) rfl rfl rfl (by decide +kernel)
set_option maxRecDepth 65536 in
theorem w_c34 : (Jvm.Cond.code ({ cls := "java/lang/String", name := "checkIndex", desc := "(II)V" } : Jvm.MethodName) jdk_42_method_155_code (2 : Nat) (Option.none : Option Jvm.ClassFile.FieldType)).before args0 about1 = true := code_word (m := ⟨8, 12⟩) (meth := k8m12) (c := k8c12) (by decide +kernel) rfl rfl rfl (by decide +kernel)
set_option maxRecDepth 65536 in
theorem w_c35 : (Jvm.Cond.code ({ cls := "jdk/internal/util/Preconditions", name := "checkIndex", desc := "(IILjava/util/function/BiFunction;)I" } : Jvm.MethodName) jdk_41_method_11_code (3 : Nat) (Option.some Jvm.ClassFile.FieldType.int)).before args0 about1 = true := code_word (m := ⟨16, 1⟩) (meth := k16m1) (c := k16c1) (by decide +kernel) rfl rfl rfl (by decide +kernel)
set_option maxRecDepth 65536 in
theorem w_c36 : (Jvm.Cond.code ({ cls := "com/example/proper_grant/propergrant/bench/RequestToStringPinLaw", name := "c0", desc := "(I)C" } : Jvm.MethodName) method_3_code (1 : Nat) (Option.some Jvm.ClassFile.FieldType.char)).before args0 about1 = true := code_word (m := ⟨1, 2⟩) (meth := k1m2) (c := k1c2) (by decide +kernel) rfl rfl rfl (by decide +kernel)
set_option maxRecDepth 65536 in
theorem w_c37 : (Jvm.Cond.code ({ cls := "java/lang/String", name := "valueOf", desc := "(C)Ljava/lang/String;" } : Jvm.MethodName) jdk_42_method_139_code (1 : Nat) (Option.some (Jvm.ClassFile.FieldType.object "java/lang/String"))).before args0 about1 = true := code_word (m := ⟨8, 5⟩) (meth := k8m5) (c := k8c5) (by decide +kernel) rfl rfl rfl (by decide +kernel)
set_option maxRecDepth 65536 in
theorem w_c38 : (Jvm.Cond.code ({ cls := "java/lang/StringLatin1", name := "canEncode", desc := "(C)Z" } : Jvm.MethodName) jdk_43_method_3_code (1 : Nat) (Option.some Jvm.ClassFile.FieldType.boolean)).before args0 about1 = true := code_word (m := ⟨15, 2⟩) (meth := k15m2) (c := k15c2) (by decide +kernel) rfl rfl rfl (by decide +kernel)
set_option maxRecDepth 65536 in
theorem w_c39 : (Jvm.Cond.code ({ cls := "java/lang/StringLatin1", name := "toBytes", desc := "(C)[B" } : Jvm.MethodName) jdk_43_method_46_code (1 : Nat) (Option.some (Jvm.ClassFile.FieldType.array Jvm.ClassFile.FieldType.byte))).before args0 about1 = true := code_word (m := ⟨15, 3⟩) (meth := k15m3) (c := k15c3) (by decide +kernel) rfl rfl rfl (by decide +kernel)
set_option maxRecDepth 65536 in
theorem w_c40 : (Jvm.Cond.code ({ cls := "java/lang/String", name := "<init>", desc := "([BB)V" } : Jvm.MethodName) jdk_42_method_151_code (3 : Nat) (Option.none : Option Jvm.ClassFile.FieldType)).before args0 about1 = true := code_word (m := ⟨8, 9⟩) (meth := k8m9) (c := k8c9) (by decide +kernel) rfl rfl rfl (by decide +kernel)
set_option maxRecDepth 65536 in
theorem w_c41 : (Jvm.Cond.code ({ cls := "com/example/proper_grant/propergrant/bench/RequestToStringPinLaw", name := "c1", desc := "(I)C" } : Jvm.MethodName) method_4_code (1 : Nat) (Option.some Jvm.ClassFile.FieldType.char)).before args0 about1 = true := code_word (m := ⟨1, 3⟩) (meth := k1m3) (c := k1c3) (by decide +kernel) rfl rfl rfl (by decide +kernel)
set_option maxRecDepth 65536 in
theorem w_c42 : (Jvm.Cond.code ({ cls := "java/lang/StringUTF16", name := "compress", desc := "([CII)[B" } : Jvm.MethodName) jdk_52_method_16_code (6 : Nat) (Option.some (Jvm.ClassFile.FieldType.array Jvm.ClassFile.FieldType.byte))).before args0 about1 = true := code_word (m := ⟨17, 2⟩) (meth := k17m2) (c := k17c2) (by decide +kernel) rfl rfl rfl (by decide +kernel)
set_option maxRecDepth 65536 in
theorem w_c43 : (Jvm.Cond.code ({ cls := "java/lang/StringUTF16", name := "compress", desc := "([CI[BII)I" } : Jvm.MethodName) jdk_52_method_21_code (7 : Nat) (Option.some Jvm.ClassFile.FieldType.int)).before args0 about1 = true := code_word (m := ⟨17, 3⟩) (meth := k17m3) (c := k17c3) (by decide +kernel) rfl rfl rfl (by decide +kernel)
set_option maxRecDepth 65536 in
theorem w_c44 : (Jvm.Cond.code ({ cls := "java/lang/StringUTF16", name := "coderFromArrayLen", desc := "([BI)B" } : Jvm.MethodName) jdk_52_method_15_code (2 : Nat) (Option.some Jvm.ClassFile.FieldType.byte)).before args0 about1 = true := code_word (m := ⟨17, 1⟩) (meth := k17m1) (c := k17c1) (by decide +kernel) rfl rfl rfl (by decide +kernel)
def codes1 : List Jvm.Cond := [Jvm.Cond.code x code maxLocals ret, Jvm.Cond.code ({ cls := "com/example/proper_grant/propergrant/bench/RequestToStringPinLaw", name := "name", desc := "(I)Ljava/lang/String;" } : Jvm.MethodName) method_5_code (3 : Nat) (Option.some (Jvm.ClassFile.FieldType.object "java/lang/String")), Jvm.Cond.code ({ cls := "com/example/proper_grant/propergrant/bench/RequestToStringPinLaw", name := "len", desc := "(I)I" } : Jvm.MethodName) method_2_code (1 : Nat) (Option.some Jvm.ClassFile.FieldType.int), Jvm.Cond.code ({ cls := "java/lang/String", name := "<init>", desc := "([C)V" } : Jvm.MethodName) jdk_42_method_3_code (2 : Nat) (Option.none : Option Jvm.ClassFile.FieldType), Jvm.Cond.code ({ cls := "java/lang/String", name := "<init>", desc := "([CIILjava/lang/Void;)V" } : Jvm.MethodName) jdk_42_method_149_code (6 : Nat) (Option.none : Option Jvm.ClassFile.FieldType), Jvm.Cond.code ({ cls := "java/lang/Object", name := "<init>", desc := "()V" } : Jvm.MethodName) object_method_1_code (1 : Nat) (Option.none : Option Jvm.ClassFile.FieldType), Jvm.Cond.code ({ cls := "com/example/proper_grant/propergrant/bench/Request", name := "<init>", desc := "(Ljava/lang/String;Ljava/lang/String;Ljava/lang/String;Z)V" } : Jvm.MethodName) prog_20_method_1_code (5 : Nat) (Option.none : Option Jvm.ClassFile.FieldType), Jvm.Cond.code ({ cls := "com/example/proper_grant/propergrant/bench/Request", name := "toString", desc := "()Ljava/lang/String;" } : Jvm.MethodName) prog_20_method_6_code (1 : Nat) (Option.some (Jvm.ClassFile.FieldType.object "java/lang/String")), Jvm.Cond.code ({ cls := "java/lang/StringBuilder", name := "<init>", desc := "()V" } : Jvm.MethodName) jdk_67_method_1_code (1 : Nat) (Option.none : Option Jvm.ClassFile.FieldType), Jvm.Cond.code ({ cls := "java/lang/AbstractStringBuilder", name := "<init>", desc := "(I)V" } : Jvm.MethodName) jdk_68_method_2_code (2 : Nat) (Option.none : Option Jvm.ClassFile.FieldType), Jvm.Cond.code ({ cls := "java/lang/StringBuilder", name := "append", desc := "(Ljava/lang/String;)Ljava/lang/StringBuilder;" } : Jvm.MethodName) jdk_67_method_7_code (2 : Nat) (Option.some (Jvm.ClassFile.FieldType.object "java/lang/StringBuilder")), Jvm.Cond.code ({ cls := "java/lang/AbstractStringBuilder", name := "append", desc := "(Ljava/lang/String;)Ljava/lang/AbstractStringBuilder;" } : Jvm.MethodName) jdk_68_method_22_code (3 : Nat) (Option.some (Jvm.ClassFile.FieldType.object "java/lang/AbstractStringBuilder")), Jvm.Cond.code ({ cls := "java/lang/String", name := "length", desc := "()I" } : Jvm.MethodName) jdk_42_method_54_code (1 : Nat) (Option.some Jvm.ClassFile.FieldType.int), Jvm.Cond.code ({ cls := "java/lang/String", name := "coder", desc := "()B" } : Jvm.MethodName) jdk_42_method_152_code (1 : Nat) (Option.some Jvm.ClassFile.FieldType.byte), Jvm.Cond.code ({ cls := "java/lang/AbstractStringBuilder", name := "ensureCapacityInternal", desc := "(I)V" } : Jvm.MethodName) jdk_68_method_9_code (3 : Nat) (Option.none : Option Jvm.ClassFile.FieldType), Jvm.Cond.code ({ cls := "java/lang/AbstractStringBuilder", name := "putStringAt", desc := "(ILjava/lang/String;)V" } : Jvm.MethodName) jdk_68_method_73_code (3 : Nat) (Option.none : Option Jvm.ClassFile.FieldType), Jvm.Cond.code ({ cls := "java/lang/AbstractStringBuilder", name := "inflateIfNeededFor", desc := "(Ljava/lang/String;)V" } : Jvm.MethodName) jdk_68_method_71_code (2 : Nat) (Option.none : Option Jvm.ClassFile.FieldType), Jvm.Cond.code ({ cls := "java/lang/String", name := "getBytes", desc := "([BIB)V" } : Jvm.MethodName) jdk_42_method_147_code (4 : Nat) (Option.none : Option Jvm.ClassFile.FieldType), Jvm.Cond.code ({ cls := "java/lang/StringBuilder", name := "toString", desc := "()Ljava/lang/String;" } : Jvm.MethodName) jdk_67_method_42_code (1 : Nat) (Option.some (Jvm.ClassFile.FieldType.object "java/lang/String")), Jvm.Cond.code ({ cls := "java/lang/String", name := "<init>", desc := "(Ljava/lang/StringBuilder;)V" } : Jvm.MethodName) jdk_42_method_53_code (2 : Nat) (Option.none : Option Jvm.ClassFile.FieldType), Jvm.Cond.code ({ cls := "java/lang/String", name := "<init>", desc := "(Ljava/lang/AbstractStringBuilder;Ljava/lang/Void;)V" } : Jvm.MethodName) jdk_42_method_150_code (5 : Nat) (Option.none : Option Jvm.ClassFile.FieldType), Jvm.Cond.code ({ cls := "java/lang/AbstractStringBuilder", name := "getValue", desc := "()[B" } : Jvm.MethodName) jdk_68_method_64_code (1 : Nat) (Option.some (Jvm.ClassFile.FieldType.array Jvm.ClassFile.FieldType.byte)), Jvm.Cond.code ({ cls := "java/lang/StringBuilder", name := "length", desc := "()I" } : Jvm.MethodName) jdk_67_method_93_code (1 : Nat) (Option.some Jvm.ClassFile.FieldType.int), Jvm.Cond.code ({ cls := "java/lang/AbstractStringBuilder", name := "length", desc := "()I" } : Jvm.MethodName) jdk_68_method_6_code (1 : Nat) (Option.some Jvm.ClassFile.FieldType.int), Jvm.Cond.code ({ cls := "java/lang/AbstractStringBuilder", name := "isLatin1", desc := "()Z" } : Jvm.MethodName) jdk_68_method_68_code (1 : Nat) (Option.some Jvm.ClassFile.FieldType.boolean), Jvm.Cond.code ({ cls := "java/util/Arrays", name := "copyOfRange", desc := "([BII)[B" } : Jvm.MethodName) jdk_65_method_132_code (3 : Nat) (Option.some (Jvm.ClassFile.FieldType.array Jvm.ClassFile.FieldType.byte)), Jvm.Cond.code ({ cls := "java/util/Arrays", name := "copyOfRangeByte", desc := "([BII)[B" } : Jvm.MethodName) jdk_65_method_133_code (5 : Nat) (Option.some (Jvm.ClassFile.FieldType.array Jvm.ClassFile.FieldType.byte)), Jvm.Cond.code ({ cls := "java/util/Arrays", name := "checkLength", desc := "(II)V" } : Jvm.MethodName) jdk_65_method_131_code (2 : Nat) (Option.none : Option Jvm.ClassFile.FieldType), Jvm.Cond.code ({ cls := "java/lang/Math", name := "min", desc := "(II)I" } : Jvm.MethodName) jdk_29_method_69_code (2 : Nat) (Option.some Jvm.ClassFile.FieldType.int), Jvm.Cond.code ({ cls := "com/example/proper_grant/propergrant/bench/RequestToStringPinLaw", name := "put", desc := "([CII)I" } : Jvm.MethodName) method_6_code (4 : Nat) (Option.some Jvm.ClassFile.FieldType.int), Jvm.Cond.code ({ cls := "com/example/proper_grant/propergrant/bench/RequestToStringPinLaw", name := "at", desc := "(Ljava/lang/String;[CII)Z" } : Jvm.MethodName) method_7_code (4 : Nat) (Option.some Jvm.ClassFile.FieldType.boolean), Jvm.Cond.code ({ cls := "java/lang/String", name := "charAt", desc := "(I)C" } : Jvm.MethodName) jdk_42_method_56_code (2 : Nat) (Option.some Jvm.ClassFile.FieldType.char), Jvm.Cond.code ({ cls := "java/lang/String", name := "isLatin1", desc := "()Z" } : Jvm.MethodName) jdk_42_method_154_code (1 : Nat) (Option.some Jvm.ClassFile.FieldType.boolean), Jvm.Cond.code ({ cls := "java/lang/StringLatin1", name := "charAt", desc := "([BI)C" } : Jvm.MethodName) jdk_43_method_2_code (2 : Nat) (Option.some Jvm.ClassFile.FieldType.char), Jvm.Cond.code ({ cls := "java/lang/String", name := "checkIndex", desc := "(II)V" } : Jvm.MethodName) jdk_42_method_155_code (2 : Nat) (Option.none : Option Jvm.ClassFile.FieldType), Jvm.Cond.code ({ cls := "jdk/internal/util/Preconditions", name := "checkIndex", desc := "(IILjava/util/function/BiFunction;)I" } : Jvm.MethodName) jdk_41_method_11_code (3 : Nat) (Option.some Jvm.ClassFile.FieldType.int), Jvm.Cond.code ({ cls := "com/example/proper_grant/propergrant/bench/RequestToStringPinLaw", name := "c0", desc := "(I)C" } : Jvm.MethodName) method_3_code (1 : Nat) (Option.some Jvm.ClassFile.FieldType.char), Jvm.Cond.code ({ cls := "java/lang/String", name := "valueOf", desc := "(C)Ljava/lang/String;" } : Jvm.MethodName) jdk_42_method_139_code (1 : Nat) (Option.some (Jvm.ClassFile.FieldType.object "java/lang/String")), Jvm.Cond.code ({ cls := "java/lang/StringLatin1", name := "canEncode", desc := "(C)Z" } : Jvm.MethodName) jdk_43_method_3_code (1 : Nat) (Option.some Jvm.ClassFile.FieldType.boolean), Jvm.Cond.code ({ cls := "java/lang/StringLatin1", name := "toBytes", desc := "(C)[B" } : Jvm.MethodName) jdk_43_method_46_code (1 : Nat) (Option.some (Jvm.ClassFile.FieldType.array Jvm.ClassFile.FieldType.byte)), Jvm.Cond.code ({ cls := "java/lang/String", name := "<init>", desc := "([BB)V" } : Jvm.MethodName) jdk_42_method_151_code (3 : Nat) (Option.none : Option Jvm.ClassFile.FieldType), Jvm.Cond.code ({ cls := "com/example/proper_grant/propergrant/bench/RequestToStringPinLaw", name := "c1", desc := "(I)C" } : Jvm.MethodName) method_4_code (1 : Nat) (Option.some Jvm.ClassFile.FieldType.char), Jvm.Cond.code ({ cls := "java/lang/StringUTF16", name := "compress", desc := "([CII)[B" } : Jvm.MethodName) jdk_52_method_16_code (6 : Nat) (Option.some (Jvm.ClassFile.FieldType.array Jvm.ClassFile.FieldType.byte)), Jvm.Cond.code ({ cls := "java/lang/StringUTF16", name := "compress", desc := "([CI[BII)I" } : Jvm.MethodName) jdk_52_method_21_code (7 : Nat) (Option.some Jvm.ClassFile.FieldType.int), Jvm.Cond.code ({ cls := "java/lang/StringUTF16", name := "coderFromArrayLen", desc := "([BI)B" } : Jvm.MethodName) jdk_52_method_15_code (2 : Nat) (Option.some Jvm.ClassFile.FieldType.byte)]
set_option maxRecDepth 65536 in
theorem codes_eq : words1.filter isCode = codes1 := rfl
theorem w_codes : ∀ c ∈ words1.filter isCode, c.before args0 about1 = true := by
  rw [codes_eq]
  intro c hc
  simp only [codes1, List.mem_cons, List.not_mem_nil, or_false] at hc
  rcases hc with rfl | rfl | rfl | rfl | rfl | rfl | rfl | rfl | rfl | rfl | rfl | rfl | rfl | rfl | rfl | rfl | rfl | rfl | rfl | rfl | rfl | rfl | rfl | rfl | rfl | rfl | rfl | rfl | rfl | rfl | rfl | rfl | rfl | rfl | rfl | rfl | rfl | rfl | rfl | rfl | rfl | rfl | rfl | rfl | rfl
  · exact w_c0
  · exact w_c1
  · exact w_c2
  · exact w_c3
  · exact w_c4
  · exact w_c5
  · exact w_c6
  · exact w_c7
  · exact w_c8
  · exact w_c9
  · exact w_c10
  · exact w_c11
  · exact w_c12
  · exact w_c13
  · exact w_c14
  · exact w_c15
  · exact w_c16
  · exact w_c17
  · exact w_c18
  · exact w_c19
  · exact w_c20
  · exact w_c21
  · exact w_c22
  · exact w_c23
  · exact w_c24
  · exact w_c25
  · exact w_c26
  · exact w_c27
  · exact w_c28
  · exact w_c29
  · exact w_c30
  · exact w_c31
  · exact w_c32
  · exact w_c33
  · exact w_c34
  · exact w_c35
  · exact w_c36
  · exact w_c37
  · exact w_c38
  · exact w_c39
  · exact w_c40
  · exact w_c41
  · exact w_c42
  · exact w_c43
  · exact w_c44
set_option maxRecDepth 65536 in
theorem w_t1 : (words1.take 24).all (fun c => isCode c || c.before args0 about1) = true := by decide +kernel
set_option maxRecDepth 65536 in
theorem w_t2 : ((words1.drop 24).take 24).all (fun c => isCode c || c.before args0 about1) = true := by decide +kernel
set_option maxRecDepth 65536 in
theorem w_t3 : (((words1.drop 24).drop 24).take 24).all (fun c => isCode c || c.before args0 about1) = true := by decide +kernel
set_option maxRecDepth 65536 in
theorem w_t4 : ((((words1.drop 24).drop 24).drop 24).take 24).all (fun c => isCode c || c.before args0 about1) = true := by decide +kernel
set_option maxRecDepth 65536 in
theorem w_t5 : (((((words1.drop 24).drop 24).drop 24).drop 24).take 24).all (fun c => isCode c || c.before args0 about1) = true := by decide +kernel
set_option maxRecDepth 65536 in
theorem w_t6 : ((((((words1.drop 24).drop 24).drop 24).drop 24).drop 24).take 24).all (fun c => isCode c || c.before args0 about1) = true := by decide +kernel
set_option maxRecDepth 65536 in
theorem w_t7 : (((((((words1.drop 24).drop 24).drop 24).drop 24).drop 24).drop 24).take 24).all (fun c => isCode c || c.before args0 about1) = true := by decide +kernel
set_option maxRecDepth 65536 in
theorem w_t8 : ((((((((words1.drop 24).drop 24).drop 24).drop 24).drop 24).drop 24).drop 24).take 24).all (fun c => isCode c || c.before args0 about1) = true := by decide +kernel
set_option maxRecDepth 65536 in
theorem w_t9 : (((((((((words1.drop 24).drop 24).drop 24).drop 24).drop 24).drop 24).drop 24).drop 24).take 24).all (fun c => isCode c || c.before args0 about1) = true := by decide +kernel
set_option maxRecDepth 65536 in
theorem w_t10 : (((((((((words1.drop 24).drop 24).drop 24).drop 24).drop 24).drop 24).drop 24).drop 24).drop 24).all (fun c => isCode c || c.before args0 about1) = true := by decide +kernel
theorem w_tables : (allAtoms (Jvm.Cond.code x code maxLocals ret :: tables_1)).before args0 about1 = true := by
  rw [allAtoms_all]
  show words1.all (fun c => c.before args0 about1) = true
  refine all_split ?_ w_codes
  rw [← List.take_append_drop 24 words1, List.all_append, w_t1, ← List.take_append_drop 24 (words1.drop 24), List.all_append, w_t2, ← List.take_append_drop 24 ((words1.drop 24).drop 24), List.all_append, w_t3, ← List.take_append_drop 24 (((words1.drop 24).drop 24).drop 24), List.all_append, w_t4, ← List.take_append_drop 24 ((((words1.drop 24).drop 24).drop 24).drop 24), List.all_append, w_t5, ← List.take_append_drop 24 (((((words1.drop 24).drop 24).drop 24).drop 24).drop 24), List.all_append, w_t6, ← List.take_append_drop 24 ((((((words1.drop 24).drop 24).drop 24).drop 24).drop 24).drop 24), List.all_append, w_t7, ← List.take_append_drop 24 (((((((words1.drop 24).drop 24).drop 24).drop 24).drop 24).drop 24).drop 24), List.all_append, w_t8, ← List.take_append_drop 24 ((((((((words1.drop 24).drop 24).drop 24).drop 24).drop 24).drop 24).drop 24).drop 24), List.all_append, w_t9, w_t10]
  rfl
set_option maxRecDepth 65536 in
theorem w_rest : rest_1_c.before args0 about1 = true := by decide +kernel
set_option maxRecDepth 65536 in
theorem w_case : (Jvm.Cond.and given_1 narrow_1).before args0 about1 = true := by decide +kernel
set_option maxRecDepth 65536 in
theorem w_consts : constsHeld consts_1 about1 := Jvm.Lit.constsHeldB_iff.mp (by decide +kernel)
theorem w_applies : (headSpec (Jvm.Cond.code x code maxLocals ret :: tables_1) room_1).applies x e0.platform about1 = true :=
  (Spec.applies_iff w_frames).mpr ⟨w_running, w_runnable, w_alone, w_named, w_hears, w_ripe, w_room, w_tables⟩
theorem atStart : AtStart classFile x code maxLocals ret World_1 tables_1 room_1 Calls_1 rest_1 Pre_1 launch0 p0 e0 about1 theMethod args0 below0 :=
  ⟨lists_1, trivial, launch0.admits_env _ _ _, launch0.least_env, fairChoices_fair.cas, fairChoices_fair.clock, w_frames, w_args, w_heap, w_applies, ⟨w_consts, trivial⟩, w_rest, w_case⟩
end start1
theorem witness_1 : WitnessClaimed_1 := ⟨start1.p0, start1.e0, start1.about1, start1.theMethod, start1.args0, start1.below0, start1.atStart⟩
end Jvm.Pilot.@@N@@
