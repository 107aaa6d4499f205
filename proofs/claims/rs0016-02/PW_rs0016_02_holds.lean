import PyProof.Rows.All
import Wide.All
import OpenK.AllK
import Wide.FinOn
import Lean
import PySem.Challenge.RW_rs0016_02
set_option Elab.async false
set_option linter.unusedVariables false
set_option linter.unusedSimpArgs false
set_option linter.deprecated false

section
set_option Elab.async false
set_option linter.unusedVariables false
set_option genSizeOf false
set_option genInjectivity false
namespace Mine
namespace Ar
inductive T where
  | v (i : Nat) | n (k : Nat) | a (x y : T) | m (k : Nat) (x : T) | r (x : T) (k : Nat) | s (x : T)
inductive I where
  | v (i : Nat) | n (k : Nat) | a (x y : I) | s (x y : I) | g (x : I) | m (k : Int) (x : I) | r (x : I) (k : Int) | c (x : T)
inductive P where
  | l (x y : T) | t (x y : T) | e (x y : T) | L (x y : I) | t' (x y : I) | E (x y : I) | n (p : P) | a (p q : P) | o (p q : P) | i (p q : P) | f
inductive C where
  | l (ms : List Nat) | b (x y : C) | s (x : C)
noncomputable def gN : List Nat → Nat → Nat
  | x :: _, 0 => x
  | _ :: c, i + 1 => gN c i
  | [], _ => 0
noncomputable def gI : List Int → Nat → Int
  | x :: _, 0 => x
  | _ :: c, i + 1 => gI c i
  | [], _ => 0
noncomputable def T.den (c : List Nat) : T → Nat
  | .v i => gN c i
  | .n k => k
  | .a x y => x.den c + y.den c
  | .m k x => k * x.den c
  | .r x k => x.den c * k
  | .s x => x.den c + 1
noncomputable def I.den (c : List Nat) (d : List Int) : I → Int
  | .v i => gI d i
  | .n k => (k : Int)
  | .a x y => x.den c d + y.den c d
  | .s x y => x.den c d - y.den c d
  | .g x => - x.den c d
  | .m k x => k * x.den c d
  | .r x k => x.den c d * k
  | .c x => (x.den c : Int)
noncomputable def P.den (c : List Nat) (d : List Int) : P → Prop
  | .l x y => x.den c ≤ y.den c
  | .t x y => x.den c < y.den c
  | .e x y => x.den c = y.den c
  | .L x y => x.den c d ≤ y.den c d
  | .t' x y => x.den c d < y.den c d
  | .E x y => x.den c d = y.den c d
  | .n p => ¬ p.den c d
  | .a p q => p.den c d ∧ q.den c d
  | .o p q => p.den c d ∨ q.den c d
  | .i p q => p.den c d → q.den c d
  | .f => False
noncomputable def nc : List Nat → List Int
  | [] => []
  | x :: c => (x : Int) :: nc c
noncomputable def dot : List Int → List Int → Int
  | a :: l, x :: c => a * x + dot l c
  | _, _ => 0
noncomputable def add : List Int → List Int → List Int
  | [], m => m
  | a :: l, [] => a :: l
  | a :: l, b :: m => (a + b) :: add l m
noncomputable def mul (k : Int) : List Int → List Int
  | [] => []
  | a :: l => (k * a) :: mul k l
noncomputable def unit : Nat → List Int
  | 0 => [1]
  | i + 1 => 0 :: unit i
theorem aac (a b c d : Int) : a + b + (c + d) = a + c + (b + d) := by
  rw [Int.add_assoc, Int.add_assoc, Int.add_left_comm b]
theorem dot_n (c : List Int) : dot [] c = 0 := by cases c <;> rfl
theorem dot_nil (l : List Int) : dot l [] = 0 := by cases l <;> rfl
theorem dot_add : ∀ (l m c : List Int), dot (add l m) c = dot l c + dot m c
  | [], m, c => by rw [dot_n, Int.zero_add]; rfl
  | a :: l, [], c => by rw [dot_n, Int.add_zero]; rfl
  | a :: l, b :: m, [] => by rw [dot_nil, dot_nil, dot_nil]; rfl
  | a :: l, b :: m, x :: c => by
    show (a + b) * x + dot (add l m) c = (a * x + dot l c) + (b * x + dot m c)
    rw [dot_add l m c, Int.add_mul, aac]
theorem dot_mul (k : Int) : ∀ (l c : List Int), dot (mul k l) c = k * dot l c
  | [], c => by rw [dot_n, Int.mul_zero]; exact dot_n c
  | a :: l, [] => by rw [dot_nil, dot_nil, Int.mul_zero]
  | a :: l, x :: c => by
    show (k * a) * x + dot (mul k l) c = k * (a * x + dot l c)
    rw [dot_mul k l c, Int.mul_add, Int.mul_assoc]
theorem dot_unit : ∀ (i : Nat) (c : List Int), dot (unit i) c = gI c i
  | 0, [] => rfl
  | 0, x :: c => by show 1 * x + dot [] c = x; rw [dot_n, Int.one_mul, Int.add_zero]
  | i + 1, [] => rfl
  | i + 1, x :: c => by show 0 * x + dot (unit i) c = gI c i; rw [dot_unit i c, Int.zero_mul, Int.zero_add]
theorem gI_nc : ∀ (c : List Nat) (i : Nat), gI (nc c) i = (gN c i : Int)
  | [], i => by cases i <;> rfl
  | x :: c, 0 => rfl
  | x :: c, i + 1 => gI_nc c i
structure L where
  k : Int
  l : List Int
  m : List Int
noncomputable def L.den (c : List Nat) (d : List Int) (x : L) : Int := x.k + dot x.l (nc c) + dot x.m d
noncomputable def L.add (x y : L) : L := ⟨x.k + y.k, Ar.add x.l y.l, Ar.add x.m y.m⟩
noncomputable def L.mul (k : Int) (x : L) : L := ⟨k * x.k, Ar.mul k x.l, Ar.mul k x.m⟩
noncomputable def L.sub (x y : L) : L := x.add (y.mul (-1))
theorem L.den_add (c : List Nat) (d : List Int) (x y : L) : (x.add y).den c d = x.den c d + y.den c d := by
  show x.k + y.k + dot (Ar.add x.l y.l) (nc c) + dot (Ar.add x.m y.m) d = (x.k + dot x.l (nc c) + dot x.m d) + (y.k + dot y.l (nc c) + dot y.m d)
  rw [dot_add, dot_add, aac (x.k), aac (x.k + _)]
theorem L.den_mul (c : List Nat) (d : List Int) (k : Int) (x : L) : (x.mul k).den c d = k * x.den c d := by
  show k * x.k + dot (Ar.mul k x.l) (nc c) + dot (Ar.mul k x.m) d = k * (x.k + dot x.l (nc c) + dot x.m d)
  rw [dot_mul, dot_mul, Int.mul_add, Int.mul_add]
theorem L.den_sub (c : List Nat) (d : List Int) (x y : L) : (x.sub y).den c d = x.den c d - y.den c d := by
  show (x.add (y.mul (-1))).den c d = _
  rw [den_add, den_mul, Int.neg_one_mul]; rfl
noncomputable def L.v (i : Nat) : L := ⟨0, unit i, []⟩
noncomputable def L.w (i : Nat) : L := ⟨0, [], unit i⟩
noncomputable def L.n (k : Int) : L := ⟨k, [], []⟩
theorem L.den_n (c : List Nat) (d : List Int) (k : Int) : (L.n k).den c d = k := by
  show k + dot [] (nc c) + dot [] d = k
  rw [dot_n, dot_n, Int.add_zero, Int.add_zero]
theorem L.den_v (c : List Nat) (d : List Int) (i : Nat) : (L.v i).den c d = (gN c i : Int) := by
  show 0 + dot (unit i) (nc c) + dot [] d = _
  rw [dot_n, dot_unit, gI_nc, Int.add_zero, Int.zero_add]
theorem L.den_w (c : List Nat) (d : List Int) (i : Nat) : (L.w i).den c d = gI d i := by
  show 0 + dot [] (nc c) + dot (unit i) d = _
  rw [dot_n, dot_unit, Int.add_zero, Int.zero_add]
noncomputable def T.lin : T → L
  | .v i => L.v i
  | .n k => L.n k
  | .a x y => x.lin.add y.lin
  | .m k x => x.lin.mul k
  | .r x k => x.lin.mul k
  | .s x => x.lin.add (L.n 1)
noncomputable def I.lin : I → L
  | .v i => L.w i
  | .n k => L.n k
  | .a x y => x.lin.add y.lin
  | .s x y => x.lin.sub y.lin
  | .g x => x.lin.mul (-1)
  | .m k x => x.lin.mul k
  | .r x k => x.lin.mul k
  | .c x => x.lin
theorem T.lin_den (c : List Nat) (d : List Int) (x : T) : x.lin.den c d = (x.den c : Int) :=
  T.rec (motive := fun x => x.lin.den c d = (x.den c : Int)) (L.den_v c d) (fun k => L.den_n c d k)
    (fun x y a b => (L.den_add c d x.lin y.lin).trans (a ▸ b ▸ rfl))
    (fun k x a => (L.den_mul c d k x.lin).trans (a ▸ rfl))
    (fun x k a => (L.den_mul c d k x.lin).trans (a ▸ Int.mul_comm _ _))
    (fun x a => (L.den_add c d x.lin (L.n 1)).trans (a ▸ (L.den_n c d 1) ▸ rfl)) x
theorem I.lin_den (c : List Nat) (d : List Int) (x : I) : x.lin.den c d = x.den c d :=
  I.rec (motive := fun x => x.lin.den c d = x.den c d) (L.den_w c d) (fun k => L.den_n c d k)
    (fun x y a b => (L.den_add c d x.lin y.lin).trans (a ▸ b ▸ rfl))
    (fun x y a b => (L.den_sub c d x.lin y.lin).trans (a ▸ b ▸ rfl))
    (fun x a => (L.den_mul c d (-1) x.lin).trans (a ▸ Int.neg_one_mul _))
    (fun k x a => (L.den_mul c d k x.lin).trans (a ▸ rfl))
    (fun x k a => (L.den_mul c d k x.lin).trans (a ▸ Int.mul_comm _ _))
    (fun x => T.lin_den c d x) x
inductive F where
  | g (x : L) | a (p q : F) | o (p q : F)
noncomputable def F.den (c : List Nat) (d : List Int) : F → Prop
  | .g x => 0 ≤ x.den c d
  | .a p q => p.den c d ∧ q.den c d
  | .o p q => p.den c d ∨ q.den c d
noncomputable def F.ge (x y : L) : F := .g (x.sub y)
noncomputable def F.gt (x y : L) : F := .g ((x.sub y).add (L.n (-1)))
theorem F.ge_den (c : List Nat) (d : List Int) (x y : L) : (F.ge x y).den c d ↔ y.den c d ≤ x.den c d :=
  Iff.trans (show (F.ge x y).den c d ↔ 0 ≤ x.den c d - y.den c d from (L.den_sub c d x y) ▸ Iff.rfl) ⟨Int.le_of_sub_nonneg, Int.sub_nonneg_of_le⟩
theorem F.gt_den (c : List Nat) (d : List Int) (x y : L) : (F.gt x y).den c d ↔ y.den c d < x.den c d :=
  Iff.trans (show (F.gt x y).den c d ↔ 0 ≤ x.den c d - y.den c d + -1 from (L.den_sub c d x y) ▸ (L.den_n c d (-1)) ▸ (L.den_add c d (x.sub y) (L.n (-1))) ▸ Iff.rfl)
    ⟨fun h => Int.lt_of_sub_pos (Int.lt_of_lt_of_le (by decide : (0 : Int) < 1) (Int.le_of_sub_nonneg h)), fun h => Int.sub_nonneg_of_le (Int.sub_pos_of_lt h)⟩
noncomputable def F.eq (x y : L) : F := .a (.ge x y) (.ge y x)
noncomputable def F.ne (x y : L) : F := .o (.gt x y) (.gt y x)
theorem F.eq_den (c : List Nat) (d : List Int) (x y : L) : (F.eq x y).den c d ↔ x.den c d = y.den c d :=
  ⟨fun h => Int.le_antisymm ((F.ge_den c d y x).1 h.2) ((F.ge_den c d x y).1 h.1), fun h => ⟨(F.ge_den c d x y).2 (Int.le_of_eq h.symm), (F.ge_den c d y x).2 (Int.le_of_eq h)⟩⟩
theorem F.ne_den (c : List Nat) (d : List Int) (x y : L) : (F.ne x y).den c d ↔ ¬ x.den c d = y.den c d :=
  ⟨fun h => h.elim (fun a => Int.ne_of_gt ((F.gt_den c d x y).1 a)) (fun a => Int.ne_of_lt ((F.gt_den c d y x).1 a)),
   fun h => (Int.lt_or_gt_of_ne h).elim (fun a => .inr ((F.gt_den c d y x).2 a)) (fun a => .inl ((F.gt_den c d x y).2 a))⟩
noncomputable def P.z : P → F × F
  | .l x y => (.ge y.lin x.lin, .gt x.lin y.lin)
  | .t x y => (.gt y.lin x.lin, .ge x.lin y.lin)
  | .e x y => (.eq x.lin y.lin, .ne x.lin y.lin)
  | .L x y => (.ge y.lin x.lin, .gt x.lin y.lin)
  | .t' x y => (.gt y.lin x.lin, .ge x.lin y.lin)
  | .E x y => (.eq x.lin y.lin, .ne x.lin y.lin)
  | .n p => (p.z.2, p.z.1)
  | .a p q => (.a p.z.1 q.z.1, .o p.z.2 q.z.2)
  | .o p q => (.o p.z.1 q.z.1, .a p.z.2 q.z.2)
  | .i p q => (.o p.z.2 q.z.1, .a p.z.1 q.z.2)
  | .f => (.g (L.n (-1)), .g (L.n 0))
theorem le' {x y : Nat} {a b : Int} (e : a = (x : Int)) (f : b = (y : Int)) : (a ≤ b ↔ x ≤ y) ∧ (b < a ↔ ¬ x ≤ y) :=
  ⟨e ▸ f ▸ Int.ofNat_le, e ▸ f ▸ Int.ofNat_lt.trans Nat.not_le.symm⟩
theorem lt' {x y : Nat} {a b : Int} (e : a = (x : Int)) (f : b = (y : Int)) : (a < b ↔ x < y) ∧ (b ≤ a ↔ ¬ x < y) :=
  ⟨e ▸ f ▸ Int.ofNat_lt, e ▸ f ▸ Int.ofNat_le.trans Nat.not_lt.symm⟩
theorem eq' {x y : Nat} {a b : Int} (e : a = (x : Int)) (f : b = (y : Int)) : (a = b ↔ x = y) :=
  e ▸ f ▸ Int.ofNat_inj
theorem P.z_den (c : List Nat) (d : List Int) (p : P) : (p.z.1.den c d ↔ p.den c d) ∧ (p.z.2.den c d ↔ ¬ p.den c d) :=
  P.rec (motive := fun p => (p.z.1.den c d ↔ p.den c d) ∧ (p.z.2.den c d ↔ ¬ p.den c d))
    (fun x y => ⟨(F.ge_den c d y.lin x.lin).trans (le' (T.lin_den c d x) (T.lin_den c d y)).1, (F.gt_den c d x.lin y.lin).trans (le' (T.lin_den c d x) (T.lin_den c d y)).2⟩)
    (fun x y => ⟨(F.gt_den c d y.lin x.lin).trans (lt' (T.lin_den c d x) (T.lin_den c d y)).1, (F.ge_den c d x.lin y.lin).trans (lt' (T.lin_den c d x) (T.lin_den c d y)).2⟩)
    (fun x y => ⟨(F.eq_den c d x.lin y.lin).trans (eq' (T.lin_den c d x) (T.lin_den c d y)), (F.ne_den c d x.lin y.lin).trans (not_congr (eq' (T.lin_den c d x) (T.lin_den c d y)))⟩)
    (fun x y => ⟨(F.ge_den c d y.lin x.lin).trans (I.lin_den c d x ▸ I.lin_den c d y ▸ Iff.rfl), (F.gt_den c d x.lin y.lin).trans (I.lin_den c d x ▸ I.lin_den c d y ▸ Int.not_le.symm)⟩)
    (fun x y => ⟨(F.gt_den c d y.lin x.lin).trans (I.lin_den c d x ▸ I.lin_den c d y ▸ Iff.rfl), (F.ge_den c d x.lin y.lin).trans (I.lin_den c d x ▸ I.lin_den c d y ▸ Int.not_lt.symm)⟩)
    (fun x y => ⟨(F.eq_den c d x.lin y.lin).trans (I.lin_den c d x ▸ I.lin_den c d y ▸ Iff.rfl), (F.ne_den c d x.lin y.lin).trans (I.lin_den c d x ▸ I.lin_den c d y ▸ Iff.rfl)⟩)
    (fun p a => ⟨a.2, a.1.trans ⟨fun h g => g h, Classical.byContradiction⟩⟩)
    (fun p q a b => ⟨and_congr a.1 b.1, (or_congr a.2 b.2).trans Classical.not_and_iff_not_or_not.symm⟩)
    (fun p q a b => ⟨or_congr a.1 b.1, (and_congr a.2 b.2).trans not_or.symm⟩)
    (fun p q a b => ⟨(or_congr a.2 b.1).trans ⟨fun h g => h.elim (absurd g) id, fun h => Classical.byCases (fun g => .inr (h g)) .inl⟩, (and_congr a.1 b.2).trans Classical.not_imp.symm⟩)
    ⟨⟨fun h => absurd ((L.den_n c d (-1)) ▸ h : (0 : Int) ≤ -1) (by decide), False.elim⟩, ⟨fun _ => id, fun _ => Int.le_of_eq (L.den_n c d 0).symm⟩⟩ p
noncomputable def put : F → List L × List (F × F) → List L × List (F × F)
  | .g x, (k, o) => (x :: k, o)
  | .a p q, s => put q (put p s)
  | .o p q, (k, o) => (k, (p, q) :: o)
noncomputable def Kn (c : List Nat) (d : List Int) : List L → Prop
  | [] => True
  | x :: k => 0 ≤ x.den c d ∧ Kn c d k
noncomputable def Os (c : List Nat) (d : List Int) : List (F × F) → Prop
  | [] => True
  | x :: k => (x.1.den c d ∨ x.2.den c d) ∧ Os c d k
theorem put_ok (c : List Nat) (d : List Int) : ∀ (p : F) (s : List L × List (F × F)), p.den c d → Kn c d s.1 ∧ Os c d s.2 → Kn c d (put p s).1 ∧ Os c d (put p s).2
  | .g x, (k, o), h, s => ⟨⟨h, s.1⟩, s.2⟩
  | .a p q, s, h, hs => put_ok c d q _ h.2 (put_ok c d p s h.1 hs)
  | .o p q, (k, o), h, s => ⟨s.1, h, s.2⟩
noncomputable def comb : List Nat → List L → L
  | m :: ms, x :: k => (x.mul m).add (comb ms k)
  | _, _ => L.n 0
theorem comb_ok (c : List Nat) (d : List Int) : ∀ (ms : List Nat) (k : List L), Kn c d k → 0 ≤ (comb ms k).den c d
  | m :: ms, x :: k, h => by
    show 0 ≤ ((x.mul m).add (comb ms k)).den c d
    rw [L.den_add, L.den_mul]
    exact Int.add_nonneg (Int.mul_nonneg (Int.natCast_nonneg m) h.1) (comb_ok c d ms k h.2)
  | [], _, _ => Int.le_of_eq (L.den_n c d 0).symm
  | _ :: _, [], _ => Int.le_of_eq (L.den_n c d 0).symm
noncomputable def np : Int → Bool
  | .ofNat 0 => true
  | .ofNat (_ + 1) => false
  | .negSucc _ => true
noncomputable def ng : Int → Bool
  | .ofNat _ => false
  | .negSucc _ => true
noncomputable def ze : Int → Bool
  | .ofNat 0 => true
  | _ => false
noncomputable def nps : List Int → Bool
  | [] => true
  | a :: l => np a && nps l
noncomputable def zes : List Int → Bool
  | [] => true
  | a :: l => ze a && zes l
theorem np_ok : ∀ {a : Int}, np a = true → a ≤ 0
  | .ofNat 0, _ => Int.le_refl 0
  | .negSucc _, _ => Int.le_of_lt (Int.negSucc_lt_zero _)
theorem ng_ok : ∀ {a : Int}, ng a = true → a < 0
  | .negSucc _, _ => Int.negSucc_lt_zero _
theorem ze_ok : ∀ {a : Int}, ze a = true → a = 0
  | .ofNat 0, _ => rfl
theorem nps_ok : ∀ (l : List Int) (c : List Nat), nps l = true → dot l (nc c) ≤ 0
  | [], c, _ => by rw [dot_n]; exact Int.le_refl 0
  | _ :: _, [], _ => Int.le_refl 0
  | a :: l, x :: c, h => by
    have h := (Bool.and_eq_true _ _).mp h
    exact Int.add_nonpos (Int.mul_nonpos_of_nonpos_of_nonneg (np_ok h.1) (Int.natCast_nonneg x)) (nps_ok l c h.2)
theorem zes_ok : ∀ (l c : List Int), zes l = true → dot l c = 0
  | [], c, _ => dot_n c
  | _ :: _, [], _ => rfl
  | a :: l, x :: c, h => by
    have h := (Bool.and_eq_true _ _).mp h
    show a * x + dot l c = 0
    rw [ze_ok h.1, zes_ok l c h.2, Int.zero_mul]; rfl
noncomputable def L.bad (x : L) : Bool := ng x.k && (nps x.l && zes x.m)
theorem L.bad_ok (c : List Nat) (d : List Int) (x : L) (h : x.bad = true) : ¬ 0 ≤ x.den c d := by
  have h := (Bool.and_eq_true _ _).mp h
  have g := (Bool.and_eq_true _ _).mp h.2
  show ¬ 0 ≤ x.k + dot x.l (nc c) + dot x.m d
  rw [zes_ok x.m d g.2, Int.add_zero]
  exact Int.not_le_of_gt (Int.add_neg_of_neg_of_nonpos (ng_ok h.1) (nps_ok x.l c g.1))
noncomputable def chk : C → List L → List (F × F) → Bool
  | .l ms, k, _ => (comb ms k).bad
  | .s x, k, _ :: o => chk x k o
  | .b x y, k, p :: o => chk x (put p.1 (k, o)).1 (put p.1 (k, o)).2 && chk y (put p.2 (k, o)).1 (put p.2 (k, o)).2
  | _, _, [] => false
theorem chk_ok (c : List Nat) (d : List Int) : ∀ (x : C) (k : List L) (o : List (F × F)), chk x k o = true → Kn c d k → Os c d o → False
  | .l ms, k, _, h, a, _ => L.bad_ok c d _ h (comb_ok c d ms k a)
  | .s x, k, _ :: o, h, a, b => chk_ok c d x k o h a b.2
  | .b x y, k, p :: o, h, a, b => by
    have h := (Bool.and_eq_true _ _).mp h
    rcases b.1 with q | q
    · have := put_ok c d p.1 (k, o) q ⟨a, b.2⟩
      exact chk_ok c d x _ _ h.1 this.1 this.2
    · have := put_ok c d p.2 (k, o) q ⟨a, b.2⟩
      exact chk_ok c d y _ _ h.2 this.1 this.2
noncomputable def top (p : P) (x : C) : Bool := chk x (put (p.z.2) ([], [])).1 (put (p.z.2) ([], [])).2
theorem top_ok (c : List Nat) (d : List Int) (p : P) (x : C) (h : top p x = true) : p.den c d :=
  Classical.byContradiction fun a => by
    have := put_ok c d (p.z.2) ([], []) ((P.z_den c d p).2.2 a) ⟨trivial, trivial⟩
    exact chk_ok c d x _ _ h this.1 this.2
noncomputable def allI : Nat → (List Int → Prop) → Prop
  | 0, K => K []
  | n + 1, K => ∀ z, allI n fun d => K (z :: d)
noncomputable def allN : Nat → (List Nat → Prop) → Prop
  | 0, K => K []
  | n + 1, K => ∀ x, allN n fun c => K (x :: c)
theorem allI_ok : ∀ (n : Nat) {K : List Int → Prop}, (∀ d, K d) → allI n K
  | 0, _, h => h []
  | n + 1, _, h => fun z => allI_ok n fun d => h (z :: d)
theorem allN_ok : ∀ (n : Nat) {K : List Nat → Prop}, (∀ c, K c) → allN n K
  | 0, _, h => h []
  | n + 1, _, h => fun x => allN_ok n fun c => h (x :: c)
theorem ar (n m : Nat) (p : P) (x : C) (h : top p x = true) : allN n fun c => allI m fun d => p.den c d :=
  allN_ok n fun c => allI_ok m fun d => top_ok c d p x h
noncomputable def P.S (x y z : T) : P := .o (.a (.l y x) (.e (.a z y) x)) (.a (.l x y) (.e z (.n 0)))
noncomputable def P.N (x y z : T) : P := .o (.a (.l x y) (.e z x)) (.a (.l y x) (.e z y))
noncomputable def P.X (x y z : T) : P := .o (.a (.l x y) (.e z y)) (.a (.l y x) (.e z x))
noncomputable def P.K (k : Nat) (x q r : T) : P := .a (.e (.a (.m k q) r) x) (.t r (.n k))
noncomputable def P.W (x : I) (z : T) : P := .o (.a (.L (.n 0) x) (.E (.c z) x)) (.a (.L x (.n 0)) (.e z (.n 0)))
noncomputable def P.J (k : Nat) (x q r : I) : P := .a (.E (.a (.m k q) r) x) (.a (.L (.n 0) r) (.t' r (.n k)))
noncomputable def P.Y (x y z : I) : P := .o (.a (.L x y) (.E z y)) (.a (.L y x) (.E z x))
theorem aS (a b : Nat) : (b ≤ a ∧ (a - b) + b = a) ∨ (a ≤ b ∧ a - b = 0) :=
  (Nat.le_total b a).elim (fun h => .inl ⟨h, Nat.sub_add_cancel h⟩) (fun h => .inr ⟨h, Nat.sub_eq_zero_of_le h⟩)
theorem aN (a b : Nat) : (a ≤ b ∧ min a b = a) ∨ (b ≤ a ∧ min a b = b) :=
  (Nat.le_total a b).elim (fun h => .inl ⟨h, Nat.min_eq_left h⟩) (fun h => .inr ⟨h, Nat.min_eq_right h⟩)
theorem aX (a b : Nat) : (a ≤ b ∧ max a b = b) ∨ (b ≤ a ∧ max a b = a) :=
  (Nat.le_total a b).elim (fun h => .inl ⟨h, Nat.max_eq_right h⟩) (fun h => .inr ⟨h, Nat.max_eq_left h⟩)
theorem aK (a k : Nat) (h : Nat.blt 0 k = true) : k * (a / k) + a % k = a ∧ a % k < k :=
  ⟨Nat.div_add_mod a k, Nat.mod_lt a (Nat.ble_eq.mp h)⟩
theorem aW (z : Int) : (0 ≤ z ∧ (z.toNat : Int) = z) ∨ (z ≤ 0 ∧ z.toNat = 0) :=
  (Int.le_total 0 z).elim (fun h => .inl ⟨h, Int.toNat_of_nonneg h⟩) (fun h => .inr ⟨h, Int.toNat_of_nonpos h⟩)
theorem aJ (z : Int) (k : Nat) (h : Nat.blt 0 k = true) : (k : Int) * (z / k) + z % k = z ∧ 0 ≤ z % (k : Int) ∧ z % (k : Int) < k :=
  have g := Int.ofNat_lt.mpr (Nat.ble_eq.mp h)
  ⟨Int.mul_ediv_add_emod z k, Int.emod_nonneg z (Int.ne_of_gt g), Int.emod_lt_of_pos z g⟩
theorem aY (a b : Int) : (a ≤ b ∧ max a b = b) ∨ (b ≤ a ∧ max a b = a) :=
  (Int.le_total a b).elim (fun h => .inl ⟨h, Int.max_eq_right h⟩) (fun h => .inr ⟨h, Int.max_eq_left h⟩)
end Ar
end Mine
end

section
set_option Elab.async false
set_option linter.unusedVariables false
namespace Mine
open Ar
theorem ar0 : ∀ {x0 : Nat} {z0 : Int} (h : ((x0 : Nat) : Int) < 2 ^ 63) (h : (0 : Int) ≤ z0) (h : z0 ≤ ((x0 : Nat) : Int)), (-2 ^ 63 : Int) ≤ z0 ∧ z0 < 2 ^ 63 := @ar 1 1 (.i (.t' (.c (.v 0)) (.n 9223372036854775808)) (.i (.L (.n 0) (.v 0)) (.i (.L (.v 0) (.c (.v 0))) (.a (.L (.g (.n 9223372036854775808)) (.v 0)) (.t' (.v 0) (.n 9223372036854775808)))))) (.b (.l [1, 0, 1]) (.l [1, 1, 0, 1])) rfl
theorem ar1 : ∀ {x0 : Nat} {z0 : Int} (h : ((x0 : Nat) : Int) < 2 ^ 63 - 1) (h : z0 ≤ ((x0 : Nat) : Int)), ¬ (z0 = 2 ^ 63 - 1) := @ar 1 1 (.i (.t' (.c (.v 0)) (.s (.n 9223372036854775808) (.n 1))) (.i (.L (.v 0) (.c (.v 0))) (.n (.E (.v 0) (.s (.n 9223372036854775808) (.n 1)))))) (.l [0, 1, 1, 1]) rfl
theorem ar2 {x0 : Nat} {z0 : Int} (h0 : z0 ≤ ((x0 : Nat) : Int)) : ¬ (x0 < (z0 : Int).toNat) :=
  ar 2 1 (.i (.W (.v 0) (.v 1)) (.i (.L (.v 0) (.c (.v 0))) (.n (.t (.v 0) (.v 1))))) (.b (.l [1, 0, 0, 1, 1]) (.l [1, 0, 0, 1])) rfl x0 ((z0 : Int).toNat) z0 (aW z0) h0
theorem ar3 : ∀ {z0 : Int} (h : (0 : Int) ≤ z0), ¬ (z0 < 0) := @ar 0 1 (.i (.L (.n 0) (.v 0)) (.n (.t' (.v 0) (.n 0)))) (.l [1, 1]) rfl
theorem ar4 {x0 : Nat} {z0 : Int} (h0 : z0 ≤ ((x0 : Nat) : Int)) : (z0 : Int).toNat ≤ x0 :=
  ar 2 1 (.i (.W (.v 0) (.v 1)) (.i (.L (.v 0) (.c (.v 0))) (.l (.v 1) (.v 0)))) (.b (.l [1, 0, 0, 1, 1]) (.l [1, 0, 0, 1])) rfl x0 ((z0 : Int).toNat) z0 (aW z0) h0
theorem ar5 : ∀ {z0 : Int} (h : (0 : Int) ≤ z0) (h : ¬ ((0 : Int) < z0)), z0 = 0 := @ar 0 1 (.i (.L (.n 0) (.v 0)) (.i (.n (.t' (.n 0) (.v 0))) (.E (.v 0) (.n 0)))) (.b (.l [1, 1]) (.l [1, 0, 1])) rfl
theorem ar6 : ∀ {z0 : Int} (h : (0 : Int) ≤ z0) (h : z0 < 2 ^ 63), (-2 ^ 63 : Int) ≤ z0 ∧ z0 < 2 ^ 63 := @ar 0 1 (.i (.L (.n 0) (.v 0)) (.i (.t' (.v 0) (.n 9223372036854775808)) (.a (.L (.g (.n 9223372036854775808)) (.v 0)) (.t' (.v 0) (.n 9223372036854775808))))) (.b (.l [1, 0, 1]) (.l [1, 1])) rfl
theorem ar7 : ∀ {z0 : Int} (h : (0 : Int) ≤ z0) (h : z0 < 256), ¬ (z0 < 0) ∧ ¬ ((256 : Int) ≤ z0) := @ar 0 1 (.i (.L (.n 0) (.v 0)) (.i (.t' (.v 0) (.n 256)) (.a (.n (.t' (.v 0) (.n 0))) (.n (.L (.n 256) (.v 0)))))) (.b (.l [1, 0, 1]) (.l [1, 1])) rfl
theorem ar8 : ∀ {x0 x1 : Nat} {z0 : Int} (h : ((x0 : Nat) : Int) < 2 ^ 63) (h : x1 ≤ x0) (h : z0 < ((x1 : Nat) : Int)), z0 < 2 ^ 63 := @ar 2 1 (.i (.t' (.c (.v 0)) (.n 9223372036854775808)) (.i (.l (.v 1) (.v 0)) (.i (.t' (.v 0) (.c (.v 1))) (.t' (.v 0) (.n 9223372036854775808))))) (.l [1, 1, 1, 1]) rfl
theorem ar9 : ∀ {x0 x1 x2 : Nat} (h : x0 + (x2 + 1) < x1), x0 < x1 := @ar 3 0 (.i (.t (.a (.v 0) (.s (.v 2))) (.v 1)) (.t (.v 0) (.v 1))) (.l [1, 1]) rfl
theorem ar10 : ∀ {x0 x1 x2 : Nat} (h : x0 + (x1 + 1) < x2), x0 + 1 + x1 < x2 := @ar 3 0 (.i (.t (.a (.v 0) (.s (.v 1))) (.v 2)) (.t (.a (.s (.v 0)) (.v 1)) (.v 2))) (.l [1, 1]) rfl
theorem ar11 : ∀ {x0 x1 x2 : Nat} (h : x0 + 8 * (x1 + 1) + 64 < x2), x0 + 3 + 8 * x1 + 64 < x2 := @ar 3 0 (.i (.t (.a (.a (.v 0) (.m 8 (.s (.v 1)))) (.n 64)) (.v 2)) (.t (.a (.a (.a (.v 0) (.n 3)) (.m 8 (.v 1))) (.n 64)) (.v 2))) (.l [1, 1]) rfl
theorem ar12 : ∀ {x0 x1 : Nat} (h : x0 < 0 * x1), False := @ar 2 0 (.i (.t (.v 0) (.m 0 (.v 1))) .f) (.l [0, 1]) rfl
theorem ar13 {x0 x1 : Nat} (h0 : x0 < (0 + 1) * x1 ∧ (0 + 1) * x1 ≤ x0 + 0) : False :=
  ar 3 0 (.i (.a (.t (.v 0) (.v 2)) (.l (.v 2) (.a (.v 0) (.n 0)))) .f) (.l [0, 1, 1]) rfl x0 x1 ((0 + 1) * x1) h0
theorem ar14 {x0 x1 x2 : Nat} (h0 : x0 * x1 ≤ x2) : x0 * x1 + x1 ≤ x2 + x1 :=
  ar 4 0 (.i (.l (.v 3) (.v 2)) (.l (.a (.v 3) (.v 1)) (.a (.v 2) (.v 1)))) (.l [1, 1]) rfl x0 x1 x2 (x0 * x1) h0
theorem ar15 {x0 x1 x2 : Nat} (h0 : x0 < (x1 + 1 + 1) * x2 ∧ (x1 + 1 + 1) * x2 ≤ x0 + 0) : x0 < x1 * x2 ∨ x0 < (x1 + 1) * x2 ∧ (x1 + 1) * x2 ≤ x0 + x2 :=
  ar 6 0 (.i (.a (.t (.v 0) (.v 5)) (.l (.v 5) (.a (.v 0) (.n 0)))) (.o (.t (.v 0) (.v 3)) (.a (.t (.v 0) (.v 4)) (.l (.v 4) (.a (.v 0) (.v 2)))))) (.l [0, 1, 1]) rfl x0 x1 x2 (x1 * x2) ((x1 + 1) * x2) ((x1 + 1 + 1) * x2) h0
theorem ar16 : ∀ {x0 x1 : Nat} (h : x1 < x0), 0 < x0 := @ar 2 0 (.i (.t (.v 1) (.v 0)) (.t (.n 0) (.v 0))) (.l [1, 1]) rfl
theorem ar17 {x0 x1 x2 : Nat} (h0 : x2 < x1) : x0 * x1 + x1 - 1 - x2 = x0 * x1 + (x1 - 1 - x2) :=
  ar 8 0 (.i (.S (.a (.v 3) (.v 1)) (.n 1) (.v 4)) (.i (.S (.v 4) (.v 2) (.v 5)) (.i (.S (.v 1) (.n 1) (.v 6)) (.i (.S (.v 6) (.v 2) (.v 7)) (.i (.t (.v 2) (.v 1)) (.e (.v 5) (.a (.v 3) (.v 7)))))))) (.b (.b (.b (.b (.b (.l [1, 0, 0, 1, 0, 0, 0, 1, 0, 0, 1, 0, 1]) (.l [1, 0, 0, 1, 0, 0, 0, 1, 1, 0, 1, 0, 1])) (.l [1, 0, 0, 0, 0, 0, 0, 1, 1, 1])) (.b (.b (.l [1, 0, 0, 1, 0, 0, 0, 1, 1, 0, 1, 0, 1]) (.l [1, 0, 0, 1, 0, 0, 0, 1, 0, 0, 1, 0, 1])) (.l [1, 0, 0, 0, 1, 1, 0, 1, 0, 1, 1]))) (.b (.b (.b (.l [1, 0, 0, 1, 0, 0, 0, 1, 0, 0, 1, 1, 1]) (.l [1, 0, 0, 1, 0, 0, 0, 1, 1, 0, 1, 1, 1])) (.l [1, 0, 0, 0, 0, 0, 0, 1, 0, 1])) (.b (.b (.l [1, 0, 0, 1, 0, 0, 0, 1, 1, 0, 1, 1, 1]) (.l [1, 0, 0, 1, 0, 0, 0, 1, 0, 0, 1, 1, 1])) (.l [1, 0, 0, 0, 0, 0, 0, 1, 0, 1])))) (.b (.b (.b (.b (.l [0, 1, 0, 0, 1, 0, 1, 0, 0, 1, 0, 0, 1]) (.l [0, 1, 1, 0, 1, 0, 1, 0, 0, 1, 0, 0, 1])) (.b (.l [0, 1, 0, 0, 1, 1, 1, 0, 0, 1, 0, 0, 1]) (.l [0, 1, 1, 0, 1, 1, 1, 0, 0, 1, 0, 0, 1]))) (.b (.b (.l [0, 1, 0, 0, 1, 0, 1, 0, 0, 1, 0, 0, 1, 1]) (.l [0, 1, 1, 0, 1, 0, 1, 0, 0, 1, 0, 0, 1, 1])) (.b (.l [0, 2, 1, 0, 1, 2, 1, 0, 0, 1, 0, 0, 1, 1]) (.l [0, 2, 1, 0, 1, 2, 1, 0, 0, 1, 0, 0, 1, 1])))) (.s (.b (.b (.l [0, 1, 0, 0, 1, 0, 1, 0, 0, 1, 1]) (.l [0, 1, 1, 0, 1, 0, 1, 0, 0, 1, 1])) (.b (.l [0, 1, 0, 0, 1, 1, 1, 0, 0, 1, 1]) (.l [0, 1, 1, 0, 1, 1, 1, 0, 0, 1, 1])))))) rfl x0 x1 x2 (x0 * x1) (x0 * x1 + x1 - 1) (x0 * x1 + x1 - 1 - x2) (x1 - 1) (x1 - 1 - x2) (aS ((x0 * x1 + x1)) 1) (aS ((x0 * x1 + x1 - 1)) x2) (aS x1 1) (aS ((x1 - 1)) x2) h0
theorem ar18 {x0 x1 : Nat} (h0 : x1 < x0) : x0 - 1 - x1 < x0 :=
  ar 4 0 (.i (.S (.v 0) (.n 1) (.v 2)) (.i (.S (.v 2) (.v 1) (.v 3)) (.i (.t (.v 1) (.v 0)) (.t (.v 3) (.v 0))))) (.b (.b (.l [1, 0, 0, 1, 0, 0, 1]) (.l [1, 0, 0, 1, 0, 0, 1, 1])) (.l [1, 0, 0, 1, 1])) rfl x0 x1 (x0 - 1) (x0 - 1 - x1) (aS x0 1) (aS ((x0 - 1)) x1) h0
theorem ar19 {x0 x1 x2 : Nat} (h0 : x2 < x1) : x0 * x1 + x2 = x0 * x1 + (x1 - 1 - (x1 - 1 - x2)) :=
  ar 7 0 (.i (.S (.v 1) (.n 1) (.v 4)) (.i (.S (.v 4) (.v 2) (.v 5)) (.i (.S (.v 4) (.v 5) (.v 6)) (.i (.t (.v 2) (.v 1)) (.e (.a (.v 3) (.v 2)) (.a (.v 3) (.v 6))))))) (.b (.b (.b (.l [1, 0, 0, 0, 1, 0, 1]) (.b (.l [0, 1, 0, 1, 0, 0, 0, 1, 0, 1, 1]) (.l [0, 1, 1, 1, 0, 0, 0, 1, 0, 1, 1]))) (.b (.l [1, 0, 0, 0, 1, 1, 1]) (.b (.l [0, 1, 0, 1, 0, 0, 0, 1, 1, 1, 1]) (.l [0, 0, 1, 0, 0, 0, 0, 1, 0, 1, 1])))) (.b (.b (.l [0, 1, 0, 1, 0, 0, 1]) (.l [0, 1, 1, 1, 0, 0, 1])) (.l [1, 0, 0, 1]))) rfl x0 x1 x2 (x0 * x1) (x1 - 1) (x1 - 1 - x2) (x1 - 1 - (x1 - 1 - x2)) (aS x1 1) (aS ((x1 - 1)) x2) (aS ((x1 - 1)) ((x1 - 1 - x2))) h0
theorem ar20 {x0 x1 x2 x3 : Nat} (h0 : (x0 + 1) * x1 = x0 * x1 + x1) (h1 : x2 < (x0 + 1) * x1 ∧ (x0 + 1) * x1 ≤ x2 + (x3 + 1)) (h2 : ¬ (x2 = x0 * x1 + x1 - 1 - x3)) : (x0 + 1) * x1 ≤ x2 + x3 :=
  ar 8 0 (.i (.S (.a (.v 5) (.v 1)) (.n 1) (.v 6)) (.i (.S (.v 6) (.v 3) (.v 7)) (.i (.e (.v 4) (.a (.v 5) (.v 1))) (.i (.a (.t (.v 2) (.v 4)) (.l (.v 4) (.a (.v 2) (.s (.v 3))))) (.i (.n (.e (.v 2) (.v 7))) (.l (.v 4) (.a (.v 2) (.v 3)))))))) (.b (.b (.b (.l [0, 1, 0, 0, 1, 0, 1, 1, 0, 0, 1]) (.l [0, 1, 1, 0, 1, 0, 1, 1, 0, 0, 1])) (.b (.l [0, 1, 0, 0, 1, 1, 1, 1, 0, 0, 1]) (.l [0, 1, 1, 0, 1, 1, 1, 1, 0, 0, 1]))) (.b (.b (.l [1, 0, 0, 1, 0, 0, 1, 0, 1, 0, 0, 1]) (.l [1, 0, 0, 1, 0, 0, 1, 0, 1, 1])) (.l [1, 0, 0, 1]))) rfl x0 x1 x2 x3 ((x0 + 1) * x1) (x0 * x1) (x0 * x1 + x1 - 1) (x0 * x1 + x1 - 1 - x3) (aS ((x0 * x1 + x1)) 1) (aS ((x0 * x1 + x1 - 1)) x3) h0 h1 h2
theorem ar21 {x0 x1 x2 x3 : Nat} (h0 : x0 < x3) (h1 : x3 = x1 * x2) : x0 < x1 * x2 :=
  ar 5 0 (.i (.t (.v 0) (.v 3)) (.i (.e (.v 3) (.v 4)) (.t (.v 0) (.v 4)))) (.l [1, 1, 0, 1]) rfl x0 x1 x2 x3 (x1 * x2) h0 h1
theorem ar22 : ∀ {x0 : Nat} (h : 0 < x0), (0 : Int) < ((x0 : Nat) : Int) := @ar 1 0 (.i (.t (.n 0) (.v 0)) (.t' (.n 0) (.c (.v 0)))) (.l [1, 1]) rfl
theorem ar23 {x0 x1 : Nat} (h0 : (0 : Int) < ((x0 * x1 : Nat) : Int)) : 0 < x0 * x1 :=
  ar 3 0 (.i (.t' (.n 0) (.c (.v 2))) (.t (.n 0) (.v 2))) (.l [1, 1]) rfl x0 x1 (x0 * x1) h0
theorem ar24 {x0 x1 : Nat} (h0 : (0 : Int) < ((x0 * x1 : Nat) : Int)) : ((x0 * x1 : Nat) : Int) - 0 - 1 = ((x0 * x1 - 1 : Nat) : Int) :=
  ar 4 0 (.i (.S (.v 2) (.n 1) (.v 3)) (.i (.t' (.n 0) (.c (.v 2))) (.E (.s (.s (.c (.v 2)) (.n 0)) (.n 1)) (.c (.v 3))))) (.b (.b (.l [0, 1, 0, 1]) (.l [0, 1, 1, 1])) (.b (.l [1, 0, 0, 1]) (.l [1, 0, 0, 1, 1]))) rfl x0 x1 (x0 * x1) (x0 * x1 - 1) (aS ((x0 * x1)) 1) h0
theorem ar25 {x0 x1 : Nat} (h0 : 0 < x1) : x0 * x1 + x1 - 1 = x0 * x1 + (x1 - 1) :=
  ar 5 0 (.i (.S (.a (.v 2) (.v 1)) (.n 1) (.v 3)) (.i (.S (.v 1) (.n 1) (.v 4)) (.i (.t (.n 0) (.v 1)) (.e (.v 3) (.a (.v 2) (.v 4)))))) (.b (.b (.b (.l [1, 0, 0, 0, 1, 0, 1]) (.l [1, 0, 0, 0, 1, 1, 1])) (.b (.l [1, 0, 0, 0, 1, 1, 1]) (.l [1, 0, 0, 0, 1, 0, 1]))) (.b (.b (.l [0, 1, 0, 1, 0, 0, 1]) (.l [0, 1, 1, 1, 0, 0, 1])) (.b (.l [0, 1, 0, 1, 0, 0, 1, 1]) (.l [0, 1, 1, 1, 0, 0, 1, 1])))) rfl x0 x1 (x0 * x1) (x0 * x1 + x1 - 1) (x1 - 1) (aS ((x0 * x1 + x1)) 1) (aS x1 1) h0
theorem ar26 {x0 : Nat} (h0 : 0 < x0) : x0 - 1 < x0 :=
  ar 2 0 (.i (.S (.v 0) (.n 1) (.v 1)) (.i (.t (.n 0) (.v 0)) (.t (.v 1) (.v 0)))) (.b (.l [1, 0, 0, 1]) (.l [1, 0, 0, 1, 1])) rfl x0 (x0 - 1) (aS x0 1) h0
theorem ar27 {x0 : Nat} (h0 : 0 < x0) : (((x0 - 1 : Nat) : Int) + 1 : Int).toNat = x0 :=
  ar 3 0 (.i (.S (.v 0) (.n 1) (.v 1)) (.i (.W (.a (.c (.v 1)) (.n 1)) (.v 2)) (.i (.t (.n 0) (.v 0)) (.e (.v 2) (.v 0))))) (.b (.b (.b (.l [1, 0, 0, 1, 0, 0, 1]) (.l [1, 0, 0, 1, 0, 0, 1, 1])) (.l [0, 0, 1])) (.b (.b (.l [0, 1, 0, 0, 1, 0, 1]) (.l [0, 1, 1, 0, 1, 0, 1])) (.l [0, 0, 1]))) rfl x0 (x0 - 1) ((((x0 - 1 : Nat) : Int) + 1 : Int).toNat) (aS x0 1) (aW ((((x0 - 1 : Nat) : Int) + 1))) h0
theorem ar28 {x0 x1 : Nat} (h0 : ¬ ((0 : Int) < ((x0 * x1 : Nat) : Int))) : x0 * x1 = 0 :=
  ar 3 0 (.i (.n (.t' (.n 0) (.c (.v 2)))) (.e (.v 2) (.n 0))) (.b (.l [1, 1]) (.l [1])) rfl x0 x1 (x0 * x1) h0
theorem ar29 : ∀ {x0 x1 : Nat} (h : 0 < x1) (h : x1 = 0), x0 = 0 := @ar 2 0 (.i (.t (.n 0) (.v 1)) (.i (.e (.v 1) (.n 0)) (.e (.v 0) (.n 0)))) (.l [1, 0, 1]) rfl
theorem ar30 : ∀ {x0 : Nat} (h : (0 : Int) < ((x0 : Nat) : Int)), (0 : Int) ≤ ((x0 : Nat) : Int) - 0 - 1 := @ar 1 0 (.i (.t' (.n 0) (.c (.v 0))) (.L (.n 0) (.s (.s (.c (.v 0)) (.n 0)) (.n 1)))) (.l [1, 1]) rfl
theorem ar31 : ∀ {x0 : Nat}, (0 : Int) ≤ ((x0 : Nat) : Int) := @ar 1 0 (.L (.n 0) (.c (.v 0))) (.l [1]) rfl
theorem ar32 : (0 : Int) ≤ 0 ∧ (0 : Int) ≤ 1000001 := ar 0 0 (.a (.L (.n 0) (.n 0)) (.L (.n 0) (.n 1000001))) (.b (.l [1]) (.l [1])) rfl
theorem ar33 : ∀ {x0 x1 : Nat} {z0 : Int} (h : (0 : Int) ≤ z0 ∧ z0 ≤ 1000001) (h : x0 ≤ 1000000) (h : x1 ≤ 1000000), (((((-2 ^ 63 : Int) ≤ 0 ∧ (0 : Int) < 2 ^ 63) ∧ (-2 ^ 63 : Int) ≤ ((x0 : Nat) : Int) ∧ ((x0 : Nat) : Int) < 2 ^ 63) ∧ (-2 ^ 63 : Int) ≤ ((x1 : Nat) : Int) ∧ ((x1 : Nat) : Int) < 2 ^ 63) ∧ (-2 ^ 63 : Int) ≤ z0 ∧ z0 < 2 ^ 63) ∧ (z0 = 0 ∨ (-2 ^ 63 : Int) ≤ ((x0 : Nat) : Int) + (((x1 : Nat) : Int) - 1) ∧ ((x0 : Nat) : Int) + (((x1 : Nat) : Int) - 1) < 2 ^ 63) := @ar 2 1 (.i (.a (.L (.n 0) (.v 0)) (.L (.v 0) (.n 1000001))) (.i (.l (.v 0) (.n 1000000)) (.i (.l (.v 1) (.n 1000000)) (.a (.a (.a (.a (.a (.L (.g (.n 9223372036854775808)) (.n 0)) (.t' (.n 0) (.n 9223372036854775808))) (.a (.L (.g (.n 9223372036854775808)) (.c (.v 0))) (.t' (.c (.v 0)) (.n 9223372036854775808)))) (.a (.L (.g (.n 9223372036854775808)) (.c (.v 1))) (.t' (.c (.v 1)) (.n 9223372036854775808)))) (.a (.L (.g (.n 9223372036854775808)) (.v 0)) (.t' (.v 0) (.n 9223372036854775808)))) (.o (.E (.v 0) (.n 0)) (.a (.L (.g (.n 9223372036854775808)) (.a (.c (.v 0)) (.s (.c (.v 1)) (.n 1)))) (.t' (.a (.c (.v 0)) (.s (.c (.v 1)) (.n 1))) (.n 9223372036854775808)))))))) (.b (.b (.b (.b (.b (.l [1]) (.l [1])) (.b (.l [1]) (.l [1, 0, 1]))) (.b (.l [1]) (.l [1, 1]))) (.b (.l [1, 0, 0, 0, 1]) (.l [1, 0, 0, 1]))) (.b (.l [1]) (.l [1, 1, 1]))) rfl
theorem ar37 {x0 x1 : Nat} (h0 : x0 < x1) : x0 ≤ x1 - 1 :=
  ar 3 0 (.i (.S (.v 1) (.n 1) (.v 2)) (.i (.t (.v 0) (.v 1)) (.l (.v 0) (.v 2)))) (.b (.l [0, 1, 0, 1, 1]) (.l [0, 1, 1, 1, 1])) rfl x0 x1 (x1 - 1) (aS x1 1) h0
theorem ar38 : ¬ ((0 : Int) < -1) := ar 0 0 (.n (.t' (.n 0) (.g (.n 1)))) (.l [1]) rfl
theorem ar39 {x0 : Nat} : (((x0 : Nat) : Int) - 1 - 0 - 1 + 1 : Int).toNat = x0 - 1 :=
  ar 3 0 (.i (.W (.a (.s (.s (.s (.c (.v 0)) (.n 1)) (.n 0)) (.n 1)) (.n 1)) (.v 1)) (.i (.S (.v 0) (.n 1) (.v 2)) (.e (.v 1) (.v 2)))) (.b (.b (.b (.l [1, 0, 0, 0, 1, 0, 1]) (.l [1, 0, 0, 0, 1, 1, 1])) (.b (.l [1, 0, 0, 0, 1, 1, 1]) (.l [1, 0, 0, 0, 1, 0, 1]))) (.b (.b (.l [0, 1, 0, 1, 0, 0, 1]) (.l [0, 1, 1, 1, 0, 0, 1])) (.l [1, 0, 0, 1]))) rfl x0 ((((x0 : Nat) : Int) - 1 - 0 - 1 + 1 : Int).toNat) (x0 - 1) (aW ((((x0 : Nat) : Int) - 1 - 0 - 1 + 1))) (aS x0 1)
theorem ar40 {x0 : Nat} (h0 : ¬ ((0 : Int) < ((x0 : Nat) : Int) - 1)) : (0 : Int).toNat = x0 - 1 :=
  ar 3 0 (.i (.W (.n 0) (.v 1)) (.i (.S (.v 0) (.n 1) (.v 2)) (.i (.n (.t' (.n 0) (.s (.c (.v 0)) (.n 1)))) (.e (.v 1) (.v 2))))) (.b (.s (.b (.l [1, 0, 0, 1]) (.l [1, 0, 0, 1]))) (.b (.l [1, 0, 0, 1, 1]) (.l [1, 0, 0, 1]))) rfl x0 ((0 : Int).toNat) (x0 - 1) (aW 0) (aS x0 1) h0
theorem ar41 {x0 x1 : Nat} (h0 : x1 < x0 - 1) : ((x0 : Nat) : Int) - 1 + ((x1 : Nat) : Int) * (-1) = ((x0 - 1 - x1 : Nat) : Int) :=
  ar 4 0 (.i (.S (.v 0) (.n 1) (.v 2)) (.i (.S (.v 2) (.v 1) (.v 3)) (.i (.t (.v 1) (.v 2)) (.E (.a (.s (.c (.v 0)) (.n 1)) (.r (.c (.v 1)) (-1))) (.c (.v 3)))))) (.b (.b (.b (.l [0, 1, 0, 0, 1, 0, 1]) (.l [0, 1, 1, 0, 1, 0, 1])) (.l [0, 0, 1, 0, 1])) (.b (.b (.l [1, 0, 0, 1, 0, 0, 1]) (.l [1, 0, 0, 0, 0, 0, 0, 1])) (.l [0, 0, 1, 0, 1]))) rfl x0 x1 (x0 - 1) (x0 - 1 - x1) (aS x0 1) (aS ((x0 - 1)) x1) h0
theorem ar42 : ∀ {x0 : Nat} (h : (0 : Int) < ((x0 : Nat) : Int) - 1) (h : x0 ≤ 1000000), (0 : Int) ≤ ((x0 : Nat) : Int) - 1 - 0 - 1 + 1 ∧ ((x0 : Nat) : Int) - 1 - 0 - 1 + 1 ≤ 1000000 := @ar 1 0 (.i (.t' (.n 0) (.s (.c (.v 0)) (.n 1))) (.i (.l (.v 0) (.n 1000000)) (.a (.L (.n 0) (.a (.s (.s (.s (.c (.v 0)) (.n 1)) (.n 0)) (.n 1)) (.n 1))) (.L (.a (.s (.s (.s (.c (.v 0)) (.n 1)) (.n 0)) (.n 1)) (.n 1)) (.n 1000000))))) (.b (.l [1, 0, 1]) (.l [1, 1])) rfl
theorem ar43 : (0 : Int) ≤ 0 ∧ (0 : Int) ≤ 1000000 := ar 0 0 (.a (.L (.n 0) (.n 0)) (.L (.n 0) (.n 1000000))) (.b (.l [1]) (.l [1])) rfl
theorem ar44 : ∀ {x0 : Nat} {z0 : Int} (h : (0 : Int) ≤ z0 ∧ z0 ≤ 1000000) (h : x0 ≤ 1000000), (((((-2 ^ 63 : Int) ≤ ((x0 : Nat) : Int) - 1 ∧ ((x0 : Nat) : Int) - 1 < 2 ^ 63) ∧ (-2 ^ 63 : Int) ≤ 0 ∧ (0 : Int) < 2 ^ 63) ∧ (-2 ^ 63 : Int) ≤ -1 ∧ (-1 : Int) < 2 ^ 63) ∧ (-2 ^ 63 : Int) ≤ z0 ∧ z0 < 2 ^ 63) ∧ (z0 = 0 ∨ (-2 ^ 63 : Int) ≤ 0 + ((-1) + 1) ∧ (0 + ((-1) + 1) : Int) < 2 ^ 63) := @ar 1 1 (.i (.a (.L (.n 0) (.v 0)) (.L (.v 0) (.n 1000000))) (.i (.l (.v 0) (.n 1000000)) (.a (.a (.a (.a (.a (.L (.g (.n 9223372036854775808)) (.s (.c (.v 0)) (.n 1))) (.t' (.s (.c (.v 0)) (.n 1)) (.n 9223372036854775808))) (.a (.L (.g (.n 9223372036854775808)) (.n 0)) (.t' (.n 0) (.n 9223372036854775808)))) (.a (.L (.g (.n 9223372036854775808)) (.g (.n 1))) (.t' (.g (.n 1)) (.n 9223372036854775808)))) (.a (.L (.g (.n 9223372036854775808)) (.v 0)) (.t' (.v 0) (.n 9223372036854775808)))) (.o (.E (.v 0) (.n 0)) (.a (.L (.g (.n 9223372036854775808)) (.a (.n 0) (.a (.g (.n 1)) (.n 1)))) (.t' (.a (.n 0) (.a (.g (.n 1)) (.n 1))) (.n 9223372036854775808))))))) (.b (.b (.b (.b (.b (.l [1]) (.l [1, 1])) (.b (.l [1]) (.l [1]))) (.b (.l [1]) (.l [1]))) (.b (.l [1, 0, 0, 1]) (.l [1, 0, 1]))) (.b (.l [1]) (.l [1]))) rfl
theorem ar46 : ∀ {x0 : Nat}, 1 + ((x0 : Nat) : Int) = ((x0 + 1 : Nat) : Int) := @ar 1 0 (.E (.a (.n 1) (.c (.v 0))) (.c (.s (.v 0)))) (.b (.l [1]) (.l [1])) rfl
theorem ar47 {z0 : Int} : (z0 % 3 : Int).toNat < 3 :=
  ar 1 3 (.i (.J 3 (.v 0) (.v 1) (.v 2)) (.i (.W (.v 2) (.v 0)) (.t (.v 0) (.n 3)))) (.b (.l [1, 0, 0, 1, 1]) (.l [1, 0, 0, 1])) rfl ((z0 % 3 : Int).toNat) z0 (z0 / 3) (z0 % 3) (aJ z0 3 rfl) (aW ((z0 % 3)))
theorem ar48 : ∀ {x0 x1 x2 x3 : Nat} (h : x0 ≤ x3 + 4 * x2) (h : x3 ≤ x1 + 4), x0 ≤ x1 + 4 * (x2 + 1) := @ar 4 0 (.i (.l (.v 0) (.a (.v 3) (.m 4 (.v 2)))) (.i (.l (.v 3) (.a (.v 1) (.n 4))) (.l (.v 0) (.a (.v 1) (.m 4 (.s (.v 2))))))) (.l [1, 1, 1]) rfl
theorem ar49 {x0 x1 : Nat} (h0 : x1 ≤ 3) : min x0 x1 ≤ 3 :=
  ar 3 0 (.i (.N (.v 0) (.v 1) (.v 2)) (.i (.l (.v 1) (.n 3)) (.l (.v 2) (.n 3)))) (.b (.l [1, 0, 1, 1, 1]) (.l [1, 0, 0, 1, 1])) rfl x0 x1 (min x0 x1) (aN x0 x1) h0
theorem ar50 : ∀ {x0 x1 : Nat} (h : x0 ≤ 4 * x1) (h : x1 ≤ 3), x0 ≤ 100 := @ar 2 0 (.i (.l (.v 0) (.m 4 (.v 1))) (.i (.l (.v 1) (.n 3)) (.l (.v 0) (.n 100)))) (.l [1, 4, 1]) rfl
theorem ar51 {z0 : Int} : (0 : Int) ≤ z0 % 3 ∧ z0 % 3 < 3 :=
  ar 0 3 (.i (.J 3 (.v 0) (.v 1) (.v 2)) (.a (.L (.n 0) (.v 2)) (.t' (.v 2) (.n 3)))) (.b (.l [1, 0, 1]) (.l [1, 1])) rfl z0 (z0 / 3) (z0 % 3) (aJ z0 3 rfl)
theorem ar52 : ∀ {x0 x1 x2 : Nat} (h : x0 ≤ 100) (h : x1 = 1) (h : x2 = 16777216), x0 + x1 ≤ x2 := @ar 3 0 (.i (.l (.v 0) (.n 100)) (.i (.e (.v 1) (.n 1)) (.i (.e (.v 2) (.n 16777216)) (.l (.a (.v 0) (.v 1)) (.v 2))))) (.l [1, 0, 1, 1, 0, 1]) rfl
theorem ar53 : ∀ {x0 x1 x2 : Nat} (h : x0 ≤ 100) (h : x1 = 1) (h : x2 = 16777216), x0 + x1 + x1 ≤ x2 := @ar 3 0 (.i (.l (.v 0) (.n 100)) (.i (.e (.v 1) (.n 1)) (.i (.e (.v 2) (.n 16777216)) (.l (.a (.a (.v 0) (.v 1)) (.v 1)) (.v 2))))) (.l [1, 0, 1, 2, 0, 1]) rfl
theorem ar54 : ∀ {x0 x1 x2 x3 : Nat} (h : x0 ≤ 100) (h : x1 = 1) (h : x2 = 1) (h : x3 = 16777216), x0 + x1 + x2 ≤ x3 := @ar 4 0 (.i (.l (.v 0) (.n 100)) (.i (.e (.v 1) (.n 1)) (.i (.e (.v 2) (.n 1)) (.i (.e (.v 3) (.n 16777216)) (.l (.a (.a (.v 0) (.v 1)) (.v 2)) (.v 3)))))) (.l [1, 0, 1, 1, 0, 1, 0, 1]) rfl
theorem ar55 : ∀ {x0 x1 x2 x3 : Nat} (h : x0 ≤ 100) (h : x1 = 1) (h : x2 = 1) (h : x3 = 16777216), x0 + x1 + x2 + x2 ≤ x3 := @ar 4 0 (.i (.l (.v 0) (.n 100)) (.i (.e (.v 1) (.n 1)) (.i (.e (.v 2) (.n 1)) (.i (.e (.v 3) (.n 16777216)) (.l (.a (.a (.a (.v 0) (.v 1)) (.v 2)) (.v 2)) (.v 3)))))) (.l [1, 0, 1, 2, 0, 1, 0, 1]) rfl
theorem ar56 : ∀ {x0 x1 x2 x3 : Nat} (h : x0 ≤ 100) (h : x1 = 1) (h : x2 = 1) (h : x3 = 16777216), x0 + x1 + x2 + x2 + x1 ≤ x3 := @ar 4 0 (.i (.l (.v 0) (.n 100)) (.i (.e (.v 1) (.n 1)) (.i (.e (.v 2) (.n 1)) (.i (.e (.v 3) (.n 16777216)) (.l (.a (.a (.a (.a (.v 0) (.v 1)) (.v 2)) (.v 2)) (.v 1)) (.v 3)))))) (.l [1, 0, 1, 2, 0, 2, 0, 1]) rfl
theorem ar57 : ∀ {x0 x1 x2 : Nat} (h : x0 = 1) (h : x1 ≤ 100) (h : x2 = 16777216), x0 + x1 ≤ x2 := @ar 3 0 (.i (.e (.v 0) (.n 1)) (.i (.l (.v 1) (.n 100)) (.i (.e (.v 2) (.n 16777216)) (.l (.a (.v 0) (.v 1)) (.v 2))))) (.l [1, 0, 1, 1, 1]) rfl
theorem ar58 : ∀ {x0 x1 x2 : Nat} (h : x0 = 1) (h : x1 ≤ 100) (h : x2 = 16777216), x0 + x1 + x0 ≤ x2 := @ar 3 0 (.i (.e (.v 0) (.n 1)) (.i (.l (.v 1) (.n 100)) (.i (.e (.v 2) (.n 16777216)) (.l (.a (.a (.v 0) (.v 1)) (.v 0)) (.v 2))))) (.l [1, 0, 1, 1, 2]) rfl
theorem ar59 {x0 x1 : Nat} (h0 : x1 < x0) : x0 + 1 - (x1 + 1) < x0 + 1 - x1 :=
  ar 4 0 (.i (.S (.s (.v 0)) (.s (.v 1)) (.v 2)) (.i (.S (.s (.v 0)) (.v 1) (.v 3)) (.i (.t (.v 1) (.v 0)) (.t (.v 2) (.v 3))))) (.b (.b (.l [1, 0, 0, 0, 1, 0, 1]) (.l [0, 0, 1, 0, 0, 0, 0, 1])) (.l [0, 0, 1, 0, 1])) rfl x0 x1 (x0 + 1 - (x1 + 1)) (x0 + 1 - x1) (aS ((x0 + 1)) ((x1 + 1))) (aS ((x0 + 1)) x1) h0
theorem ar60 : ∀ {z0 : Int} (h : (0 : Int) ≤ z0) (h : z0 ≤ 16777216), (-9223372036854775808 : Int) ≤ z0 ∧ z0 < 9223372036854775808 := @ar 0 1 (.i (.L (.n 0) (.v 0)) (.i (.L (.v 0) (.n 16777216)) (.a (.L (.g (.n 9223372036854775808)) (.v 0)) (.t' (.v 0) (.n 9223372036854775808))))) (.b (.l [1, 0, 1]) (.l [1, 1])) rfl
theorem ar61 : ∀ {z0 : Int} (h : z0 ≤ 16777216), z0 ≤ 1152921504606846975 := @ar 0 1 (.i (.L (.v 0) (.n 16777216)) (.L (.v 0) (.n 1152921504606846975))) (.l [1, 1]) rfl
theorem ar62 : ∀ {x0 x1 : Nat} (h : x0 < x1), x0 + 1 ≤ x1 := @ar 2 0 (.i (.t (.v 0) (.v 1)) (.l (.s (.v 0)) (.v 1))) (.l [1, 1]) rfl
theorem ar63 : ∀ {x0 x1 : Nat} (h : ((x0 : Nat) : Int) < ((x1 : Nat) : Int)), x0 < x1 := @ar 2 0 (.i (.t' (.c (.v 0)) (.c (.v 1))) (.t (.v 0) (.v 1))) (.l [1, 1]) rfl
theorem ar64 : ∀ {x0 : Nat} {z0 : Int} (h : x0 ≤ 2 ^ 24) (h : z0 < ((x0 : Nat) : Int)), z0 < 2 ^ 63 := @ar 1 1 (.i (.l (.v 0) (.n 16777216)) (.i (.t' (.v 0) (.c (.v 0))) (.t' (.v 0) (.n 9223372036854775808)))) (.l [1, 1, 1]) rfl
theorem ar65 {x0 : Nat} {z0 : Int} (h0 : (0 : Int) ≤ z0) (h1 : z0 < ((x0 : Nat) : Int)) : (z0 : Int).toNat < x0 :=
  ar 2 1 (.i (.W (.v 0) (.v 1)) (.i (.L (.n 0) (.v 0)) (.i (.t' (.v 0) (.c (.v 0))) (.t (.v 1) (.v 0))))) (.b (.l [1, 0, 0, 1, 1]) (.l [1, 0, 0, 1, 1, 1])) rfl x0 ((z0 : Int).toNat) z0 (aW z0) h0 h1
theorem ar66 : ∀ {x0 x1 : Nat} (h : x0 = x1) (h : ¬ (x0 ≤ x1)), False := @ar 2 0 (.i (.e (.v 0) (.v 1)) (.i (.n (.l (.v 0) (.v 1))) .f)) (.l [0, 1, 1]) rfl
theorem ar67 : ∀ {x0 x1 : Nat} (h : x0 < x1) (h : ¬ (x0 ≤ x1)), False := @ar 2 0 (.i (.t (.v 0) (.v 1)) (.i (.n (.l (.v 0) (.v 1))) .f)) (.l [0, 1, 1]) rfl
theorem ar68 {x0 x1 x2 : Nat} (h0 : x1 < x0) (h1 : x2 < x1) : x0 - x1 + x2 < x0 :=
  ar 4 0 (.i (.S (.v 0) (.v 1) (.v 3)) (.i (.t (.v 1) (.v 0)) (.i (.t (.v 2) (.v 1)) (.t (.a (.v 3) (.v 2)) (.v 0))))) (.b (.l [1, 0, 0, 1, 1]) (.l [0, 0, 1, 0, 0, 1])) rfl x0 x1 x2 (x0 - x1) (aS x0 x1) h0 h1
theorem ar69 {x0 x1 x2 x3 : Nat} (h0 : x1 < x0) (h1 : x2 < x1) : x0 - x1 + (x1 - x2 + x3) = x0 - x2 + x3 :=
  ar 7 0 (.i (.S (.v 0) (.v 1) (.v 4)) (.i (.S (.v 1) (.v 2) (.v 5)) (.i (.S (.v 0) (.v 2) (.v 6)) (.i (.t (.v 1) (.v 0)) (.i (.t (.v 2) (.v 1)) (.e (.a (.v 4) (.a (.v 5) (.v 3))) (.a (.v 6) (.v 3)))))))) (.b (.b (.b (.b (.l [1, 0, 0, 1, 0, 0, 0, 1, 0, 1]) (.l [1, 0, 0, 1, 0, 0, 0, 1, 0, 1, 0, 1])) (.l [0, 0, 1, 0, 0, 0, 0, 1])) (.l [0, 0, 1, 0, 1, 1])) (.b (.b (.b (.l [0, 1, 0, 0, 1, 0, 1, 0, 0, 1]) (.l [0, 1, 1, 0, 1, 0, 1, 0, 0, 1])) (.l [0, 0, 1, 0, 0, 0, 0, 1])) (.l [0, 0, 1, 0, 1, 1]))) rfl x0 x1 x2 x3 (x0 - x1) (x1 - x2) (x0 - x2) (aS x0 x1) (aS x1 x2) (aS x0 x2) h0 h1
theorem ar70 {x0 x1 x2 x3 : Nat} (h0 : x1 < x3) (h1 : x3 < x0) : x0 - x1 + x2 = x0 - x3 + (x3 - x1 + x2) :=
  ar 7 0 (.i (.S (.v 0) (.v 1) (.v 4)) (.i (.S (.v 0) (.v 3) (.v 5)) (.i (.S (.v 3) (.v 1) (.v 6)) (.i (.t (.v 1) (.v 3)) (.i (.t (.v 3) (.v 0)) (.e (.a (.v 4) (.v 2)) (.a (.v 5) (.a (.v 6) (.v 2))))))))) (.b (.b (.b (.b (.l [1, 0, 0, 0, 1, 0, 0, 1, 0, 1]) (.l [1, 0, 0, 0, 1, 1, 0, 1, 1, 1])) (.l [0, 0, 1, 0, 0, 0, 0, 1])) (.l [0, 0, 1, 0, 0, 1])) (.b (.b (.b (.l [0, 1, 0, 1, 0, 0, 1, 0, 0, 1]) (.l [0, 1, 1, 1, 0, 0, 1, 0, 0, 1])) (.l [0, 0, 1, 0, 0, 0, 0, 1])) (.l [0, 0, 1, 0, 0, 1]))) rfl x0 x1 x2 x3 (x0 - x1) (x0 - x3) (x3 - x1) (aS x0 x1) (aS x0 x3) (aS x3 x1) h0 h1
theorem ar71 : ∀ {x0 x1 : Nat} (h : x0 + 1 < x1 + 1), x0 < x1 := @ar 2 0 (.i (.t (.s (.v 0)) (.s (.v 1))) (.t (.v 0) (.v 1))) (.l [1, 1]) rfl
theorem ar72 : ∀ {x0 x1 : Nat} (h : x0 < x1), x0 < x1 + 1 := @ar 2 0 (.i (.t (.v 0) (.v 1)) (.t (.v 0) (.s (.v 1)))) (.l [1, 1]) rfl
theorem ar73 {x0 x1 x2 : Nat} : x0 + 1 - (x1 + 1) + x2 = x0 - x1 + x2 :=
  ar 5 0 (.i (.S (.s (.v 0)) (.s (.v 1)) (.v 3)) (.i (.S (.v 0) (.v 1) (.v 4)) (.e (.a (.v 3) (.v 2)) (.a (.v 4) (.v 2))))) (.b (.b (.b (.l [1, 0, 0, 0, 1, 0, 1]) (.l [1, 0, 0, 0, 1, 1, 1])) (.b (.l [1, 0, 0, 0, 1, 1, 1]) (.l [1, 0, 0, 0, 1, 0, 1]))) (.b (.b (.l [0, 1, 0, 1, 0, 0, 1]) (.l [0, 1, 1, 1, 0, 0, 1])) (.l [1, 0, 0, 1]))) rfl x0 x1 x2 (x0 + 1 - (x1 + 1)) (x0 - x1) (aS ((x0 + 1)) ((x1 + 1))) (aS x0 x1)
theorem ar74 : ∀ {x0 : Nat}, x0 < x0 + 1 := @ar 1 0 (.t (.v 0) (.s (.v 0))) (.l [1]) rfl
theorem ar75 {x0 x1 : Nat} (h0 : x1 + 1 < x0 + 1) : x0 + 1 - (x1 + 1) + x1 = x0 :=
  ar 3 0 (.i (.S (.s (.v 0)) (.s (.v 1)) (.v 2)) (.i (.t (.s (.v 1)) (.s (.v 0))) (.e (.a (.v 2) (.v 1)) (.v 0)))) (.b (.b (.l [1, 0, 0, 1]) (.l [1, 0, 0, 1, 1])) (.b (.l [0, 1, 0, 1]) (.l [0, 1, 1, 1]))) rfl x0 x1 (x0 + 1 - (x1 + 1)) (aS ((x0 + 1)) ((x1 + 1))) h0
theorem ar76 : ∀ {x0 x1 : Nat} (h : x0 < x1), x0 + 1 < x1 + 1 := @ar 2 0 (.i (.t (.v 0) (.v 1)) (.t (.s (.v 0)) (.s (.v 1)))) (.l [1, 1]) rfl
theorem ar77 {x0 x1 x2 : Nat} : x0 - x1 + x2 = x0 + 1 - (x1 + 1) + x2 :=
  ar 5 0 (.i (.S (.v 0) (.v 1) (.v 3)) (.i (.S (.s (.v 0)) (.s (.v 1)) (.v 4)) (.e (.a (.v 3) (.v 2)) (.a (.v 4) (.v 2))))) (.b (.b (.b (.l [1, 0, 0, 0, 1, 0, 1]) (.l [1, 0, 0, 0, 1, 1, 1])) (.b (.l [1, 0, 0, 0, 1, 1, 1]) (.l [1, 0, 0, 0, 1, 0, 1]))) (.b (.b (.l [0, 1, 0, 1, 0, 0, 1]) (.l [0, 1, 1, 1, 0, 0, 1])) (.l [1, 0, 0, 1]))) rfl x0 x1 x2 (x0 - x1) (x0 + 1 - (x1 + 1)) (aS x0 x1) (aS ((x0 + 1)) ((x1 + 1)))
theorem ar78 : ∀ {x0 x1 : Nat} (h : x0 < x1 + 1) (h : ¬ (x0 < x1)), x0 = x1 := @ar 2 0 (.i (.t (.v 0) (.s (.v 1))) (.i (.n (.t (.v 0) (.v 1))) (.e (.v 0) (.v 1)))) (.b (.l [1, 0, 1]) (.l [1, 1])) rfl
theorem ar79 {x0 x1 : Nat} (h0 : x1 < x0) : x0 = x0 + 1 - (x1 + 1) + x1 :=
  ar 3 0 (.i (.S (.s (.v 0)) (.s (.v 1)) (.v 2)) (.i (.t (.v 1) (.v 0)) (.e (.v 0) (.a (.v 2) (.v 1))))) (.b (.b (.l [0, 1, 0, 1]) (.l [0, 1, 1, 1])) (.b (.l [1, 0, 0, 1]) (.l [1, 0, 0, 1, 1]))) rfl x0 x1 (x0 + 1 - (x1 + 1)) (aS ((x0 + 1)) ((x1 + 1))) h0
theorem ar80 : ∀ {x0 : Nat}, 0 ≤ x0 + 1 := @ar 1 0 (.l (.n 0) (.s (.v 0))) (.l [1]) rfl
theorem ar81 : ∀ {x0 x1 : Nat} (h : x0 ≤ x1), x0 + 1 ≤ x1 + 1 := @ar 2 0 (.i (.l (.v 0) (.v 1)) (.l (.s (.v 0)) (.s (.v 1)))) (.l [1, 1]) rfl
theorem ar82 : ∀ {x0 : Nat}, 0 < x0 + 1 := @ar 1 0 (.t (.n 0) (.s (.v 0))) (.l [1]) rfl
theorem ar83 : (0 : Nat) ≤ 0 := ar 0 0 (.l (.n 0) (.n 0)) (.l [1]) rfl
theorem ar84 : ∀ {x0 : Nat} (h : x0 ≤ 0), x0 = 0 := @ar 1 0 (.i (.l (.v 0) (.n 0)) (.e (.v 0) (.n 0))) (.b (.l [1, 1]) (.l [1])) rfl
theorem ar85 : ∀ {x0 x1 : Nat} (h : x0 ≤ x1) (h : ¬ (x0 = x1)), x0 < x1 := @ar 2 0 (.i (.l (.v 0) (.v 1)) (.i (.n (.e (.v 0) (.v 1))) (.t (.v 0) (.v 1)))) (.b (.l [1, 0, 1]) (.l [1, 1])) rfl
theorem ar86 : ∀ {z0 : Int} (h : (0 : Int) < z0), ¬ (z0 = 0) := @ar 0 1 (.i (.t' (.n 0) (.v 0)) (.n (.E (.v 0) (.n 0)))) (.l [1, 0, 1]) rfl
theorem ar87 : ∀ {z0 : Int} (h : (0 : Int) < z0), (0 : Int) ≤ z0 := @ar 0 1 (.i (.t' (.n 0) (.v 0)) (.L (.n 0) (.v 0))) (.l [1, 1]) rfl
theorem ar88 : ∀ {x0 x1 : Nat} (h : x0 + x1 ≤ 2 ^ 24), x0 + x1 ≤ 16777216 := @ar 2 0 (.i (.l (.a (.v 0) (.v 1)) (.n 16777216)) (.l (.a (.v 0) (.v 1)) (.n 16777216))) (.l [1, 1]) rfl
theorem ar89 : ∀ {x0 x1 x2 x3 x4 : Nat} (h : x0 = x3) (h : x1 = x4) (h : x3 + x4 ≤ x2), x0 + x1 ≤ x2 := @ar 5 0 (.i (.e (.v 0) (.v 3)) (.i (.e (.v 1) (.v 4)) (.i (.l (.a (.v 3) (.v 4)) (.v 2)) (.l (.a (.v 0) (.v 1)) (.v 2))))) (.l [1, 1, 1, 0, 1]) rfl
theorem ar90 : ∀ {x0 x1 : Nat} (h : x0 = x1) (h : x1 ≤ 2 ^ 24), ((x0 : Nat) : Int) < 9223372036854775808 := @ar 2 0 (.i (.e (.v 0) (.v 1)) (.i (.l (.v 1) (.n 16777216)) (.t' (.c (.v 0)) (.n 9223372036854775808)))) (.l [1, 1, 1]) rfl
theorem ar91 : ∀ {x0 : Nat} (h : x0 ≤ 2 ^ 24), x0 ≤ 1099511627776 := @ar 1 0 (.i (.l (.v 0) (.n 16777216)) (.l (.v 0) (.n 1099511627776))) (.l [1, 1]) rfl
theorem ar92 : ∀ {x0 x1 : Nat} (h : x0 + 1 ≤ x1), x0 ≤ x1 := @ar 2 0 (.i (.l (.s (.v 0)) (.v 1)) (.l (.v 0) (.v 1))) (.l [1, 1]) rfl
theorem ar93 : ∀ {x0 x1 : Nat} (h : x0 + 1 ≤ x1), x0 < x1 := @ar 2 0 (.i (.l (.s (.v 0)) (.v 1)) (.t (.v 0) (.v 1))) (.l [1, 1]) rfl
theorem ar94 : ∀ {x0 x1 : Nat} (h : x0 = x1), x0 ≤ x1 := @ar 2 0 (.i (.e (.v 0) (.v 1)) (.l (.v 0) (.v 1))) (.l [1, 1]) rfl
theorem ar95 {x0 x1 x2 : Nat} : min (x0 - x1) (x2 - x1) ≤ x2 :=
  ar 6 0 (.i (.S (.v 2) (.v 1) (.v 4)) (.i (.N (.v 3) (.v 4) (.v 5)) (.l (.v 5) (.v 2)))) (.b (.b (.l [1, 0, 0, 1, 0, 1, 1]) (.l [1, 0, 0, 1, 0, 1, 1])) (.b (.l [1, 0, 0, 1, 0, 0, 1]) (.l [1, 0, 0, 1, 0, 0, 1]))) rfl x0 x1 x2 (x0 - x1) (x2 - x1) (min (x0 - x1) (x2 - x1)) (aS x2 x1) (aN ((x0 - x1)) ((x2 - x1)))
theorem ar96 {x0 x1 x2 : Nat} (h0 : x0 ≤ x2) : x0 - x1 ≤ x2 - x1 :=
  ar 5 0 (.i (.S (.v 0) (.v 1) (.v 3)) (.i (.S (.v 2) (.v 1) (.v 4)) (.i (.l (.v 0) (.v 2)) (.l (.v 3) (.v 4))))) (.b (.b (.l [1, 0, 0, 0, 1, 0, 1, 1]) (.l [1, 0, 0, 0, 1, 1, 1])) (.b (.l [1, 0, 0, 0, 1, 1, 1, 1]) (.l [1, 0, 0, 0, 1, 0, 1]))) rfl x0 x1 x2 (x0 - x1) (x2 - x1) (aS x0 x1) (aS x2 x1) h0
theorem ar97 {x0 : Nat} {z0 : Int} (h0 : (z0 : Int).toNat < x0) (h1 : x0 ≤ 2 ^ 24) : z0 < 2 ^ 63 :=
  ar 2 1 (.i (.W (.v 0) (.v 1)) (.i (.t (.v 1) (.v 0)) (.i (.l (.v 0) (.n 16777216)) (.t' (.v 0) (.n 9223372036854775808))))) (.b (.l [0, 1, 0, 1, 1, 1]) (.l [0, 0, 1, 1])) rfl x0 ((z0 : Int).toNat) z0 (aW z0) h0 h1
theorem ar98 : ∀ {x0 : Nat} {z0 : Int} (h : -((x0 : Nat) : Int) ≤ z0) (h : x0 ≤ 2 ^ 24), (-2 ^ 63 : Int) ≤ z0 := @ar 1 1 (.i (.L (.g (.c (.v 0))) (.v 0)) (.i (.l (.v 0) (.n 16777216)) (.L (.g (.n 9223372036854775808)) (.v 0)))) (.l [1, 1, 1]) rfl
theorem ar101 {x0 x1 x2 x3 : Nat} (h0 : x0 + 64 < x3) (h1 : x2 = 0) : x0 + 1 + min x1 x2 < x3 :=
  ar 5 0 (.i (.N (.v 1) (.v 2) (.v 4)) (.i (.t (.a (.v 0) (.n 64)) (.v 3)) (.i (.e (.v 2) (.n 0)) (.t (.a (.s (.v 0)) (.v 4)) (.v 3))))) (.b (.l [1, 0, 1, 1, 1, 0, 1]) (.l [1, 0, 0, 1, 1, 0, 1])) rfl x0 x1 x2 x3 (min x1 x2) (aN x1 x2) h0 h1
theorem ar102 : ∀ {x0 : Nat} (h : x0 < 1000000000), x0 < 1073741824 := @ar 1 0 (.i (.t (.v 0) (.n 1000000000)) (.t (.v 0) (.n 1073741824))) (.l [1, 1]) rfl
theorem ar103 : ∀ {x0 : Nat}, ¬ (x0 + 2 = x0 + 4) := @ar 1 0 (.n (.e (.a (.v 0) (.n 2)) (.a (.v 0) (.n 4)))) (.l [0, 1]) rfl
theorem ar104 : ∀ {x0 : Nat}, ¬ (x0 + 3 = x0 + 4) := @ar 1 0 (.n (.e (.a (.v 0) (.n 3)) (.a (.v 0) (.n 4)))) (.l [0, 1]) rfl
theorem ar105 : ∀ {x0 : Nat}, ¬ (x0 = x0 + 4) := @ar 1 0 (.n (.e (.v 0) (.a (.v 0) (.n 4)))) (.l [0, 1]) rfl
theorem ar106 : ∀ {x0 : Nat}, ¬ (x0 + 1 = x0 + 4) := @ar 1 0 (.n (.e (.s (.v 0)) (.a (.v 0) (.n 4)))) (.l [0, 1]) rfl
theorem ar107 : ∀ {x0 : Nat}, ¬ (x0 + 2 = x0 + 3) := @ar 1 0 (.n (.e (.a (.v 0) (.n 2)) (.a (.v 0) (.n 3)))) (.l [0, 1]) rfl
theorem ar108 : ∀ {x0 : Nat}, ¬ (x0 + 2 = x0) := @ar 1 0 (.n (.e (.a (.v 0) (.n 2)) (.v 0))) (.l [1]) rfl
theorem ar109 : ∀ {x0 : Nat}, ¬ (x0 + 2 = x0 + 1) := @ar 1 0 (.n (.e (.a (.v 0) (.n 2)) (.s (.v 0)))) (.l [1]) rfl
theorem ar110 : ∀ {x0 : Nat}, ¬ (x0 + 3 = x0) := @ar 1 0 (.n (.e (.a (.v 0) (.n 3)) (.v 0))) (.l [1]) rfl
theorem ar112 : ∀ {x0 : Nat}, ¬ (x0 = x0 + 1) := @ar 1 0 (.n (.e (.v 0) (.s (.v 0)))) (.l [0, 1]) rfl
theorem ar113 : ∀ {x0 x1 : Nat} (h : x0 < x1), ¬ (x0 = x1 + 4) := @ar 2 0 (.i (.t (.v 0) (.v 1)) (.n (.e (.v 0) (.a (.v 1) (.n 4))))) (.l [0, 1, 1]) rfl
theorem ar114 : ∀ {x0 x1 : Nat} (h : x0 < x1), ¬ (x0 = x1 + 3) := @ar 2 0 (.i (.t (.v 0) (.v 1)) (.n (.e (.v 0) (.a (.v 1) (.n 3))))) (.l [0, 1, 1]) rfl
theorem ar115 : ∀ {x0 x1 : Nat} (h : x0 < x1), ¬ (x0 = x1) := @ar 2 0 (.i (.t (.v 0) (.v 1)) (.n (.e (.v 0) (.v 1)))) (.l [0, 1, 1]) rfl
theorem ar116 : ∀ {x0 x1 : Nat} (h : x0 < x1), ¬ (x0 = x1 + 1) := @ar 2 0 (.i (.t (.v 0) (.v 1)) (.n (.e (.v 0) (.s (.v 1))))) (.l [0, 1, 1]) rfl
theorem ar117 {x0 x1 x2 : Nat} (h0 : x0 < x1) (h1 : x0 < x2) : x0 < min x1 x2 :=
  ar 4 0 (.i (.N (.v 1) (.v 2) (.v 3)) (.i (.t (.v 0) (.v 1)) (.i (.t (.v 0) (.v 2)) (.t (.v 0) (.v 3))))) (.b (.l [0, 1, 0, 1, 0, 1]) (.l [0, 1, 0, 1, 1])) rfl x0 x1 x2 (min x1 x2) (aN x1 x2) h0 h1
theorem ar118 : ∀ {x0 x1 x2 x3 x4 : Nat} (h : x0 = x2 + 4 ∨ x0 = x2 + 2 ∨ x0 = x2 + 3 ∨ x0 = x2 ∨ x0 = x2 + 1 ∨ x0 = x3 ∨ x0 = x4) (h : x1 = x2 + 5) (h : x3 < x2) (h : x4 < x2), x0 < x1 := @ar 5 0 (.i (.o (.e (.v 0) (.a (.v 2) (.n 4))) (.o (.e (.v 0) (.a (.v 2) (.n 2))) (.o (.e (.v 0) (.a (.v 2) (.n 3))) (.o (.e (.v 0) (.v 2)) (.o (.e (.v 0) (.s (.v 2))) (.o (.e (.v 0) (.v 3)) (.e (.v 0) (.v 4)))))))) (.i (.e (.v 1) (.a (.v 2) (.n 5))) (.i (.t (.v 3) (.v 2)) (.i (.t (.v 4) (.v 2)) (.t (.v 0) (.v 1)))))) (.b (.l [1, 0, 1, 0, 0, 0, 1]) (.b (.l [1, 0, 1, 0, 0, 0, 1]) (.b (.l [1, 0, 1, 0, 0, 0, 1]) (.b (.l [1, 0, 1, 0, 0, 0, 1]) (.b (.l [1, 0, 1, 0, 0, 0, 1]) (.b (.l [1, 0, 1, 0, 1, 0, 1]) (.l [1, 0, 1, 1, 0, 0, 1]))))))) rfl
theorem ar119 {x0 x1 x2 x3 x4 : Nat} (h0 : x0 = x2) (h1 : x2 ≤ min x3 x4) (h2 : x4 ≤ x1) : x0 ≤ x1 :=
  ar 6 0 (.i (.N (.v 3) (.v 4) (.v 5)) (.i (.e (.v 0) (.v 2)) (.i (.l (.v 2) (.v 5)) (.i (.l (.v 4) (.v 1)) (.l (.v 0) (.v 1)))))) (.b (.l [1, 0, 1, 1, 1, 1, 1]) (.l [1, 0, 0, 1, 1, 1, 1])) rfl x0 x1 x2 x3 x4 (min x3 x4) (aN x3 x4) h0 h1 h2
theorem ar120 : ∀ {x0 : Nat} (h : ¬ (((63 : Nat) : Int) < ((x0 : Nat) : Int))), x0 ≤ 16777216 := @ar 1 0 (.i (.n (.t' (.c (.n 63)) (.c (.v 0)))) (.l (.v 0) (.n 16777216))) (.l [1, 1]) rfl
theorem ar121 : ∀ {x0 x1 x2 x3 : Nat} (h : x0 + x3 < x2) (h : x1 ≤ x3), x0 + x1 < x2 := @ar 4 0 (.i (.t (.a (.v 0) (.v 3)) (.v 2)) (.i (.l (.v 1) (.v 3)) (.t (.a (.v 0) (.v 1)) (.v 2)))) (.l [1, 1, 1]) rfl
theorem ar122 : ∀ {x0 x1 x2 x3 : Nat} (h : x0 + 8 * x3 + 64 < x2) (h : x1 ≤ x3), x0 + 8 * x1 + 64 < x2 := @ar 4 0 (.i (.t (.a (.a (.v 0) (.m 8 (.v 3))) (.n 64)) (.v 2)) (.i (.l (.v 1) (.v 3)) (.t (.a (.a (.v 0) (.m 8 (.v 1))) (.n 64)) (.v 2)))) (.l [1, 8, 1]) rfl
theorem ar123 : ∀ {x0 x1 : Nat} (h : x0 + 8 * 2 + 64 < x1), x0 + 64 < x1 := @ar 2 0 (.i (.t (.a (.a (.v 0) (.m 8 (.n 2))) (.n 64)) (.v 1)) (.t (.a (.v 0) (.n 64)) (.v 1))) (.l [1, 1]) rfl
theorem ar124 {z0 z1 : Int} (h0 : z1 % 256 = z0) : (0 : Int) ≤ z0 ∧ z0 < 256 :=
  ar 0 4 (.i (.J 256 (.v 1) (.v 2) (.v 3)) (.i (.E (.v 3) (.v 0)) (.a (.L (.n 0) (.v 0)) (.t' (.v 0) (.n 256))))) (.b (.l [1, 1, 0, 0, 1]) (.l [1, 0, 1, 1])) rfl z0 z1 (z1 / 256) (z1 % 256) (aJ z1 256 rfl) h0
theorem ar125 {z0 z1 : Int} (h0 : (z1 + 1) % 256 = z0) : (0 : Int) ≤ z0 ∧ z0 < 256 :=
  ar 0 4 (.i (.J 256 (.a (.v 1) (.n 1)) (.v 2) (.v 3)) (.i (.E (.v 3) (.v 0)) (.a (.L (.n 0) (.v 0)) (.t' (.v 0) (.n 256))))) (.b (.l [1, 1, 0, 0, 1]) (.l [1, 0, 1, 1])) rfl z0 z1 ((z1 + 1) / 256) ((z1 + 1) % 256) (aJ ((z1 + 1)) 256 rfl) h0
theorem ar126 {z0 z1 : Int} (h0 : z1 % 4 = z0) : (0 : Int) ≤ z0 ∧ z0 < 4 :=
  ar 0 4 (.i (.J 4 (.v 1) (.v 2) (.v 3)) (.i (.E (.v 3) (.v 0)) (.a (.L (.n 0) (.v 0)) (.t' (.v 0) (.n 4))))) (.b (.l [1, 1, 0, 0, 1]) (.l [1, 0, 1, 1])) rfl z0 z1 (z1 / 4) (z1 % 4) (aJ z1 4 rfl) h0
theorem ar127 {x0 : Nat} {z0 : Int} (h0 : x0 = 3) : min (z0 : Int).toNat x0 ≤ 3 :=
  ar 3 1 (.i (.N (.v 1) (.v 0) (.v 2)) (.i (.e (.v 0) (.n 3)) (.l (.v 2) (.n 3)))) (.b (.l [1, 0, 1, 1, 1]) (.l [1, 0, 0, 1, 1])) rfl x0 ((z0 : Int).toNat) (min (z0 : Int).toNat x0) z0 (aN ((z0 : Int).toNat) x0) h0
theorem ar128 {x0 x1 x2 : Nat} (h0 : x0 ≤ 4 * x2) (h1 : x2 = 3) : x0 + (x1 - (x1 - 1)) ≤ 13 :=
  ar 5 0 (.i (.S (.v 1) (.n 1) (.v 3)) (.i (.S (.v 1) (.v 3) (.v 4)) (.i (.l (.v 0) (.m 4 (.v 2))) (.i (.e (.v 2) (.n 3)) (.l (.a (.v 0) (.v 4)) (.n 13)))))) (.b (.b (.l [0, 1, 0, 1, 0, 0, 1, 4, 0, 1]) (.l [0, 1, 1, 1, 0, 0, 1, 4, 0, 1])) (.l [1, 0, 0, 1, 4, 0, 1])) rfl x0 x1 x2 (x1 - 1) (x1 - (x1 - 1)) (aS x1 1) (aS x1 ((x1 - 1))) h0 h1
theorem ar129 : ∀ {x0 x1 x2 : Nat} (h : 2 * x2 ≤ x0) (h : x2 = 3), 1 ≤ x0 + x1 := @ar 3 0 (.i (.l (.m 2 (.v 2)) (.v 0)) (.i (.e (.v 2) (.n 3)) (.l (.n 1) (.a (.v 0) (.v 1))))) (.l [1, 0, 2, 1]) rfl
theorem ar130 {x0 : Nat} : min 3 x0 ≤ 16777213 :=
  ar 2 0 (.i (.N (.n 3) (.v 0) (.v 1)) (.l (.v 1) (.n 16777213))) (.b (.l [1, 0, 0, 1]) (.l [1, 0, 1, 1])) rfl x0 (min 3 x0) (aN 3 x0)
theorem ar131 : ∀ {x0 : Nat} (h : x0 = 3), x0 ≤ 3 := @ar 1 0 (.i (.e (.v 0) (.n 3)) (.l (.v 0) (.n 3))) (.l [1, 1]) rfl
theorem ar132 {z0 z1 : Int} (h0 : z1 % 4 = z0) : (0 : Int) ≤ z0 :=
  ar 0 4 (.i (.J 4 (.v 1) (.v 2) (.v 3)) (.i (.E (.v 3) (.v 0)) (.L (.n 0) (.v 0)))) (.l [1, 1, 0, 0, 1]) rfl z0 z1 (z1 / 4) (z1 % 4) (aJ z1 4 rfl) h0
theorem ar133 {x0 x1 x2 x3 : Nat} (h0 : x0 ≤ 4 * x3) (h1 : x2 = 16777216) (h2 : x3 = 3) : x0 + (x1 - (x1 - 1)) ≤ x2 :=
  ar 6 0 (.i (.S (.v 1) (.n 1) (.v 4)) (.i (.S (.v 1) (.v 4) (.v 5)) (.i (.l (.v 0) (.m 4 (.v 3))) (.i (.e (.v 2) (.n 16777216)) (.i (.e (.v 3) (.n 3)) (.l (.a (.v 0) (.v 5)) (.v 2))))))) (.b (.b (.l [0, 1, 0, 1, 0, 0, 1, 4, 0, 0, 1, 1]) (.l [0, 1, 1, 1, 0, 0, 1, 4, 0, 0, 1, 1])) (.l [1, 0, 0, 1, 4, 0, 0, 1, 1])) rfl x0 x1 x2 x3 (x1 - 1) (x1 - (x1 - 1)) (aS x1 1) (aS x1 ((x1 - 1))) h0 h1 h2
theorem ar134 {z0 : Int} : (0 : Int) ≤ (z0 + 1) % 256 ∧ (z0 + 1) % 256 < 256 :=
  ar 0 3 (.i (.J 256 (.a (.v 0) (.n 1)) (.v 1) (.v 2)) (.a (.L (.n 0) (.v 2)) (.t' (.v 2) (.n 256)))) (.b (.l [1, 0, 1]) (.l [1, 1])) rfl z0 ((z0 + 1) / 256) ((z0 + 1) % 256) (aJ ((z0 + 1)) 256 rfl)
theorem ar135 : ∀ {x0 : Nat}, ((x0 + 1 : Nat) : Int) - 1 = ((x0 : Nat) : Int) := @ar 1 0 (.E (.s (.c (.s (.v 0))) (.n 1)) (.c (.v 0))) (.b (.l [1]) (.l [1])) rfl
theorem ar136 {x0 : Nat} : x0 + 1 - 1 = x0 :=
  ar 2 0 (.i (.S (.s (.v 0)) (.n 1) (.v 1)) (.e (.v 1) (.v 0))) (.b (.b (.l [1, 0, 0, 1]) (.l [1, 0, 0, 1])) (.b (.l [0, 1, 0, 1]) (.l [0, 1, 1, 1]))) rfl x0 (x0 + 1 - 1) (aS ((x0 + 1)) 1)
theorem ar137 : ∀ {x0 : Nat} (h : x0 ≤ 13), x0 + 1 ≤ 1000000 := @ar 1 0 (.i (.l (.v 0) (.n 13)) (.l (.s (.v 0)) (.n 1000000))) (.l [1, 1]) rfl
theorem ar138 : ∀ {x0 x1 : Nat} (h : x0 < x1), x0 ≤ x1 := @ar 2 0 (.i (.t (.v 0) (.v 1)) (.l (.v 0) (.v 1))) (.l [1, 1]) rfl
theorem ar139 {x0 x1 : Nat} : x0 - x1 ≤ x0 :=
  ar 3 0 (.i (.S (.v 0) (.v 1) (.v 2)) (.l (.v 2) (.v 0))) (.b (.l [1, 0, 0, 1]) (.l [1, 0, 0, 1])) rfl x0 x1 (x0 - x1) (aS x0 x1)
theorem ar140 {x0 x1 : Nat} (h0 : x1 < x0) : 0 < x0 - x1 :=
  ar 3 0 (.i (.S (.v 0) (.v 1) (.v 2)) (.i (.t (.v 1) (.v 0)) (.t (.n 0) (.v 2)))) (.b (.l [0, 1, 0, 1, 1]) (.l [0, 0, 1, 0, 1])) rfl x0 x1 (x0 - x1) (aS x0 x1) h0
theorem ar141 {x0 x1 x2 : Nat} (h0 : x1 - x2 = x0) : min x0 x1 = x0 :=
  ar 5 0 (.i (.N (.v 0) (.v 1) (.v 3)) (.i (.S (.v 1) (.v 2) (.v 4)) (.i (.e (.v 4) (.v 0)) (.e (.v 3) (.v 0))))) (.b (.s (.b (.l [1, 0, 0, 1]) (.l [1, 0, 1, 1]))) (.b (.b (.l [0, 1, 0, 0, 0, 0, 1]) (.l [0, 1, 0, 1, 0, 0, 1, 0, 1])) (.l [1, 0, 0, 1, 0, 1]))) rfl x0 x1 x2 (min x0 x1) (x1 - x2) (aN x0 x1) (aS x1 x2) h0
theorem ar142 {x0 x1 x2 : Nat} (h0 : x0 - x2 = x1) : (0 : Int) ≤ ((x0 : Nat) : Int) - ((x1 : Nat) : Int) :=
  ar 4 0 (.i (.S (.v 0) (.v 2) (.v 3)) (.i (.e (.v 3) (.v 1)) (.L (.n 0) (.s (.c (.v 0)) (.c (.v 1)))))) (.b (.l [1, 0, 0, 1, 0, 1]) (.l [1, 0, 0, 1, 0, 1])) rfl x0 x1 x2 (x0 - x2) (aS x0 x2) h0
theorem ar143 {x0 x1 x2 : Nat} (h0 : x0 - x2 = x1) (h1 : x2 < x0) : (((x0 : Nat) : Int) - ((x1 : Nat) : Int) : Int).toNat = x2 :=
  ar 5 0 (.i (.W (.s (.c (.v 0)) (.c (.v 1))) (.v 3)) (.i (.S (.v 0) (.v 2) (.v 4)) (.i (.e (.v 4) (.v 1)) (.i (.t (.v 2) (.v 0)) (.e (.v 3) (.v 2)))))) (.b (.b (.b (.l [1, 0, 0, 0, 1, 0, 1, 0, 1]) (.l [1, 0, 0, 0, 0, 0, 1])) (.l [0, 0, 1, 0, 1])) (.b (.b (.l [0, 1, 0, 1, 0, 0, 1, 0, 0, 1]) (.l [0, 1, 1, 1, 0, 0, 1, 0, 0, 1])) (.l [0, 0, 1, 0, 1]))) rfl x0 x1 x2 ((((x0 : Nat) : Int) - ((x1 : Nat) : Int) : Int).toNat) (x0 - x2) (aW ((((x0 : Nat) : Int) - ((x1 : Nat) : Int)))) (aS x0 x2) h0 h1
theorem ar144 {x0 x1 x2 x3 : Nat} (h0 : x1 = 16777216) (h1 : x2 - x3 = x0) (h2 : x2 ≤ 13) : x0 + x0 ≤ x1 :=
  ar 5 0 (.i (.S (.v 2) (.v 3) (.v 4)) (.i (.e (.v 1) (.n 16777216)) (.i (.e (.v 4) (.v 0)) (.i (.l (.v 2) (.n 13)) (.l (.a (.v 0) (.v 0)) (.v 1)))))) (.b (.l [2, 0, 0, 1, 2, 0, 2, 0, 1]) (.l [2, 0, 0, 1, 0, 0, 2, 0, 1])) rfl x0 x1 x2 x3 (x2 - x3) (aS x2 x3) h0 h1 h2
theorem ar145 : ∀ {x0 : Nat}, x0 + x0 = 2 * x0 := @ar 1 0 (.e (.a (.v 0) (.v 0)) (.m 2 (.v 0))) (.b (.l [1]) (.l [1])) rfl
theorem ar146 {x0 x1 x2 : Nat} (h0 : x1 - x2 = x0) (h1 : x1 ≤ 13) : x0 + x0 ≤ 1000000 :=
  ar 4 0 (.i (.S (.v 1) (.v 2) (.v 3)) (.i (.e (.v 3) (.v 0)) (.i (.l (.v 1) (.n 13)) (.l (.a (.v 0) (.v 0)) (.n 1000000))))) (.b (.l [2, 0, 0, 1, 2, 0, 2]) (.l [2, 0, 0, 1, 0, 0, 2])) rfl x0 x1 x2 (x1 - x2) (aS x1 x2) h0 h1
theorem ar147 {x0 x1 x2 : Nat} (h0 : x1 - x2 = x0) (h1 : x1 ≤ 13) : x0 ≤ 1000000 :=
  ar 4 0 (.i (.S (.v 1) (.v 2) (.v 3)) (.i (.e (.v 3) (.v 0)) (.i (.l (.v 1) (.n 13)) (.l (.v 0) (.n 1000000))))) (.b (.l [1, 0, 0, 1, 1, 0, 1]) (.l [1, 0, 0, 1, 0, 0, 1])) rfl x0 x1 x2 (x1 - x2) (aS x1 x2) h0 h1
theorem ar148 {x0 x1 x2 x3 : Nat} (h0 : x1 = 16777216) (h1 : x2 - x3 = x0) (h2 : x2 ≤ 13) : x0 + 1 ≤ x1 :=
  ar 5 0 (.i (.S (.v 2) (.v 3) (.v 4)) (.i (.e (.v 1) (.n 16777216)) (.i (.e (.v 4) (.v 0)) (.i (.l (.v 2) (.n 13)) (.l (.s (.v 0)) (.v 1)))))) (.b (.l [1, 0, 0, 1, 1, 0, 1, 0, 1]) (.l [1, 0, 0, 1, 0, 0, 1, 0, 1])) rfl x0 x1 x2 x3 (x2 - x3) (aS x2 x3) h0 h1 h2
theorem ar149 {x0 x1 x2 x3 : Nat} (h0 : x1 = 16777216) (h1 : x2 - x3 = x0) (h2 : x2 ≤ 13) : x0 + 1 + x0 ≤ x1 :=
  ar 5 0 (.i (.S (.v 2) (.v 3) (.v 4)) (.i (.e (.v 1) (.n 16777216)) (.i (.e (.v 4) (.v 0)) (.i (.l (.v 2) (.n 13)) (.l (.a (.s (.v 0)) (.v 0)) (.v 1)))))) (.b (.l [2, 0, 0, 1, 2, 0, 2, 0, 1]) (.l [2, 0, 0, 1, 0, 0, 2, 0, 1])) rfl x0 x1 x2 x3 (x2 - x3) (aS x2 x3) h0 h1 h2
theorem ar150 {x0 x1 x2 x3 : Nat} (h0 : x0 = 2 * x1 + 1) (h1 : x2 - x3 = x1) (h2 : x2 ≤ 13) : x0 ≤ 16777216 :=
  ar 5 0 (.i (.S (.v 2) (.v 3) (.v 4)) (.i (.e (.v 0) (.s (.m 2 (.v 1)))) (.i (.e (.v 4) (.v 1)) (.i (.l (.v 2) (.n 13)) (.l (.v 0) (.n 16777216)))))) (.b (.l [2, 0, 0, 1, 2, 0, 2, 1]) (.l [2, 0, 0, 1, 0, 0, 2, 1])) rfl x0 x1 x2 x3 (x2 - x3) (aS x2 x3) h0 h1 h2
theorem ar151 {x0 x1 x2 x3 x4 x5 x6 x7 : Nat} (h0 : x2 = 16777216) (h1 : x3 ≤ 13) (h2 : x3 - x4 = x5) (h3 : x6 = 2 * x5 + 1) (h4 : x7 = 2 * x5 + 1) (h5 : x0 = x6) (h6 : x1 = x7) : x0 + x1 ≤ x2 :=
  ar 9 0 (.i (.S (.v 3) (.v 4) (.v 8)) (.i (.e (.v 2) (.n 16777216)) (.i (.l (.v 3) (.n 13)) (.i (.e (.v 8) (.v 5)) (.i (.e (.v 6) (.s (.m 2 (.v 5)))) (.i (.e (.v 7) (.s (.m 2 (.v 5)))) (.i (.e (.v 0) (.v 6)) (.i (.e (.v 1) (.v 7)) (.l (.a (.v 0) (.v 1)) (.v 2)))))))))) (.b (.l [4, 0, 0, 1, 1, 0, 1, 0, 1, 0, 1, 0, 0, 4, 4, 0, 1]) (.l [4, 0, 0, 1, 1, 0, 1, 0, 1, 0, 1, 0, 0, 4, 0, 0, 1])) rfl x0 x1 x2 x3 x4 x5 x6 x7 (x3 - x4) (aS x3 x4) h0 h1 h2 h3 h4 h5 h6
theorem ar152 : ∀ {x0 x1 : Nat} (h : x0 = 2 * x1 + 1), 1 ≤ x0 := @ar 2 0 (.i (.e (.v 0) (.s (.m 2 (.v 1)))) (.l (.n 1) (.v 0))) (.l [1, 0, 1]) rfl
theorem ar153 {x0 x1 x2 x3 : Nat} (h0 : x0 = 2 * x1 + 1) (h1 : x2 - x3 = x1) (h2 : x2 ≤ 13) : x0 ≤ 1000 :=
  ar 5 0 (.i (.S (.v 2) (.v 3) (.v 4)) (.i (.e (.v 0) (.s (.m 2 (.v 1)))) (.i (.e (.v 4) (.v 1)) (.i (.l (.v 2) (.n 13)) (.l (.v 0) (.n 1000)))))) (.b (.l [2, 0, 0, 1, 2, 0, 2, 1]) (.l [2, 0, 0, 1, 0, 0, 2, 1])) rfl x0 x1 x2 x3 (x2 - x3) (aS x2 x3) h0 h1 h2
theorem ar154 {x0 x1 x2 x3 x4 x5 : Nat} (h0 : x1 = 16777216) (h1 : x2 ≤ 13) (h2 : x0 ≤ x3 + 1) (h3 : x2 - x4 = x5) (h4 : x3 = 2 * x5 + 1) : x0 ≤ x1 :=
  ar 7 0 (.i (.S (.v 2) (.v 4) (.v 6)) (.i (.e (.v 1) (.n 16777216)) (.i (.l (.v 2) (.n 13)) (.i (.l (.v 0) (.s (.v 3))) (.i (.e (.v 6) (.v 5)) (.i (.e (.v 3) (.s (.m 2 (.v 5)))) (.l (.v 0) (.v 1)))))))) (.b (.l [2, 0, 0, 1, 1, 0, 0, 2, 1, 2, 0, 1]) (.l [2, 0, 0, 1, 1, 0, 0, 2, 1, 0, 0, 1])) rfl x0 x1 x2 x3 x4 x5 (x2 - x4) (aS x2 x4) h0 h1 h2 h3 h4
theorem ar155 {x0 x1 x2 x3 x4 x5 x6 : Nat} (h0 : x2 = 16777216) (h1 : x3 ≤ 13) (h2 : x0 ≤ x4 * 28) (h3 : x1 ≤ x5 + 1) (h4 : x3 - x4 = x6) (h5 : x5 = 2 * x6 + 1) (h6 : 0 < x6) : x0 + x1 ≤ x2 :=
  ar 8 0 (.i (.S (.v 3) (.v 4) (.v 7)) (.i (.e (.v 2) (.n 16777216)) (.i (.l (.v 3) (.n 13)) (.i (.l (.v 0) (.r (.v 4) 28)) (.i (.l (.v 1) (.s (.v 5))) (.i (.e (.v 7) (.v 6)) (.i (.e (.v 5) (.s (.m 2 (.v 6)))) (.i (.t (.n 0) (.v 6)) (.l (.a (.v 0) (.v 1)) (.v 2)))))))))) (.b (.l [28, 0, 0, 1, 26, 1, 0, 0, 28, 1, 1, 28, 0, 1]) (.l [1, 0, 0, 0, 1, 0, 0, 0, 1])) rfl x0 x1 x2 x3 x4 x5 x6 (x3 - x4) (aS x3 x4) h0 h1 h2 h3 h4 h5 h6
theorem ar156 {x0 x1 x2 : Nat} (h0 : x0 - x2 = x1) (h1 : x2 < x0) : ((x0 : Nat) : Int) - ((x1 : Nat) : Int) = ((x2 : Nat) : Int) :=
  ar 4 0 (.i (.S (.v 0) (.v 2) (.v 3)) (.i (.e (.v 3) (.v 1)) (.i (.t (.v 2) (.v 0)) (.E (.s (.c (.v 0)) (.c (.v 1))) (.c (.v 2)))))) (.b (.b (.l [0, 1, 0, 1, 0, 1]) (.l [0, 0, 1, 0, 1])) (.b (.l [1, 0, 0, 1, 0, 0, 1]) (.l [0, 0, 1, 0, 1]))) rfl x0 x1 x2 (x0 - x2) (aS x0 x2) h0 h1
theorem ar157 : ∀ {x0 x1 : Nat}, ((x0 : Nat) : Int) + ((x1 : Nat) : Int) = ((x0 + x1 : Nat) : Int) := @ar 2 0 (.E (.a (.c (.v 0)) (.c (.v 1))) (.c (.a (.v 0) (.v 1)))) (.b (.l [1]) (.l [1])) rfl
theorem ar158 {x0 x1 x2 x3 x4 x5 : Nat} (h0 : x1 = 16777216) (h1 : x2 ≤ 13) (h2 : x2 - x3 = x4) (h3 : x5 = 2 * x4 + 1) (h4 : x0 ≤ x5 + 1) : x0 ≤ x1 :=
  ar 7 0 (.i (.S (.v 2) (.v 3) (.v 6)) (.i (.e (.v 1) (.n 16777216)) (.i (.l (.v 2) (.n 13)) (.i (.e (.v 6) (.v 4)) (.i (.e (.v 5) (.s (.m 2 (.v 4)))) (.i (.l (.v 0) (.s (.v 5))) (.l (.v 0) (.v 1)))))))) (.b (.l [2, 0, 0, 1, 1, 1, 0, 0, 2, 2, 0, 1]) (.l [2, 0, 0, 1, 1, 1, 0, 0, 2, 0, 0, 1])) rfl x0 x1 x2 x3 x4 x5 (x2 - x3) (aS x2 x3) h0 h1 h2 h3 h4
theorem ar159 {x0 x1 x2 x3 x4 x5 x6 : Nat} (h0 : x2 = 16777216) (h1 : x3 ≤ 13) (h2 : x0 ≤ x4 * 28) (h3 : x3 - x4 = x5) (h4 : x6 = 2 * x5 + 1) (h5 : x1 ≤ x6 + 1) (h6 : 0 < x5) : x0 + x1 ≤ x2 :=
  ar 8 0 (.i (.S (.v 3) (.v 4) (.v 7)) (.i (.e (.v 2) (.n 16777216)) (.i (.l (.v 3) (.n 13)) (.i (.l (.v 0) (.r (.v 4) 28)) (.i (.e (.v 7) (.v 5)) (.i (.e (.v 6) (.s (.m 2 (.v 5)))) (.i (.l (.v 1) (.s (.v 6))) (.i (.t (.n 0) (.v 5)) (.l (.a (.v 0) (.v 1)) (.v 2)))))))))) (.b (.l [28, 0, 0, 1, 26, 1, 1, 0, 0, 28, 1, 28, 0, 1]) (.l [1, 0, 0, 0, 1, 0, 0, 0, 0, 1])) rfl x0 x1 x2 x3 x4 x5 x6 (x3 - x4) (aS x3 x4) h0 h1 h2 h3 h4 h5 h6
theorem ar160 {x0 x1 x2 : Nat} (h0 : x1 - x2 = x0) : x0 ≤ x1 :=
  ar 4 0 (.i (.S (.v 1) (.v 2) (.v 3)) (.i (.e (.v 3) (.v 0)) (.l (.v 0) (.v 1)))) (.b (.l [1, 0, 0, 1, 0, 1]) (.l [1, 0, 0, 1, 0, 1])) rfl x0 x1 x2 (x1 - x2) (aS x1 x2) h0
theorem ar161 {x0 x1 : Nat} (h0 : x1 ≤ x0) : ((x0 : Nat) : Int) - ((x1 : Nat) : Int) = ((x0 - x1 : Nat) : Int) :=
  ar 3 0 (.i (.S (.v 0) (.v 1) (.v 2)) (.i (.l (.v 1) (.v 0)) (.E (.s (.c (.v 0)) (.c (.v 1))) (.c (.v 2))))) (.b (.b (.l [0, 1, 0, 1]) (.l [0, 1, 1, 1])) (.b (.l [1, 0, 0, 1]) (.l [1, 0, 0, 1, 1]))) rfl x0 x1 (x0 - x1) (aS x0 x1) h0
theorem ar162 : ∀ {x0 : Nat} (h : x0 ≤ 13), x0 < 1000 := @ar 1 0 (.i (.l (.v 0) (.n 13)) (.t (.v 0) (.n 1000))) (.l [1, 1]) rfl
theorem ar163 : ∀ {x0 x1 : Nat} (h : x0 ≤ x1) (h : x1 ≤ 13), (0 : Int) ≤ ((x0 : Nat) : Int) ∧ ((x0 : Nat) : Int) < 1000 := @ar 2 0 (.i (.l (.v 0) (.v 1)) (.i (.l (.v 1) (.n 13)) (.a (.L (.n 0) (.c (.v 0))) (.t' (.c (.v 0)) (.n 1000))))) (.b (.l [1]) (.l [1, 1, 1])) rfl
theorem ar164 : ∀ {x0 x1 : Nat} (h : x1 = x0) (h : x1 ≤ 91), x0 < 128 := @ar 2 0 (.i (.e (.v 1) (.v 0)) (.i (.l (.v 1) (.n 91)) (.t (.v 0) (.n 128)))) (.l [1, 1, 0, 1]) rfl
theorem ar165 : ∀ {x0 x1 x2 : Nat} (h : x1 = 16777216) (h : x2 = x0) (h : x2 ≤ 91), x0 ≤ x1 := @ar 3 0 (.i (.e (.v 1) (.n 16777216)) (.i (.e (.v 2) (.v 0)) (.i (.l (.v 2) (.n 91)) (.l (.v 0) (.v 1))))) (.l [1, 1, 0, 1, 0, 1]) rfl
theorem ar166 {x0 x1 : Nat} (h0 : x0 ≤ x1 - 1 + 1) (h1 : x1 ≤ 13) : x0 ≤ 14 :=
  ar 3 0 (.i (.S (.v 1) (.n 1) (.v 2)) (.i (.l (.v 0) (.s (.v 2))) (.i (.l (.v 1) (.n 13)) (.l (.v 0) (.n 14))))) (.b (.l [1, 0, 0, 1, 1, 1]) (.l [1, 0, 0, 1, 0, 1])) rfl x0 x1 (x1 - 1) (aS x1 1) h0 h1
theorem ar167 : ∀ {x0 : Nat} (h : x0 ≤ 13), x0 ≤ 1000 := @ar 1 0 (.i (.l (.v 0) (.n 13)) (.l (.v 0) (.n 1000))) (.l [1, 1]) rfl
theorem ar168 : ∀ {x0 x1 : Nat} (h : x0 ≤ 14) (h : x1 = 16777216), x0 ≤ x1 := @ar 2 0 (.i (.l (.v 0) (.n 14)) (.i (.e (.v 1) (.n 16777216)) (.l (.v 0) (.v 1)))) (.l [1, 0, 1, 1]) rfl
theorem ar169 : (-2 ^ 62 : Int) ≤ 0 := ar 0 0 (.L (.g (.n 4611686018427387904)) (.n 0)) (.l [1]) rfl
theorem ar170 : (0 : Int) < 2 ^ 62 := ar 0 0 (.t' (.n 0) (.n 4611686018427387904)) (.l [1]) rfl
theorem ar171 : ∀ {x0 : Nat}, (-2 ^ 62 : Int) ≤ ((x0 : Nat) : Int) := @ar 1 0 (.L (.g (.n 4611686018427387904)) (.c (.v 0))) (.l [1]) rfl
theorem ar172 : ∀ {x0 : Nat} (h : x0 ≤ 13), ((x0 : Nat) : Int) < 2 ^ 62 := @ar 1 0 (.i (.l (.v 0) (.n 13)) (.t' (.c (.v 0)) (.n 4611686018427387904))) (.l [1, 1]) rfl
theorem ar173 : ∀ {x0 x1 : Nat} (h : x0 ≤ 91) (h : x1 = 16777216), x0 ≤ x1 := @ar 2 0 (.i (.l (.v 0) (.n 91)) (.i (.e (.v 1) (.n 16777216)) (.l (.v 0) (.v 1)))) (.l [1, 0, 1, 1]) rfl
theorem ar174 {x0 x1 : Nat} : (((x0 : Nat) : Int) + 1 - (((x1 : Nat) : Int) + 1) : Int).toNat = x0 - x1 :=
  ar 4 0 (.i (.W (.s (.a (.c (.v 0)) (.n 1)) (.a (.c (.v 1)) (.n 1))) (.v 2)) (.i (.S (.v 0) (.v 1) (.v 3)) (.e (.v 2) (.v 3)))) (.b (.b (.b (.l [1, 0, 0, 0, 1, 0, 1]) (.l [1, 0, 0, 0, 1, 1, 1])) (.b (.l [1, 0, 0, 0, 1, 1, 1]) (.l [1, 0, 0, 0, 1, 0, 1]))) (.b (.b (.l [0, 1, 0, 1, 0, 0, 1]) (.l [0, 1, 1, 1, 0, 0, 1])) (.l [1, 0, 0, 1]))) rfl x0 x1 ((((x0 : Nat) : Int) + 1 - (((x1 : Nat) : Int) + 1) : Int).toNat) (x0 - x1) (aW ((((x0 : Nat) : Int) + 1 - (((x1 : Nat) : Int) + 1)))) (aS x0 x1)
theorem ar175 : ∀ {x0 : Nat}, (-2 ^ 62 : Int) ≤ ((x0 : Nat) : Int) + 1 := @ar 1 0 (.L (.g (.n 4611686018427387904)) (.a (.c (.v 0)) (.n 1))) (.l [1]) rfl
theorem ar176 : ∀ {x0 x1 : Nat} (h : x0 < x1) (h : x1 ≤ 13), ((x0 : Nat) : Int) + 1 < 2 ^ 62 := @ar 2 0 (.i (.t (.v 0) (.v 1)) (.i (.l (.v 1) (.n 13)) (.t' (.a (.c (.v 0)) (.n 1)) (.n 4611686018427387904)))) (.l [1, 1, 1]) rfl
theorem ar177 : ∀ {x0 : Nat} (h : x0 ≤ 13), ((x0 : Nat) : Int) + 1 < 2 ^ 62 := @ar 1 0 (.i (.l (.v 0) (.n 13)) (.t' (.a (.c (.v 0)) (.n 1)) (.n 4611686018427387904))) (.l [1, 1]) rfl
theorem ar178 : ∀ {x0 : Nat} (h : x0 ≤ 91), x0 ≤ 1000 := @ar 1 0 (.i (.l (.v 0) (.n 91)) (.l (.v 0) (.n 1000))) (.l [1, 1]) rfl
theorem ar179 : ∀ {x0 : Nat} (h : x0 ≤ 14), x0 < 64 := @ar 1 0 (.i (.l (.v 0) (.n 14)) (.t (.v 0) (.n 64))) (.l [1, 1]) rfl
theorem ar180 : ∀ {x0 x1 : Nat} (h : x1 = x0) (h : x1 ≤ 91), x0 ≤ 1000 := @ar 2 0 (.i (.e (.v 1) (.v 0)) (.i (.l (.v 1) (.n 91)) (.l (.v 0) (.n 1000)))) (.l [1, 1, 0, 1]) rfl
theorem ar181 : ∀ {x0 x1 : Nat} (h : x1 = x0) (h : x1 ≤ 14), x0 < 64 := @ar 2 0 (.i (.e (.v 1) (.v 0)) (.i (.l (.v 1) (.n 14)) (.t (.v 0) (.n 64)))) (.l [1, 1, 0, 1]) rfl
theorem ar182 : ∀ {z0 z1 : Int} (h : z0 < z1), z0 ≤ z1 := @ar 0 2 (.i (.t' (.v 0) (.v 1)) (.L (.v 0) (.v 1))) (.l [1, 1]) rfl
theorem ar183 : ∀ {x0 : Nat} (h : x0 ≤ 16777216), ((x0 : Nat) : Int) ≤ 16777216 := @ar 1 0 (.i (.l (.v 0) (.n 16777216)) (.L (.c (.v 0)) (.n 16777216))) (.l [1, 1]) rfl
theorem ar184 : (-2 ^ 62 : Int) ≤ 1 := ar 0 0 (.L (.g (.n 4611686018427387904)) (.n 1)) (.l [1]) rfl
theorem ar185 : (1 : Int) < 2 ^ 62 := ar 0 0 (.t' (.n 1) (.n 4611686018427387904)) (.l [1]) rfl
theorem ar186 : ∀ {x0 : Nat} (h : x0 ≤ 16777216), ((x0 : Nat) : Int) < 2 ^ 62 := @ar 1 0 (.i (.l (.v 0) (.n 16777216)) (.t' (.c (.v 0)) (.n 4611686018427387904))) (.l [1, 1]) rfl
theorem ar187 : (0 : Nat) < 1 := ar 0 0 (.t (.n 0) (.n 1)) (.l [1]) rfl
theorem ar188 : ∀ {x0 : Nat} (h : x0 < 1), x0 = 0 := @ar 1 0 (.i (.t (.v 0) (.n 1)) (.e (.v 0) (.n 0))) (.b (.l [1, 1]) (.l [1])) rfl
theorem ar189 {x0 x1 : Nat} (h0 : x0 < (((x1 : Nat) : Int) - 1 : Int).toNat) : x0 + 1 < x1 :=
  ar 3 0 (.i (.W (.s (.c (.v 1)) (.n 1)) (.v 2)) (.i (.t (.v 0) (.v 2)) (.t (.s (.v 0)) (.v 1)))) (.b (.l [1, 0, 0, 1, 1]) (.l [1, 0, 0, 0, 1])) rfl x0 x1 ((((x1 : Nat) : Int) - 1 : Int).toNat) (aW ((((x1 : Nat) : Int) - 1))) h0
theorem ar190 : ∀ {x0 x1 x2 : Nat} (h : x0 + 1 < x2) (h : x1 = x2), ((x0 : Nat) : Int) < ((x1 : Nat) : Int) := @ar 3 0 (.i (.t (.s (.v 0)) (.v 2)) (.i (.e (.v 1) (.v 2)) (.t' (.c (.v 0)) (.c (.v 1))))) (.l [1, 0, 1, 1]) rfl
theorem ar191 : ∀ {x0 x1 : Nat} (h : x0 + 1 < x1), x0 < x1 := @ar 2 0 (.i (.t (.s (.v 0)) (.v 1)) (.t (.v 0) (.v 1))) (.l [1, 1]) rfl
theorem ar192 : ∀ {x0 x1 : Nat} (h : x0 ≤ x1 + 1) (h : ¬ (x0 = x1 + 1)), x0 ≤ x1 := @ar 2 0 (.i (.l (.v 0) (.s (.v 1))) (.i (.n (.e (.v 0) (.s (.v 1)))) (.l (.v 0) (.v 1)))) (.b (.l [1, 0, 1]) (.l [1, 1])) rfl
theorem ar193 : ∀ {x0 : Nat}, (0 : Int) ≤ ((x0 + 1 : Nat) : Int) := @ar 1 0 (.L (.n 0) (.c (.s (.v 0)))) (.l [1]) rfl
theorem ar194 : ∀ {x0 x1 : Nat} (h : x0 + 1 < x1), ((x0 + 1 : Nat) : Int) < ((x1 : Nat) : Int) := @ar 2 0 (.i (.t (.s (.v 0)) (.v 1)) (.t' (.c (.s (.v 0))) (.c (.v 1)))) (.l [1, 1]) rfl
theorem ar195 : ∀ {x0 x1 x2 : Nat} (h : x0 < x2 + 1) (h : x2 + 1 < x1), ((x0 : Nat) : Int) < ((x1 : Nat) : Int) := @ar 3 0 (.i (.t (.v 0) (.s (.v 2))) (.i (.t (.s (.v 2)) (.v 1)) (.t' (.c (.v 0)) (.c (.v 1))))) (.l [1, 1, 1]) rfl
theorem ar196 : ∀ {x0 x1 x2 : Nat} (h : x0 + 1 < x2) (h : x1 = x2), ((x0 + 1 : Nat) : Int) < ((x1 : Nat) : Int) := @ar 3 0 (.i (.t (.s (.v 0)) (.v 2)) (.i (.e (.v 1) (.v 2)) (.t' (.c (.s (.v 0))) (.c (.v 1))))) (.l [1, 0, 1, 1]) rfl
theorem ar197 : ∀ {x0 : Nat} (h : ¬ (x0 = 0)), 0 < x0 := @ar 1 0 (.i (.n (.e (.v 0) (.n 0))) (.t (.n 0) (.v 0))) (.b (.l [1, 1]) (.l [1])) rfl
theorem ar198 {x0 x1 : Nat} (h0 : x1 < x0) : ((x0 : Nat) : Int) - 1 = ((x0 - 1 : Nat) : Int) :=
  ar 3 0 (.i (.S (.v 0) (.n 1) (.v 2)) (.i (.t (.v 1) (.v 0)) (.E (.s (.c (.v 0)) (.n 1)) (.c (.v 2))))) (.b (.b (.l [0, 1, 0, 1]) (.l [0, 1, 1, 1])) (.b (.l [1, 0, 0, 1]) (.l [1, 0, 0, 1, 1]))) rfl x0 x1 (x0 - 1) (aS x0 1) h0
theorem ar199 {x0 : Nat} : (0 : Int) ≤ ((x0 - 1 : Nat) : Int) :=
  ar 2 0 (.L (.n 0) (.c (.v 1))) (.l [1]) rfl x0 (x0 - 1)
theorem ar200 {x0 x1 x2 x3 : Nat} (h0 : x0 < x2 + 1) (h1 : x1 = x3) (h2 : x2 + 1 < x3) : ((x0 - 1 : Nat) : Int) < ((x1 : Nat) : Int) :=
  ar 5 0 (.i (.S (.v 0) (.n 1) (.v 4)) (.i (.t (.v 0) (.s (.v 2))) (.i (.e (.v 1) (.v 3)) (.i (.t (.s (.v 2)) (.v 3)) (.t' (.c (.v 4)) (.c (.v 1))))))) (.b (.l [1, 0, 0, 1, 1, 0, 1, 1]) (.l [1, 0, 0, 1, 1, 0, 1, 1])) rfl x0 x1 x2 x3 (x0 - 1) (aS x0 1) h0 h1 h2
theorem ar201 {x0 x1 : Nat} (h0 : x0 < x1 + 1) : x0 - 1 ≤ x1 :=
  ar 3 0 (.i (.S (.v 0) (.n 1) (.v 2)) (.i (.t (.v 0) (.s (.v 1))) (.l (.v 2) (.v 1)))) (.b (.l [1, 0, 0, 1, 1]) (.l [1, 0, 0, 1, 1])) rfl x0 x1 (x0 - 1) (aS x0 1) h0
theorem ar202 {x0 x1 x2 : Nat} (h0 : x0 < x2 + 1) (h1 : x2 + 1 < x1) : x0 - 1 < x1 :=
  ar 4 0 (.i (.S (.v 0) (.n 1) (.v 3)) (.i (.t (.v 0) (.s (.v 2))) (.i (.t (.s (.v 2)) (.v 1)) (.t (.v 3) (.v 1))))) (.b (.l [1, 0, 0, 1, 1, 1]) (.l [1, 0, 0, 1, 1, 1])) rfl x0 x1 x2 (x0 - 1) (aS x0 1) h0 h1
theorem ar203 {x0 x1 : Nat} (h0 : x1 < x0) : x0 - 1 + 1 = x0 :=
  ar 3 0 (.i (.S (.v 0) (.n 1) (.v 2)) (.i (.t (.v 1) (.v 0)) (.e (.s (.v 2)) (.v 0)))) (.b (.b (.l [1, 0, 0, 1]) (.l [1, 0, 0, 1, 1])) (.b (.l [0, 1, 0, 1]) (.l [0, 1, 1, 1]))) rfl x0 x1 (x0 - 1) (aS x0 1) h0
theorem ar204 {x0 x1 x2 : Nat} (h0 : x0 < x2) (h1 : x2 = x1) : x0 ≤ x1 - 1 :=
  ar 4 0 (.i (.S (.v 1) (.n 1) (.v 3)) (.i (.t (.v 0) (.v 2)) (.i (.e (.v 2) (.v 1)) (.l (.v 0) (.v 3))))) (.b (.l [0, 1, 0, 1, 1, 0, 1]) (.l [0, 1, 1, 1, 1, 0, 1])) rfl x0 x1 x2 (x1 - 1) (aS x1 1) h0 h1
theorem ar205 {x0 x1 : Nat} (h0 : x1 < 2 * x0 + 1) : x0 + 1 ≤ 2 * x0 + 1 - x1 + x0 :=
  ar 3 0 (.i (.S (.s (.m 2 (.v 0))) (.v 1) (.v 2)) (.i (.t (.v 1) (.s (.m 2 (.v 0)))) (.l (.s (.v 0)) (.a (.v 2) (.v 0))))) (.b (.l [0, 1, 0, 1, 1]) (.l [0, 0, 1, 0, 1])) rfl x0 x1 (2 * x0 + 1 - x1) (aS ((2 * x0 + 1)) x1) h0
theorem ar206 {x0 x1 : Nat} (h0 : x0 < x1) (h1 : x1 < 2 * x0 + 1) : 2 * x0 + 1 - x1 + x0 - (x0 + 1) < x0 :=
  ar 4 0 (.i (.S (.s (.m 2 (.v 0))) (.v 1) (.v 2)) (.i (.S (.a (.v 2) (.v 0)) (.s (.v 0)) (.v 3)) (.i (.t (.v 0) (.v 1)) (.i (.t (.v 1) (.s (.m 2 (.v 0)))) (.t (.v 3) (.v 0)))))) (.b (.b (.l [1, 0, 0, 1, 0, 0, 1, 0, 1]) (.l [1, 0, 0, 0, 0, 1])) (.l [1, 0, 0, 1, 1, 1])) rfl x0 x1 (2 * x0 + 1 - x1) (2 * x0 + 1 - x1 + x0 - (x0 + 1)) (aS ((2 * x0 + 1)) x1) (aS ((2 * x0 + 1 - x1 + x0)) ((x0 + 1))) h0 h1
theorem ar207 : ∀ {x0 x1 x2 : Nat} (h : x0 < x2) (h : x2 ≤ x1), x0 < x1 := @ar 3 0 (.i (.t (.v 0) (.v 2)) (.i (.l (.v 2) (.v 1)) (.t (.v 0) (.v 1)))) (.l [1, 1, 1]) rfl
theorem ar208 {x0 x1 x2 : Nat} (h0 : x1 ≤ x0) : x0 + 1 ≤ 2 * x0 + 1 - x1 + x2 :=
  ar 4 0 (.i (.S (.s (.m 2 (.v 0))) (.v 1) (.v 3)) (.i (.l (.v 1) (.v 0)) (.l (.s (.v 0)) (.a (.v 3) (.v 2))))) (.b (.l [0, 1, 0, 1, 1]) (.l [0, 0, 1, 0, 1])) rfl x0 x1 x2 (2 * x0 + 1 - x1) (aS ((2 * x0 + 1)) x1) h0
theorem ar209 {x0 x1 x2 : Nat} (h0 : x1 ≤ x0) : 2 * x0 + 1 - x1 + x2 - (x0 + 1) = x0 - x1 + x2 :=
  ar 6 0 (.i (.S (.s (.m 2 (.v 0))) (.v 1) (.v 3)) (.i (.S (.a (.v 3) (.v 2)) (.s (.v 0)) (.v 4)) (.i (.S (.v 0) (.v 1) (.v 5)) (.i (.l (.v 1) (.v 0)) (.e (.v 4) (.a (.v 5) (.v 2))))))) (.b (.b (.b (.b (.l [1, 0, 0, 1, 0, 0, 0, 1, 0, 1]) (.l [1, 0, 0, 1, 0, 0, 0, 1, 1, 1])) (.l [1, 0, 0, 0, 1, 1, 1])) (.b (.b (.l [1, 0, 0, 1, 0, 0, 0, 1, 1, 1]) (.l [1, 0, 0, 1, 0, 0, 0, 1, 0, 1])) (.l [1, 0, 0, 0, 1, 0, 1]))) (.b (.b (.b (.l [0, 1, 0, 0, 1, 0, 1, 0, 0, 1]) (.l [0, 1, 1, 0, 1, 0, 1, 0, 0, 1])) (.b (.l [0, 1, 0, 0, 1, 1, 1, 0, 0, 1]) (.l [0, 1, 1, 0, 1, 1, 1, 0, 0, 1]))) (.b (.b (.l [0, 1, 0, 0, 1, 0, 1, 0, 0, 1, 1]) (.l [0, 1, 1, 0, 1, 0, 1, 0, 0, 1, 1])) (.b (.l [0, 1, 0, 0, 1, 1, 1, 0, 0, 1, 1]) (.l [0, 1, 1, 0, 1, 1, 1, 0, 0, 1, 1]))))) rfl x0 x1 x2 (2 * x0 + 1 - x1) (2 * x0 + 1 - x1 + x2 - (x0 + 1)) (x0 - x1) (aS ((2 * x0 + 1)) x1) (aS ((2 * x0 + 1 - x1 + x2)) ((x0 + 1))) (aS x0 x1) h0
theorem ar210 : ∀ {x0 x1 : Nat} (h : x0 ≤ x1), x0 < 2 * x1 + 1 := @ar 2 0 (.i (.l (.v 0) (.v 1)) (.t (.v 0) (.s (.m 2 (.v 1))))) (.l [1, 2]) rfl
theorem ar211 {x0 x1 x2 : Nat} (h0 : x1 ≤ x0) : x0 - x1 + x2 = 2 * x0 + 1 - x1 + x2 - (x0 + 1) :=
  ar 6 0 (.i (.S (.v 0) (.v 1) (.v 3)) (.i (.S (.s (.m 2 (.v 0))) (.v 1) (.v 4)) (.i (.S (.a (.v 4) (.v 2)) (.s (.v 0)) (.v 5)) (.i (.l (.v 1) (.v 0)) (.e (.a (.v 3) (.v 2)) (.v 5)))))) (.b (.b (.b (.b (.l [1, 0, 0, 0, 1, 0, 0, 1, 0, 1]) (.l [1, 0, 0, 0, 1, 0, 0, 1, 0, 1, 1])) (.l [0, 0, 1, 0, 0, 0, 0, 1])) (.b (.b (.l [1, 0, 0, 0, 1, 0, 0, 1, 1, 1]) (.l [1, 0, 0, 0, 1, 0, 0, 1, 1, 1, 1])) (.l [0, 0, 1, 0, 0, 0, 0, 1]))) (.b (.b (.b (.l [0, 1, 0, 1, 0, 0, 1, 0, 0, 1]) (.l [0, 1, 1, 1, 0, 0, 1, 0, 0, 1])) (.l [0, 0, 1, 0, 0, 0, 0, 1])) (.l [1, 0, 0, 1]))) rfl x0 x1 x2 (x0 - x1) (2 * x0 + 1 - x1) (2 * x0 + 1 - x1 + x2 - (x0 + 1)) (aS x0 x1) (aS ((2 * x0 + 1)) x1) (aS ((2 * x0 + 1 - x1 + x2)) ((x0 + 1))) h0
theorem ar223 : ∀ {x0 x1 : Nat} (h : x0 < x1 + 1) (h : x1 ≤ x0), x0 = x1 := @ar 2 0 (.i (.t (.v 0) (.s (.v 1))) (.i (.l (.v 1) (.v 0)) (.e (.v 0) (.v 1)))) (.b (.l [1, 0, 1]) (.l [1, 1])) rfl
theorem ar262 : ∀ {x0 x1 x2 : Nat} (h : x0 < x2) (h : x2 ≤ x1), x0 ≤ x1 := @ar 3 0 (.i (.t (.v 0) (.v 2)) (.i (.l (.v 2) (.v 1)) (.l (.v 0) (.v 1)))) (.l [1, 1, 1]) rfl
theorem ar282 : ∀ {x0 x1 : Nat} (h : x0 = 0), x0 ≤ x1 := @ar 2 0 (.i (.e (.v 0) (.n 0)) (.l (.v 0) (.v 1))) (.l [1, 1]) rfl
theorem ar290 : ∀ {x0 x1 : Nat} (h : 1 ≤ x1), x0 < x0 + x1 := @ar 2 0 (.i (.l (.n 1) (.v 1)) (.t (.v 0) (.a (.v 0) (.v 1)))) (.l [1, 1]) rfl
theorem ar303 : ∀ {x0 x1 x2 : Nat} (h : x0 < x2) (h : x2 < x1), x0 < x1 := @ar 3 0 (.i (.t (.v 0) (.v 2)) (.i (.t (.v 2) (.v 1)) (.t (.v 0) (.v 1)))) (.l [1, 1, 1]) rfl
theorem ar306 {x0 x1 : Nat} (h0 : x1 ≤ x0) : x0 = x0 - x1 + x1 :=
  ar 3 0 (.i (.S (.v 0) (.v 1) (.v 2)) (.i (.l (.v 1) (.v 0)) (.e (.v 0) (.a (.v 2) (.v 1))))) (.b (.b (.l [0, 1, 0, 1]) (.l [0, 1, 1, 1])) (.b (.l [1, 0, 0, 1]) (.l [1, 0, 0, 1, 1]))) rfl x0 x1 (x0 - x1) (aS x0 x1) h0
theorem ar307 {x0 x1 : Nat} : x0 ≤ (x1 - x0) / x0 * x0 + x0 + (x0 - 1 - (x1 - x0) % x0) :=
  ar 4 0 (.l (.v 0) (.a (.a (.v 2) (.v 0)) (.v 3))) (.l [1]) rfl x0 x1 ((x1 - x0) / x0 * x0) (x0 - 1 - (x1 - x0) % x0)
theorem ar308 {x0 x1 : Nat} : (x0 - x1) / x1 * x1 + x1 + (x1 - 1 - (x0 - x1) % x1) - x1 = (x0 - x1) / x1 * x1 + (x1 - 1 - (x0 - x1) % x1) :=
  ar 5 0 (.i (.S (.a (.a (.v 2) (.v 1)) (.v 3)) (.v 1) (.v 4)) (.e (.v 4) (.a (.v 2) (.v 3)))) (.b (.b (.l [1, 0, 0, 1]) (.l [1, 0, 0, 1])) (.b (.l [0, 1, 0, 1]) (.l [0, 1, 1, 1]))) rfl x0 x1 ((x0 - x1) / x1 * x1) (x1 - 1 - (x0 - x1) % x1) ((x0 - x1) / x1 * x1 + x1 + (x1 - 1 - (x0 - x1) % x1) - x1) (aS (((x0 - x1) / x1 * x1 + x1 + (x1 - 1 - (x0 - x1) % x1))) x1)
theorem ar309 : ∀ {x0 x1 : Nat} (h : x0 < x0), x0 ≤ x1 := @ar 2 0 (.i (.t (.v 0) (.v 0)) (.l (.v 0) (.v 1))) (.l [0, 1]) rfl
theorem ar310 : ∀ {x0 x1 : Nat} (h : x0 ≤ x1) (h : x1 ≤ x0), x0 = x1 := @ar 2 0 (.i (.l (.v 0) (.v 1)) (.i (.l (.v 1) (.v 0)) (.e (.v 0) (.v 1)))) (.b (.l [1, 0, 1]) (.l [1, 1])) rfl
theorem ar311 {x0 x1 x2 x3 : Nat} (h0 : x0 ≤ x3) (h1 : x2 < x3 - (x3 - (x0 - x1))) : x0 - x1 - 1 - x2 < x3 - x1 :=
  ar 10 0 (.i (.S (.v 0) (.v 1) (.v 4)) (.i (.S (.v 4) (.n 1) (.v 5)) (.i (.S (.v 5) (.v 2) (.v 6)) (.i (.S (.v 3) (.v 1) (.v 7)) (.i (.S (.v 3) (.v 4) (.v 8)) (.i (.S (.v 3) (.v 8) (.v 9)) (.i (.l (.v 0) (.v 3)) (.i (.t (.v 2) (.v 9)) (.t (.v 6) (.v 7)))))))))) (.b (.b (.b (.b (.b (.b (.l [1, 0, 0, 1, 0, 0, 1, 0, 0, 0, 1, 0, 0, 0, 0, 0, 0, 0, 1, 0, 1]) (.l [1, 0, 0, 0, 0, 1])) (.b (.l [1, 0, 0, 1, 0, 0, 1, 0, 0, 0, 1, 0, 0, 1, 0, 1, 0, 0, 1, 1, 1]) (.l [1, 0, 0, 0, 0, 0, 0, 0, 0, 0, 0, 0, 0, 1, 0, 1, 0, 0, 0, 1]))) (.s (.b (.l [1, 0, 0, 1, 0, 0, 0, 1, 0, 0, 1, 0, 1, 0, 0, 1, 1, 1]) (.l [1, 0, 0, 0, 0, 0, 0, 0, 0, 0, 1, 0, 1, 0, 0, 0, 1])))) (.s (.s (.b (.l [1, 0, 0, 0, 0, 1, 0, 1, 0, 1, 0, 0, 0, 1, 1]) (.l [1, 0, 0, 0, 0, 0, 0, 1, 0, 1, 0, 0, 0, 1]))))) (.b (.b (.b (.b (.l [1, 0, 0, 1, 0, 0, 1, 0, 0, 0, 1, 0, 0, 0, 0, 0, 0, 0, 1, 0, 1]) (.l [1, 0, 0, 0, 0, 1])) (.b (.l [1, 0, 0, 1, 0, 0, 1, 0, 0, 0, 1, 0, 0, 1, 1, 1, 0, 0, 1, 1, 1]) (.l [1, 0, 0, 0, 0, 0, 0, 0, 0, 0, 0, 0, 0, 1, 1, 1, 0, 0, 0, 1]))) (.s (.b (.l [1, 0, 0, 1, 0, 0, 0, 1, 0, 0, 1, 1, 1, 0, 0, 1, 1, 1]) (.l [1, 0, 0, 0, 0, 0, 0, 0, 0, 0, 1, 1, 1, 0, 0, 0, 1])))) (.s (.s (.b (.l [1, 0, 0, 0, 0, 1, 0, 1, 1, 1, 0, 0, 0, 1, 1]) (.l [1, 0, 0, 0, 0, 0, 0, 1, 1, 1, 0, 0, 0, 1])))))) (.l [1, 0, 0, 0, 1])) rfl x0 x1 x2 x3 (x0 - x1) (x0 - x1 - 1) (x0 - x1 - 1 - x2) (x3 - x1) (x3 - (x0 - x1)) (x3 - (x3 - (x0 - x1))) (aS x0 x1) (aS ((x0 - x1)) 1) (aS ((x0 - x1 - 1)) x2) (aS x3 x1) (aS x3 ((x0 - x1))) (aS x3 ((x3 - (x0 - x1)))) h0 h1
theorem ar312 {x0 x1 x2 x3 : Nat} (h0 : x0 < x3 - (x3 - (x1 - x2))) : x0 < x1 - x2 :=
  ar 7 0 (.i (.S (.v 3) (.v 4) (.v 5)) (.i (.S (.v 3) (.v 5) (.v 6)) (.i (.t (.v 0) (.v 6)) (.t (.v 0) (.v 4))))) (.b (.b (.l [0, 1, 0, 1, 0, 0, 1, 1]) (.l [0, 1, 1, 1, 0, 0, 1, 1])) (.l [1, 0, 0, 0, 1])) rfl x0 x1 x2 x3 (x1 - x2) (x3 - (x1 - x2)) (x3 - (x3 - (x1 - x2))) (aS x3 ((x1 - x2))) (aS x3 ((x3 - (x1 - x2)))) h0
theorem ar313 {x0 x1 x2 x3 : Nat} (h0 : x0 < x1 - (x1 - (x3 - x2))) (h1 : x3 ≤ x1) : x0 < x1 - x2 :=
  ar 8 0 (.i (.S (.v 1) (.v 2) (.v 4)) (.i (.S (.v 3) (.v 2) (.v 5)) (.i (.S (.v 1) (.v 5) (.v 6)) (.i (.S (.v 1) (.v 6) (.v 7)) (.i (.t (.v 0) (.v 7)) (.i (.l (.v 3) (.v 1)) (.t (.v 0) (.v 4)))))))) (.b (.b (.b (.b (.l [0, 1, 0, 1, 0, 0, 0, 1, 0, 1, 0, 0, 1, 1, 1]) (.l [0, 1, 1, 1, 0, 0, 0, 1, 0, 1, 0, 0, 1, 1, 1])) (.l [1, 0, 0, 0, 1, 0, 1, 0, 0, 0, 0, 1])) (.b (.b (.l [0, 1, 0, 1, 0, 0, 0, 1, 1, 1, 0, 0, 1, 1, 1]) (.l [0, 1, 1, 1, 0, 0, 0, 1, 1, 1, 0, 0, 1, 1, 1])) (.l [1, 0, 0, 0, 1, 1, 1, 0, 0, 0, 0, 1]))) (.l [1, 0, 0, 0, 0, 1])) rfl x0 x1 x2 x3 (x1 - x2) (x3 - x2) (x1 - (x3 - x2)) (x1 - (x1 - (x3 - x2))) (aS x1 x2) (aS x3 x2) (aS x1 ((x3 - x2))) (aS x1 ((x1 - (x3 - x2)))) h0 h1
theorem ar314 {x0 x1 x2 x3 : Nat} (h0 : x2 < x3 - (x3 - (x1 - x0))) : x0 + (x1 - x0 - 1 - x2) = x1 - 1 - x2 :=
  ar 11 0 (.i (.S (.v 1) (.v 0) (.v 4)) (.i (.S (.v 4) (.n 1) (.v 5)) (.i (.S (.v 5) (.v 2) (.v 6)) (.i (.S (.v 1) (.n 1) (.v 7)) (.i (.S (.v 7) (.v 2) (.v 8)) (.i (.S (.v 3) (.v 4) (.v 9)) (.i (.S (.v 3) (.v 9) (.v 10)) (.i (.t (.v 2) (.v 10)) (.e (.a (.v 0) (.v 6)) (.v 8)))))))))) (.b (.b (.b (.b (.b (.b (.b (.b (.l [1, 0, 0, 1, 0, 0, 1, 0, 0, 0, 1, 0, 0, 1, 0, 0, 0, 0, 0, 0, 0, 1]) (.l [1, 0, 0, 0, 0, 1])) (.b (.l [1, 0, 0, 1, 0, 0, 1, 0, 0, 0, 1, 0, 0, 1, 0, 0, 1, 0, 1, 0, 0, 1, 1]) (.l [1, 0, 0, 0, 0, 0, 0, 0, 0, 0, 0, 0, 0, 0, 0, 0, 1, 0, 1, 0, 0, 0, 1]))) (.s (.b (.l [1, 0, 0, 1, 0, 0, 0, 1, 0, 0, 1, 0, 0, 1, 0, 1, 0, 0, 1, 1]) (.l [1, 0, 0, 0, 0, 0, 0, 0, 0, 0, 0, 0, 0, 1, 0, 1, 0, 0, 0, 1])))) (.b (.b (.b (.l [1, 0, 0, 1, 0, 0, 1, 0, 0, 0, 1, 1, 0, 1, 0, 0, 0, 0, 0, 0, 0, 1]) (.l [1, 0, 0, 0, 0, 1])) (.b (.l [1, 0, 0, 1, 0, 0, 1, 0, 0, 0, 1, 1, 0, 1, 0, 0, 1, 0, 1, 0, 0, 1, 1]) (.l [1, 0, 0, 0, 0, 0, 0, 0, 0, 0, 0, 0, 0, 0, 0, 0, 1, 0, 1, 0, 0, 0, 1]))) (.s (.b (.l [1, 0, 0, 1, 0, 0, 0, 1, 1, 0, 1, 0, 0, 1, 0, 1, 0, 0, 1, 1]) (.l [1, 0, 0, 0, 0, 0, 0, 0, 0, 0, 0, 0, 0, 1, 0, 1, 0, 0, 0, 1]))))) (.b (.b (.b (.b (.l [1, 0, 0, 1, 0, 0, 1, 0, 0, 0, 1, 0, 0, 1, 1, 0, 0, 0, 0, 0, 0, 1]) (.l [1, 0, 0, 0, 0, 1])) (.b (.l [1, 0, 0, 1, 0, 0, 1, 0, 0, 0, 2, 1, 0, 1, 2, 0, 1, 0, 1, 0, 0, 1, 1]) (.l [1, 0, 0, 0, 0, 0, 0, 0, 0, 0, 1, 1, 0, 0, 1, 0, 1, 0, 1, 0, 0, 0, 1]))) (.s (.b (.l [1, 0, 0, 1, 0, 0, 0, 1, 0, 0, 1, 1, 0, 1, 0, 1, 0, 0, 1, 1]) (.l [1, 0, 0, 0, 0, 0, 0, 1, 1, 0, 0, 1, 0, 1, 0, 1, 0, 0, 0, 1])))) (.b (.b (.b (.l [1, 0, 0, 1, 0, 0, 1, 0, 0, 0, 1, 1, 0, 1, 1, 0, 0, 0, 0, 0, 0, 1]) (.l [1, 0, 0, 0, 0, 1])) (.b (.l [1, 0, 0, 1, 0, 0, 1, 0, 0, 0, 2, 1, 0, 1, 2, 0, 1, 0, 1, 0, 0, 1, 1]) (.l [1, 0, 0, 0, 0, 0, 0, 0, 0, 0, 1, 0, 0, 0, 1, 0, 1, 0, 1, 0, 0, 0, 1]))) (.s (.b (.l [1, 0, 0, 1, 0, 0, 0, 1, 1, 0, 1, 1, 0, 1, 0, 1, 0, 0, 1, 1]) (.l [1, 0, 0, 0, 0, 0, 0, 1, 0, 0, 0, 1, 0, 1, 0, 1, 0, 0, 0, 1])))))) (.b (.b (.b (.b (.b (.l [1, 0, 0, 1, 0, 0, 1, 0, 0, 0, 1, 0, 0, 1, 0, 0, 0, 0, 0, 0, 0, 1]) (.l [1, 0, 0, 0, 0, 1])) (.b (.l [1, 0, 0, 1, 0, 0, 1, 0, 0, 0, 1, 0, 0, 1, 0, 0, 1, 1, 1, 0, 0, 1, 1]) (.l [1, 0, 0, 0, 0, 0, 0, 0, 0, 0, 0, 0, 0, 0, 0, 0, 1, 1, 1, 0, 0, 0, 1]))) (.s (.b (.l [1, 0, 0, 1, 0, 0, 0, 1, 0, 0, 1, 0, 0, 1, 1, 1, 0, 0, 1, 1]) (.l [1, 0, 0, 0, 0, 0, 0, 0, 0, 0, 0, 0, 0, 1, 1, 1, 0, 0, 0, 1])))) (.b (.b (.b (.l [1, 0, 0, 1, 0, 0, 1, 0, 0, 0, 1, 1, 0, 1, 0, 0, 0, 0, 0, 0, 0, 1]) (.l [1, 0, 0, 0, 0, 1])) (.b (.l [1, 0, 0, 1, 0, 0, 1, 0, 0, 0, 1, 1, 0, 1, 0, 0, 1, 1, 1, 0, 0, 1, 1]) (.l [1, 0, 0, 0, 0, 0, 0, 0, 0, 0, 0, 0, 0, 0, 0, 0, 1, 1, 1, 0, 0, 0, 1]))) (.s (.b (.l [1, 0, 0, 1, 0, 0, 0, 1, 1, 0, 1, 0, 0, 1, 1, 1, 0, 0, 1, 1]) (.l [1, 0, 0, 0, 0, 0, 0, 0, 0, 0, 0, 0, 0, 1, 1, 1, 0, 0, 0, 1]))))) (.b (.b (.b (.b (.l [1, 0, 0, 1, 0, 0, 1, 0, 0, 0, 1, 0, 0, 1, 1, 0, 0, 0, 0, 0, 0, 1]) (.l [1, 0, 0, 0, 0, 1])) (.b (.l [1, 0, 0, 1, 0, 0, 1, 0, 0, 0, 2, 1, 0, 1, 2, 0, 1, 1, 1, 0, 0, 1, 1]) (.l [1, 0, 0, 0, 0, 0, 0, 0, 0, 0, 1, 1, 0, 0, 1, 0, 1, 1, 1, 0, 0, 0, 1]))) (.s (.b (.l [1, 0, 0, 1, 0, 0, 0, 1, 0, 0, 1, 1, 0, 1, 1, 1, 0, 0, 1, 1]) (.l [1, 0, 0, 0, 0, 0, 0, 1, 1, 0, 0, 1, 0, 1, 1, 1, 0, 0, 0, 1])))) (.b (.b (.b (.l [1, 0, 0, 1, 0, 0, 1, 0, 0, 0, 1, 1, 0, 1, 1, 0, 0, 0, 0, 0, 0, 1]) (.l [1, 0, 0, 0, 0, 1])) (.b (.l [1, 0, 0, 1, 0, 0, 1, 0, 0, 0, 2, 1, 0, 1, 2, 0, 1, 1, 1, 0, 0, 1, 1]) (.l [1, 0, 0, 0, 0, 0, 0, 0, 0, 0, 1, 0, 0, 0, 1, 0, 1, 1, 1, 0, 0, 0, 1]))) (.s (.b (.l [1, 0, 0, 1, 0, 0, 0, 1, 1, 0, 1, 1, 0, 1, 1, 1, 0, 0, 1, 1]) (.l [1, 0, 0, 0, 0, 0, 0, 1, 0, 0, 0, 1, 0, 1, 1, 1, 0, 0, 0, 1]))))))) (.l [1, 0, 0, 0, 1])) (.b (.s (.b (.b (.b (.b (.b (.l [0, 1, 0, 0, 1, 0, 0, 1, 0, 1, 0, 0, 1, 0, 0, 0, 0, 0, 1]) (.l [1, 0, 0, 0, 0, 1])) (.b (.l [0, 1, 0, 0, 1, 1, 0, 1, 0, 1, 0, 0, 1, 0, 0, 0, 0, 0, 1]) (.l [0, 0, 1, 0, 1, 0, 0, 1, 0, 1, 0, 0, 1, 0, 0, 0, 0, 0, 1]))) (.b (.b (.l [0, 1, 0, 0, 1, 0, 0, 1, 1, 1, 0, 0, 1, 0, 0, 0, 0, 0, 1]) (.l [1, 0, 0, 0, 0, 1])) (.b (.l [0, 1, 0, 0, 1, 1, 0, 1, 1, 1, 0, 0, 1, 0, 0, 0, 0, 0, 1]) (.l [0, 0, 1, 0, 1, 0, 0, 1, 1, 1, 0, 0, 1, 0, 0, 0, 0, 0, 1])))) (.l [1, 0, 0, 1, 0, 0, 0, 0, 0, 1])) (.l [1, 0, 0, 0, 0, 0, 1]))) (.l [1, 0, 0, 0, 1]))) rfl x0 x1 x2 x3 (x1 - x0) (x1 - x0 - 1) (x1 - x0 - 1 - x2) (x1 - 1) (x1 - 1 - x2) (x3 - (x1 - x0)) (x3 - (x3 - (x1 - x0))) (aS x1 x0) (aS ((x1 - x0)) 1) (aS ((x1 - x0 - 1)) x2) (aS x1 1) (aS ((x1 - 1)) x2) (aS x3 ((x1 - x0))) (aS x3 ((x3 - (x1 - x0)))) h0
theorem ar315 {x0 x1 x2 x3 : Nat} (h0 : x1 ≤ x0) (h1 : x3 < x0 - (x0 - (x1 - x2))) : x0 - 1 - (x1 - x2 - 1 - x3) = x0 - (x1 - x2) + x3 :=
  ar 11 0 (.i (.S (.v 0) (.n 1) (.v 4)) (.i (.S (.v 1) (.v 2) (.v 5)) (.i (.S (.v 5) (.n 1) (.v 6)) (.i (.S (.v 6) (.v 3) (.v 7)) (.i (.S (.v 4) (.v 7) (.v 8)) (.i (.S (.v 0) (.v 5) (.v 9)) (.i (.S (.v 0) (.v 9) (.v 10)) (.i (.l (.v 1) (.v 0)) (.i (.t (.v 3) (.v 10)) (.e (.v 8) (.a (.v 9) (.v 3)))))))))))) (.b (.b (.b (.b (.b (.b (.b (.b (.l [1, 0, 0, 0, 0, 0, 0, 1, 0, 0, 1, 0, 1, 0, 0, 0, 1, 0, 0, 0, 0, 1]) (.l [1, 0, 0, 0, 0, 0, 0, 1, 1, 0, 1, 0, 1, 0, 0, 0, 1, 1, 0, 0, 0, 1])) (.l [1, 0, 0, 0, 0, 1])) (.b (.b (.l [1, 0, 0, 0, 0, 0, 0, 1, 1, 0, 1, 0, 1, 0, 0, 0, 1, 0, 0, 0, 0, 1]) (.l [1, 0, 0, 0, 0, 0, 0, 1, 0, 0, 1, 0, 1, 0, 0, 0, 1, 1, 0, 0, 0, 1])) (.l [1, 0, 0, 0, 0, 0, 0, 0, 0, 0, 0, 0, 0, 1, 0, 1, 0, 0, 0, 1]))) (.b (.b (.b (.l [1, 0, 0, 0, 0, 0, 0, 1, 0, 0, 1, 1, 1, 0, 0, 0, 1, 0, 0, 0, 0, 1]) (.l [1, 0, 0, 0, 0, 0, 0, 1, 1, 0, 1, 1, 1, 0, 0, 0, 1, 1, 0, 0, 0, 1])) (.l [1, 0, 0, 0, 0, 1])) (.b (.b (.l [1, 0, 0, 0, 0, 0, 0, 1, 1, 0, 1, 1, 1, 0, 0, 0, 1, 0, 0, 0, 0, 1]) (.l [1, 0, 0, 0, 0, 0, 0, 1, 0, 0, 1, 1, 1, 0, 0, 0, 1, 1, 0, 0, 0, 1])) (.l [1, 0, 0, 0, 1, 0, 0, 0, 1, 0, 0, 0, 0, 1, 0, 1, 0, 0, 0, 1])))) (.l [1, 0, 0, 0, 1, 1, 0, 0, 0, 1])) (.b (.b (.b (.b (.b (.l [1, 0, 0, 0, 0, 0, 0, 1, 0, 0, 1, 0, 1, 0, 0, 0, 1, 1, 0, 0, 0, 1]) (.l [1, 0, 0, 0, 0, 0, 0, 1, 1, 0, 1, 0, 1, 0, 0, 0, 1, 0, 0, 0, 0, 1])) (.l [1, 0, 0, 0, 0, 1])) (.b (.b (.l [1, 0, 0, 0, 0, 0, 0, 1, 1, 0, 1, 0, 1, 0, 0, 0, 1, 1, 0, 0, 0, 1]) (.l [1, 0, 0, 0, 0, 0, 0, 1, 0, 0, 1, 0, 1, 0, 0, 0, 1, 0, 0, 0, 0, 1])) (.l [1, 0, 0, 0, 0, 0, 0, 0, 0, 0, 0, 0, 0, 1, 1, 1, 0, 0, 0, 1]))) (.b (.b (.b (.l [1, 0, 0, 0, 0, 0, 0, 1, 0, 0, 1, 1, 1, 0, 0, 0, 1, 1, 0, 0, 0, 1]) (.l [1, 0, 0, 0, 0, 0, 0, 1, 1, 0, 1, 1, 1, 0, 0, 0, 1, 0, 0, 0, 0, 1])) (.l [1, 0, 0, 0, 0, 1])) (.b (.b (.l [1, 0, 0, 0, 0, 0, 0, 1, 1, 0, 1, 1, 1, 0, 0, 0, 1, 1, 0, 0, 0, 1]) (.l [1, 0, 0, 0, 0, 0, 0, 1, 0, 0, 1, 1, 1, 0, 0, 0, 1, 0, 0, 0, 0, 1])) (.l [1, 0, 0, 0, 1, 0, 0, 0, 1, 0, 0, 0, 0, 1, 1, 1, 0, 0, 0, 1])))) (.l [1, 0, 0, 0, 1, 0, 0, 0, 0, 1]))) (.l [1, 0, 0, 0, 1])) (.b (.b (.b (.b (.b (.b (.b (.l [0, 1, 0, 0, 0, 0, 1, 0, 0, 1, 0, 0, 0, 1, 0, 1, 0, 0, 0, 0, 0, 1]) (.l [0, 1, 1, 0, 0, 0, 1, 0, 0, 1, 0, 0, 0, 1, 0, 1, 0, 0, 0, 0, 0, 1])) (.l [1, 0, 0, 0, 0, 1])) (.b (.b (.l [0, 1, 0, 0, 0, 0, 1, 0, 0, 1, 0, 0, 0, 1, 0, 0, 0, 0, 1, 0, 0, 1, 1]) (.l [0, 0, 1, 0, 0, 0, 0, 0, 0, 0, 0, 0, 0, 1, 1, 0, 0, 0, 1, 0, 0, 1, 1])) (.l [1, 0, 0, 0, 0, 0, 0, 0, 0, 0, 0, 0, 0, 1, 0, 1, 0, 0, 0, 1]))) (.s (.b (.b (.l [0, 1, 0, 0, 0, 0, 1, 0, 0, 0, 1, 0, 0, 0, 0, 1, 0, 0, 1, 1]) (.l [0, 1, 1, 0, 0, 0, 1, 0, 0, 0, 1, 0, 0, 0, 0, 1, 0, 0, 1, 1])) (.l [1, 0, 0, 0, 0, 0, 0, 0, 0, 0, 1, 0, 1, 0, 0, 0, 1])))) (.b (.b (.b (.b (.l [0, 1, 0, 0, 0, 0, 1, 0, 0, 1, 0, 0, 0, 1, 1, 1, 0, 0, 0, 0, 0, 1]) (.l [0, 0, 1, 0, 0, 0, 1, 0, 0, 0, 0, 1, 0, 1, 0, 1, 0, 0, 0, 0, 0, 1])) (.l [1, 0, 0, 0, 0, 1])) (.b (.b (.l [0, 1, 0, 0, 0, 0, 1, 0, 0, 1, 0, 0, 0, 1, 1, 0, 0, 0, 1, 0, 0, 1, 1]) (.l [0, 0, 1, 0, 0, 0, 0, 0, 0, 0, 0, 0, 0, 1, 0, 0, 0, 0, 1, 0, 0, 1, 1])) (.l [1, 0, 0, 0, 0, 0, 0, 0, 0, 0, 0, 0, 0, 1, 0, 1, 0, 0, 0, 1]))) (.s (.b (.b (.l [0, 1, 0, 0, 0, 0, 1, 0, 0, 0, 1, 1, 0, 0, 0, 1, 0, 0, 1, 1]) (.l [0, 0, 1, 0, 0, 0, 0, 0, 0, 0, 1, 0, 0, 0, 0, 1, 0, 0, 1, 1])) (.l [1, 0, 0, 0, 0, 0, 0, 0, 0, 0, 1, 0, 1, 0, 0, 0, 1]))))) (.b (.b (.b (.b (.b (.l [0, 1, 0, 1, 0, 0, 1, 0, 0, 1, 0, 0, 0, 1, 0, 1, 0, 0, 0, 0, 0, 1, 0, 1]) (.l [0, 0, 1, 0, 0, 0, 0, 0, 0, 0, 0, 0, 0, 1, 1, 0, 0, 0, 1, 0, 0, 1, 1])) (.l [1, 0, 0, 0, 0, 1])) (.l [1, 0, 0, 0, 0, 1, 0, 1, 1, 1, 0, 0, 0, 0, 0, 1])) (.b (.b (.b (.l [0, 1, 0, 0, 0, 0, 0, 0, 0, 1, 0, 0, 0, 1, 0, 0, 0, 0, 1, 0, 0, 1, 1]) (.l [0, 1, 1, 0, 0, 0, 0, 0, 0, 1, 0, 0, 0, 1, 0, 0, 0, 0, 1, 0, 0, 1, 1])) (.l [1, 0, 0, 0, 0, 1])) (.l [0, 0, 1, 0, 0, 0, 0, 1, 1, 0, 0, 1, 1, 0, 0, 1, 1]))) (.b (.b (.b (.b (.l [0, 1, 0, 1, 0, 0, 1, 0, 0, 1, 0, 0, 0, 1, 1, 1, 0, 0, 0, 0, 0, 1, 0, 1]) (.l [0, 0, 1, 0, 0, 0, 0, 0, 0, 0, 0, 0, 0, 1, 0, 0, 0, 0, 1, 0, 0, 1, 1])) (.l [1, 0, 0, 0, 0, 1])) (.l [1, 0, 0, 0, 0, 1, 0, 1, 0, 1, 0, 0, 0, 0, 0, 1])) (.b (.b (.b (.l [0, 1, 0, 0, 0, 0, 0, 0, 0, 1, 0, 0, 0, 1, 1, 0, 0, 0, 1, 0, 0, 1, 1]) (.l [0, 0, 1, 0, 0, 0, 0, 0, 0, 0, 0, 0, 0, 1, 0, 0, 0, 0, 1, 0, 0, 1, 1])) (.l [1, 0, 0, 0, 0, 1])) (.l [0, 0, 1, 0, 0, 0, 0, 1, 0, 0, 0, 1, 1, 0, 0, 1, 1]))))) (.l [1, 0, 0, 0, 1]))) rfl x0 x1 x2 x3 (x0 - 1) (x1 - x2) (x1 - x2 - 1) (x1 - x2 - 1 - x3) (x0 - 1 - (x1 - x2 - 1 - x3)) (x0 - (x1 - x2)) (x0 - (x0 - (x1 - x2))) (aS x0 1) (aS x1 x2) (aS ((x1 - x2)) 1) (aS ((x1 - x2 - 1)) x3) (aS ((x0 - 1)) ((x1 - x2 - 1 - x3))) (aS x0 ((x1 - x2))) (aS x0 ((x0 - (x1 - x2)))) h0 h1
theorem ar316 {x0 x1 x2 x3 : Nat} (h0 : x1 ≤ x0) (h1 : x2 < x3 - (x0 - x1) - x0) : x0 - x1 + x2 < x3 - x1 :=
  ar 8 0 (.i (.S (.v 3) (.v 1) (.v 5)) (.i (.S (.v 3) (.v 4) (.v 6)) (.i (.S (.v 6) (.v 0) (.v 7)) (.i (.l (.v 1) (.v 0)) (.i (.t (.v 2) (.v 7)) (.t (.a (.v 4) (.v 2)) (.v 5))))))) (.b (.b (.b (.l [0, 1, 0, 1, 0, 0, 1, 0, 0, 1, 1, 1]) (.l [0, 1, 1, 1, 0, 0, 1, 0, 0, 1, 1, 1])) (.l [1, 0, 0, 1, 0, 0, 0, 1])) (.l [1, 0, 0, 0, 1])) rfl x0 x1 x2 x3 (x0 - x1) (x3 - x1) (x3 - (x0 - x1)) (x3 - (x0 - x1) - x0) (aS x3 x1) (aS x3 ((x0 - x1))) (aS ((x3 - (x0 - x1))) x0) h0 h1
theorem ar317 {x0 x1 x2 : Nat} (h0 : x0 ≤ x1) : x0 + (x1 - x0 + x2) = x1 + x2 :=
  ar 4 0 (.i (.S (.v 1) (.v 0) (.v 3)) (.i (.l (.v 0) (.v 1)) (.e (.a (.v 0) (.a (.v 3) (.v 2))) (.a (.v 1) (.v 2))))) (.b (.b (.l [1, 0, 0, 1]) (.l [1, 0, 0, 1, 1])) (.b (.l [0, 1, 0, 1]) (.l [0, 1, 1, 1]))) rfl x0 x1 x2 (x1 - x0) (aS x1 x0) h0
theorem ar318 {x0 x1 x2 x3 : Nat} : x0 - 1 - (x1 - x2 + x3) = x0 - (x1 - x2) - 1 - x3 :=
  ar 10 0 (.i (.S (.v 0) (.n 1) (.v 4)) (.i (.S (.v 4) (.a (.v 5) (.v 3)) (.v 6)) (.i (.S (.v 0) (.v 5) (.v 7)) (.i (.S (.v 7) (.n 1) (.v 8)) (.i (.S (.v 8) (.v 3) (.v 9)) (.e (.v 6) (.v 9))))))) (.b (.b (.b (.b (.b (.b (.l [1, 0, 0, 1, 0, 0, 0, 1, 0, 0, 1, 0, 0, 1, 0, 1]) (.l [1, 0, 0, 1, 0, 0, 0, 0, 0, 0, 1, 1, 0, 1, 0, 1])) (.l [1, 0, 0, 0, 0, 0, 0, 0, 0, 0, 1, 1, 1])) (.l [1, 0, 0, 0, 0, 1])) (.b (.b (.b (.l [1, 0, 0, 1, 0, 0, 0, 1, 0, 0, 1, 1, 0, 1, 0, 1]) (.l [1, 0, 0, 1, 0, 0, 0, 0, 0, 0, 1, 0, 0, 1, 0, 1])) (.l [1, 0, 0, 0, 0, 0, 0, 0, 0, 0, 1, 1, 1])) (.b (.b (.l [1, 0, 0, 1, 0, 0, 0, 0, 1, 0, 1, 0, 0, 1, 0, 1]) (.l [1, 0, 0, 1, 0, 0, 0, 0, 1, 0, 1, 0, 0, 1, 0, 1])) (.l [1, 0, 0, 0, 0, 0, 0, 0, 0, 0, 1, 1, 1])))) (.b (.b (.b (.b (.l [1, 0, 0, 1, 0, 0, 0, 1, 0, 0, 1, 0, 0, 1, 1, 1]) (.l [1, 0, 0, 1, 0, 0, 0, 0, 0, 0, 1, 1, 0, 1, 1, 1])) (.l [1, 0, 0, 0, 0, 0, 0, 0, 0, 0, 1, 0, 1])) (.l [1, 0, 0, 0, 0, 1])) (.b (.b (.b (.l [1, 0, 0, 1, 0, 0, 0, 1, 0, 0, 1, 1, 0, 1, 1, 1]) (.l [1, 0, 0, 1, 0, 0, 0, 0, 0, 0, 1, 0, 0, 1, 1, 1])) (.l [1, 0, 0, 0, 0, 0, 0, 0, 0, 0, 1, 0, 1])) (.b (.b (.l [1, 0, 0, 0, 0, 1, 0, 0, 1, 0, 1, 0, 0, 0, 1]) (.l [1, 0, 0, 1, 0, 0, 0, 0, 1, 0, 1, 0, 0, 1, 1, 1])) (.l [1, 0, 0, 0, 0, 0, 0, 0, 0, 0, 1, 0, 1]))))) (.b (.b (.b (.b (.b (.l [0, 1, 0, 0, 1, 0, 1, 0, 0, 1, 0, 0, 1, 0, 0, 1]) (.l [0, 1, 1, 0, 1, 0, 1, 0, 0, 1, 0, 0, 1, 0, 0, 1])) (.b (.l [0, 1, 0, 0, 1, 1, 1, 0, 0, 1, 0, 0, 1, 0, 0, 1]) (.l [0, 1, 1, 0, 1, 1, 1, 0, 0, 1, 0, 0, 1, 0, 0, 1]))) (.l [1, 0, 0, 0, 0, 1])) (.l [1, 0, 0, 1, 0, 0, 1])) (.l [1, 0, 0, 1]))) rfl x0 x1 x2 x3 (x0 - 1) (x1 - x2) (x0 - 1 - (x1 - x2 + x3)) (x0 - (x1 - x2)) (x0 - (x1 - x2) - 1) (x0 - (x1 - x2) - 1 - x3) (aS x0 1) (aS ((x0 - 1)) ((x1 - x2 + x3))) (aS x0 ((x1 - x2))) (aS ((x0 - (x1 - x2))) 1) (aS ((x0 - (x1 - x2) - 1)) x3)
theorem ar319 {x0 x1 x2 x3 : Nat} (h0 : x0 < 2 * x1 - x3 - x2) (h1 : x1 < x3) : x0 < x1 - x2 :=
  ar 7 0 (.i (.S (.v 1) (.v 2) (.v 4)) (.i (.S (.m 2 (.v 1)) (.v 3) (.v 5)) (.i (.S (.v 5) (.v 2) (.v 6)) (.i (.t (.v 0) (.v 6)) (.i (.t (.v 1) (.v 3)) (.t (.v 0) (.v 4))))))) (.b (.b (.b (.l [0, 1, 0, 1, 0, 0, 1, 0, 0, 1, 1, 1]) (.l [0, 0, 1, 1, 0, 0, 0, 0, 1, 0, 1])) (.l [1, 0, 0, 1, 0, 0, 0, 0, 1])) (.l [1, 0, 0, 0, 0, 1])) rfl x0 x1 x2 x3 (x1 - x2) (2 * x1 - x3) (2 * x1 - x3 - x2) (aS x1 x2) (aS ((2 * x1)) x3) (aS ((2 * x1 - x3)) x2) h0 h1
theorem ar320 {x0 x1 x2 x3 : Nat} (h0 : x0 < x3) (h1 : x1 < 2 * x0 - x3 - x2) : x0 - 1 - x1 - x2 < x3 - x2 :=
  ar 10 0 (.i (.S (.v 0) (.n 1) (.v 4)) (.i (.S (.v 4) (.v 1) (.v 5)) (.i (.S (.v 5) (.v 2) (.v 6)) (.i (.S (.v 3) (.v 2) (.v 7)) (.i (.S (.m 2 (.v 0)) (.v 3) (.v 8)) (.i (.S (.v 8) (.v 2) (.v 9)) (.i (.t (.v 0) (.v 3)) (.i (.t (.v 1) (.v 9)) (.t (.v 6) (.v 7)))))))))) (.b (.b (.b (.b (.b (.b (.l [1, 0, 0, 1, 0, 0, 1, 0, 0, 0, 1, 0, 0, 0, 0, 0, 0, 0, 1, 0, 1]) (.l [1, 0, 0, 1, 0, 0, 1, 0, 0, 0, 1, 0, 0, 0, 1, 0, 0, 0, 1, 0, 2])) (.l [1, 0, 0, 1, 0, 0, 0, 1, 0, 0, 0, 1, 0, 0, 0, 1, 0, 2])) (.l [1, 0, 0, 0, 1, 0, 1, 0, 0, 0, 0, 1, 1, 0, 2])) (.l [0, 0, 1, 1, 0, 0, 0, 0, 1, 0, 0, 2])) (.l [1, 0, 0, 1, 0, 0, 0, 1])) (.l [1, 0, 0, 0, 1])) rfl x0 x1 x2 x3 (x0 - 1) (x0 - 1 - x1) (x0 - 1 - x1 - x2) (x3 - x2) (2 * x0 - x3) (2 * x0 - x3 - x2) (aS x0 1) (aS ((x0 - 1)) x1) (aS ((x0 - 1 - x1)) x2) (aS x3 x2) (aS ((2 * x0)) x3) (aS ((2 * x0 - x3)) x2) h0 h1
theorem ar321 {x0 x1 x2 x3 : Nat} (h0 : x1 < x0) (h1 : x2 < 2 * x1 - x0 - x3) : x0 - x1 + x2 < x1 - x3 :=
  ar 8 0 (.i (.S (.v 0) (.v 1) (.v 4)) (.i (.S (.v 1) (.v 3) (.v 5)) (.i (.S (.m 2 (.v 1)) (.v 0) (.v 6)) (.i (.S (.v 6) (.v 3) (.v 7)) (.i (.t (.v 1) (.v 0)) (.i (.t (.v 2) (.v 7)) (.t (.a (.v 4) (.v 2)) (.v 5)))))))) (.b (.b (.b (.b (.l [1, 0, 0, 0, 1, 0, 1, 0, 0, 1, 0, 0, 1, 1]) (.l [0, 0, 1, 0, 0, 0, 0, 0, 0, 0, 0, 0, 0, 0, 1])) (.l [0, 0, 1, 1, 0, 0, 0, 0, 1, 0, 0, 1])) (.l [1, 0, 0, 1, 0, 0, 0, 1])) (.l [1, 0, 0, 0, 1])) rfl x0 x1 x2 x3 (x0 - x1) (x1 - x3) (2 * x1 - x0) (2 * x1 - x0 - x3) (aS x0 x1) (aS x1 x3) (aS ((2 * x1)) x0) (aS ((2 * x1 - x0)) x3) h0 h1
theorem ar322 {x0 x1 x2 x3 : Nat} (h0 : x1 < x3) (h1 : x2 < 2 * x1 - x3 - x0) : x0 + (x1 - 1 - x2 - x0) = x1 - 1 - x2 :=
  ar 9 0 (.i (.S (.v 1) (.n 1) (.v 4)) (.i (.S (.v 4) (.v 2) (.v 5)) (.i (.S (.v 5) (.v 0) (.v 6)) (.i (.S (.m 2 (.v 1)) (.v 3) (.v 7)) (.i (.S (.v 7) (.v 0) (.v 8)) (.i (.t (.v 1) (.v 3)) (.i (.t (.v 2) (.v 8)) (.e (.a (.v 0) (.v 6)) (.v 5))))))))) (.b (.b (.b (.b (.l [1, 0, 0, 0, 0, 0, 0, 0, 0, 1]) (.b (.b (.l [0, 1, 0, 0, 1, 0, 1, 0, 0, 1, 0, 0, 1, 0, 0, 1, 1, 1]) (.l [0, 0, 1, 0, 1, 1, 1, 0, 0, 1, 0, 0, 0, 0, 1, 1, 0, 1])) (.b (.l [0, 1, 0, 0, 1, 1, 1, 0, 0, 1, 0, 0, 1, 0, 0, 1, 1, 1]) (.l [0, 1, 1, 0, 1, 1, 1, 0, 0, 1, 0, 0, 1, 0, 0, 1, 1, 1])))) (.l [1, 0, 0, 1, 0, 0, 0, 1])) (.l [1, 0, 0, 0, 1])) (.b (.b (.b (.l [0, 1, 0, 0, 0, 0, 0, 0, 0, 1]) (.l [0, 1, 1, 0, 0, 0, 0, 0, 0, 1])) (.l [1, 0, 0, 1, 0, 0, 0, 1])) (.l [1, 0, 0, 0, 1]))) rfl x0 x1 x2 x3 (x1 - 1) (x1 - 1 - x2) (x1 - 1 - x2 - x0) (2 * x1 - x3) (2 * x1 - x3 - x0) (aS x1 1) (aS ((x1 - 1)) x2) (aS ((x1 - 1 - x2)) x0) (aS ((2 * x1)) x3) (aS ((2 * x1 - x3)) x0) h0 h1
theorem ar323 {x0 x1 x2 x3 : Nat} (h0 : x1 < x0) (h1 : x2 < 2 * x1 - x0 - x3) : x0 - 1 - (x1 - 1 - x2 - x3) = x3 + (x0 - x1 + x2) :=
  ar 12 0 (.i (.S (.v 0) (.n 1) (.v 4)) (.i (.S (.v 1) (.n 1) (.v 5)) (.i (.S (.v 5) (.v 2) (.v 6)) (.i (.S (.v 6) (.v 3) (.v 7)) (.i (.S (.v 4) (.v 7) (.v 8)) (.i (.S (.v 0) (.v 1) (.v 9)) (.i (.S (.m 2 (.v 1)) (.v 0) (.v 10)) (.i (.S (.v 10) (.v 3) (.v 11)) (.i (.t (.v 1) (.v 0)) (.i (.t (.v 2) (.v 11)) (.e (.v 8) (.a (.v 3) (.a (.v 9) (.v 2)))))))))))))) (.b (.b (.b (.b (.b (.b (.b (.b (.b (.l [1, 0, 0, 0, 1, 0, 0, 1, 0, 0, 1, 0, 1, 0, 0, 0, 1, 0, 0, 0, 0, 0, 0, 0, 1]) (.l [1, 0, 0, 0, 1, 1, 0, 1, 0, 0, 1, 0, 1, 0, 0, 0, 1, 1, 0, 0, 0, 0, 0, 0, 1])) (.l [0, 0, 1, 0, 0, 0, 0, 0, 0, 0, 0, 0, 0, 0, 0, 1, 0, 0, 1, 0, 0, 0, 1, 1])) (.b (.l [0, 1, 0, 0, 0, 1, 0, 0, 0, 0, 0, 0, 0, 0, 0, 1, 0, 0, 1, 0, 0, 0, 1, 1]) (.l [0, 1, 1, 0, 0, 1, 0, 0, 0, 0, 0, 0, 0, 0, 0, 1, 0, 0, 1, 0, 0, 0, 1, 1]))) (.b (.b (.l [0, 1, 0, 0, 1, 0, 0, 0, 1, 0, 0, 0, 0, 0, 0, 1, 0, 0, 1, 0, 0, 0, 1, 1]) (.l [0, 1, 1, 0, 1, 0, 0, 0, 1, 0, 0, 0, 0, 0, 0, 1, 0, 0, 1, 0, 0, 0, 1, 1])) (.b (.l [0, 1, 0, 0, 1, 1, 0, 0, 1, 0, 0, 0, 0, 0, 0, 1, 0, 0, 1, 0, 0, 0, 1, 1]) (.l [0, 1, 1, 0, 1, 1, 0, 0, 1, 0, 0, 0, 0, 0, 0, 1, 0, 0, 1, 0, 0, 0, 1, 1])))) (.l [1, 0, 0, 0, 1, 0, 0, 0, 0, 0, 0, 0, 1, 0, 1])) (.l [0, 0, 1, 0, 0, 0, 0, 0, 0, 0, 0, 1])) (.l [1, 0, 0, 1, 0, 0, 0, 1])) (.l [1, 0, 0, 0, 1])) (.b (.b (.b (.b (.b (.b (.b (.b (.l [0, 1, 0, 1, 0, 0, 1, 0, 0, 1, 0, 0, 0, 1, 0, 1, 0, 0, 0, 0, 0, 0, 0, 0, 1]) (.l [0, 1, 1, 1, 0, 0, 1, 0, 0, 1, 0, 0, 0, 1, 0, 1, 0, 0, 0, 0, 0, 0, 0, 0, 1])) (.l [0, 0, 1, 0, 0, 0, 0, 0, 0, 0, 1, 1, 1, 0, 0, 1, 0, 0, 1, 0, 0, 1, 1])) (.b (.l [0, 1, 0, 0, 0, 1, 0, 0, 0, 0, 0, 0, 0, 0, 0, 1, 0, 0, 1, 0, 0, 0, 1, 1]) (.l [0, 0, 1, 0, 0, 0, 0, 0, 0, 0, 1, 1, 1, 0, 0, 1, 0, 0, 1, 0, 0, 1, 1]))) (.s (.b (.b (.l [0, 1, 0, 0, 0, 0, 1, 0, 0, 0, 1, 0, 1, 0, 1, 1, 0, 0, 1, 0, 0, 1, 1]) (.l [0, 1, 1, 0, 0, 0, 1, 0, 0, 0, 1, 0, 1, 0, 1, 1, 0, 0, 1, 0, 0, 1, 1])) (.l [0, 0, 1, 0, 0, 0, 0, 1, 1, 1, 0, 0, 1, 0, 0, 1, 0, 0, 1, 1])))) (.b (.b (.b (.b (.l [0, 1, 0, 1, 0, 0, 1, 0, 0, 1, 0, 0, 0, 1, 1, 1, 0, 0, 0, 0, 0, 0, 0, 0, 1]) (.l [0, 0, 1, 1, 0, 0, 1, 0, 0, 0, 0, 1, 0, 1, 0, 1, 0, 0, 0, 0, 0, 0, 0, 0, 1])) (.l [0, 0, 1, 0, 0, 0, 0, 0, 0, 0, 1, 0, 1, 0, 0, 1, 0, 0, 1, 0, 0, 1, 1])) (.b (.l [0, 1, 0, 0, 0, 1, 0, 0, 0, 0, 0, 0, 0, 0, 0, 1, 0, 0, 1, 0, 0, 0, 1, 1]) (.l [0, 0, 1, 0, 0, 0, 0, 0, 0, 0, 1, 0, 1, 0, 0, 1, 0, 0, 1, 0, 0, 1, 1]))) (.s (.b (.b (.l [0, 1, 0, 0, 0, 0, 1, 0, 0, 0, 1, 1, 1, 0, 1, 1, 0, 0, 1, 0, 0, 1, 1]) (.l [0, 0, 1, 0, 0, 0, 0, 0, 0, 0, 1, 0, 1, 0, 1, 1, 0, 0, 1, 0, 0, 1, 1])) (.l [0, 0, 1, 0, 0, 0, 0, 1, 0, 1, 0, 0, 1, 0, 0, 1, 0, 0, 1, 1]))))) (.l [0, 0, 1, 0, 0, 0, 0, 0, 0, 0, 0, 1])) (.l [1, 0, 0, 1, 0, 0, 0, 1])) (.l [1, 0, 0, 0, 1]))) rfl x0 x1 x2 x3 (x0 - 1) (x1 - 1) (x1 - 1 - x2) (x1 - 1 - x2 - x3) (x0 - 1 - (x1 - 1 - x2 - x3)) (x0 - x1) (2 * x1 - x0) (2 * x1 - x0 - x3) (aS x0 1) (aS x1 1) (aS ((x1 - 1)) x2) (aS ((x1 - 1 - x2)) x3) (aS ((x0 - 1)) ((x1 - 1 - x2 - x3))) (aS x0 x1) (aS ((2 * x1)) x0) (aS ((2 * x1 - x0)) x3) h0 h1
theorem ar324 {x0 x1 x2 : Nat} (h0 : x0 < x1) : x0 - 1 - (x1 - x0 + x2) = 2 * x0 - x1 - 1 - x2 :=
  ar 9 0 (.i (.S (.v 0) (.n 1) (.v 3)) (.i (.S (.v 1) (.v 0) (.v 4)) (.i (.S (.v 3) (.a (.v 4) (.v 2)) (.v 5)) (.i (.S (.m 2 (.v 0)) (.v 1) (.v 6)) (.i (.S (.v 6) (.n 1) (.v 7)) (.i (.S (.v 7) (.v 2) (.v 8)) (.i (.t (.v 0) (.v 1)) (.e (.v 5) (.v 8))))))))) (.b (.b (.b (.b (.b (.b (.b (.l [1, 0, 0, 0, 1, 0, 1, 0, 0, 0, 1, 0, 0, 1, 0, 0, 1, 0, 1]) (.l [1, 0, 0, 0, 1, 1, 1, 0, 0, 0, 0, 0, 0, 1, 1, 0, 1, 0, 1])) (.l [0, 0, 1, 0, 0, 0, 0, 0, 0, 0, 0, 0, 0, 0, 0, 0, 1])) (.l [1, 0, 0, 0, 0, 0, 0, 0, 0, 0, 1, 1, 1])) (.l [1, 0, 0, 0, 0, 1])) (.b (.b (.b (.b (.l [1, 0, 0, 0, 1, 0, 1, 0, 0, 0, 1, 0, 0, 1, 1, 0, 1, 0, 1]) (.l [1, 0, 0, 0, 1, 1, 1, 0, 0, 0, 0, 0, 0, 1, 0, 0, 1, 0, 1])) (.l [0, 0, 1, 0, 0, 0, 0, 0, 0, 0, 0, 0, 0, 0, 0, 0, 1])) (.l [1, 0, 0, 0, 0, 0, 0, 0, 0, 0, 1, 1, 1])) (.b (.b (.b (.l [1, 0, 0, 0, 1, 0, 1, 0, 0, 0, 0, 1, 0, 1, 0, 0, 1, 0, 1]) (.l [1, 0, 0, 0, 1, 1, 1, 0, 0, 0, 0, 0, 0, 1, 0, 0, 1, 0, 1])) (.l [0, 0, 1, 0, 0, 0, 0, 0, 0, 0, 0, 0, 0, 0, 0, 0, 1])) (.l [1, 0, 0, 0, 0, 0, 0, 0, 0, 0, 1, 1, 1])))) (.b (.b (.b (.b (.b (.l [1, 0, 0, 0, 1, 0, 1, 0, 0, 0, 1, 0, 0, 1, 0, 0, 1, 1, 1]) (.l [1, 0, 0, 0, 1, 1, 1, 0, 0, 0, 0, 0, 0, 1, 1, 0, 1, 1, 1])) (.l [0, 0, 1, 0, 0, 0, 0, 0, 0, 0, 0, 0, 0, 0, 0, 0, 1])) (.l [1, 0, 0, 0, 0, 0, 0, 0, 0, 0, 1, 0, 1])) (.l [1, 0, 0, 0, 0, 1])) (.b (.b (.b (.b (.l [1, 0, 0, 0, 1, 0, 1, 0, 0, 0, 1, 0, 0, 1, 1, 0, 1, 1, 1]) (.l [1, 0, 0, 0, 1, 1, 1, 0, 0, 0, 0, 0, 0, 1, 0, 0, 1, 1, 1])) (.l [0, 0, 1, 0, 0, 0, 0, 0, 0, 0, 0, 0, 0, 0, 0, 0, 1])) (.l [1, 0, 0, 0, 0, 0, 0, 0, 0, 0, 1, 0, 1])) (.b (.b (.b (.l [1, 0, 0, 0, 1, 0, 0, 0, 1, 0, 0, 1, 0, 1, 0, 0, 0, 1]) (.l [1, 0, 0, 0, 1, 1, 1, 0, 0, 0, 0, 0, 0, 1, 0, 0, 1, 1, 1])) (.l [0, 0, 1, 0, 0, 0, 0, 0, 0, 0, 0, 0, 0, 0, 0, 0, 1])) (.l [1, 0, 0, 0, 0, 0, 0, 0, 0, 0, 1, 0, 1]))))) (.b (.b (.b (.b (.b (.b (.l [0, 1, 0, 1, 0, 0, 0, 1, 0, 1, 0, 0, 1, 0, 0, 1, 0, 0, 1]) (.l [0, 1, 1, 1, 0, 0, 0, 1, 0, 1, 0, 0, 1, 0, 0, 1, 0, 0, 1])) (.l [0, 0, 1, 0, 0, 0, 0, 0, 0, 0, 0, 0, 0, 0, 0, 0, 1])) (.b (.b (.l [0, 1, 0, 1, 0, 0, 0, 1, 1, 1, 0, 0, 1, 0, 0, 1, 0, 0, 1]) (.l [0, 1, 1, 1, 0, 0, 0, 1, 1, 1, 0, 0, 1, 0, 0, 1, 0, 0, 1])) (.l [0, 0, 1, 0, 0, 0, 0, 0, 0, 0, 0, 0, 0, 0, 0, 0, 1]))) (.l [1, 0, 0, 0, 0, 1])) (.l [1, 0, 0, 1, 0, 0, 1])) (.l [1, 0, 0, 1]))) rfl x0 x1 x2 (x0 - 1) (x1 - x0) (x0 - 1 - (x1 - x0 + x2)) (2 * x0 - x1) (2 * x0 - x1 - 1) (2 * x0 - x1 - 1 - x2) (aS x0 1) (aS x1 x0) (aS ((x0 - 1)) ((x1 - x0 + x2))) (aS ((2 * x0)) x1) (aS ((2 * x0 - x1)) 1) (aS ((2 * x0 - x1 - 1)) x2) h0
theorem ar325 {x0 x1 x2 : Nat} (h0 : x0 < x1) (h1 : x2 < x0) : 2 * x0 - x1 < x0 :=
  ar 4 0 (.i (.S (.m 2 (.v 0)) (.v 1) (.v 3)) (.i (.t (.v 0) (.v 1)) (.i (.t (.v 2) (.v 0)) (.t (.v 3) (.v 0))))) (.b (.l [1, 0, 0, 1, 0, 1]) (.l [1, 0, 0, 1, 1])) rfl x0 x1 x2 (2 * x0 - x1) (aS ((2 * x0)) x1) h0 h1
theorem ar326 {x0 x1 x2 : Nat} (h0 : x2 - x0 < 2 * (x1 - x0)) : x0 < 2 * x1 - x2 :=
  ar 6 0 (.i (.S (.m 2 (.v 1)) (.v 2) (.v 3)) (.i (.S (.v 2) (.v 0) (.v 4)) (.i (.S (.v 1) (.v 0) (.v 5)) (.i (.t (.v 4) (.m 2 (.v 5))) (.t (.v 0) (.v 3)))))) (.b (.b (.b (.l [0, 1, 0, 0, 1, 0, 2, 0, 0, 1, 1]) (.l [0, 1, 1, 0, 1, 0, 2, 0, 0, 1, 1])) (.b (.l [0, 1, 0, 0, 1, 1, 2, 0, 0, 1, 1]) (.l [0, 1, 1, 0, 1, 1, 2, 0, 0, 1, 1]))) (.l [2, 0, 0, 0, 1])) rfl x0 x1 x2 (2 * x1 - x2) (x2 - x0) (x1 - x0) (aS ((2 * x1)) x2) (aS x2 x0) (aS x1 x0) h0
theorem ar327 {x0 x1 x2 : Nat} (h0 : x0 < x1) (h1 : x1 ≤ x2) : 2 * x0 - x1 ≤ x2 :=
  ar 4 0 (.i (.S (.m 2 (.v 0)) (.v 1) (.v 3)) (.i (.t (.v 0) (.v 1)) (.i (.l (.v 1) (.v 2)) (.l (.v 3) (.v 2))))) (.b (.l [1, 0, 0, 1, 1, 2]) (.l [1, 0, 0, 1, 1, 1])) rfl x0 x1 x2 (2 * x0 - x1) (aS ((2 * x0)) x1) h0 h1
theorem ar328 {x0 x1 x2 : Nat} (h0 : x1 < x0) (h1 : x2 < x1) : x0 - (x1 - x2) < x0 :=
  ar 5 0 (.i (.S (.v 1) (.v 2) (.v 3)) (.i (.S (.v 0) (.v 3) (.v 4)) (.i (.t (.v 1) (.v 0)) (.i (.t (.v 2) (.v 1)) (.t (.v 4) (.v 0)))))) (.b (.b (.l [0, 1, 0, 1, 0, 0, 1, 1]) (.l [0, 0, 1, 0, 0, 0, 0, 1])) (.l [1, 0, 0, 1, 0, 1])) rfl x0 x1 x2 (x1 - x2) (x0 - (x1 - x2)) (aS x1 x2) (aS x0 ((x1 - x2))) h0 h1
theorem ar329 {x0 x1 x2 : Nat} (h0 : 2 * (x1 - x2) = x0 - x2) (h1 : x2 < x0) : x0 - (x1 - x2) = x1 :=
  ar 6 0 (.i (.S (.v 1) (.v 2) (.v 3)) (.i (.S (.v 0) (.v 3) (.v 4)) (.i (.S (.v 0) (.v 2) (.v 5)) (.i (.e (.m 2 (.v 3)) (.v 5)) (.i (.t (.v 2) (.v 0)) (.e (.v 4) (.v 1))))))) (.b (.b (.b (.b (.l [1, 0, 0, 1, 0, 0, 0, 1, 0, 1, 0, 0, 1]) (.l [2, 0, 0, 0, 0, 0, 0, 1, 0, 0, 1, 0, 1])) (.l [1, 0, 0, 0, 0, 0, 1])) (.l [0, 0, 1, 0, 1])) (.b (.b (.b (.l [0, 1, 0, 0, 1, 0, 1, 0, 0, 1, 0, 1]) (.l [1, 0, 1, 0, 1, 0, 0, 0, 1, 1])) (.l [0, 0, 2, 1, 0, 0, 0, 1, 1])) (.l [0, 0, 1, 0, 1]))) rfl x0 x1 x2 (x1 - x2) (x0 - (x1 - x2)) (x0 - x2) (aS x1 x2) (aS x0 ((x1 - x2))) (aS x0 x2) h0 h1
theorem ar330 {x0 x1 x2 : Nat} (h0 : 2 * (x0 - x2) < x1 - x2) : x0 < x1 - (x0 - x2) :=
  ar 6 0 (.i (.S (.v 0) (.v 2) (.v 3)) (.i (.S (.v 1) (.v 3) (.v 4)) (.i (.S (.v 1) (.v 2) (.v 5)) (.i (.t (.m 2 (.v 3)) (.v 5)) (.t (.v 0) (.v 4)))))) (.b (.b (.b (.l [0, 1, 0, 0, 1, 0, 1, 0, 0, 1, 1]) (.l [0, 1, 1, 0, 1, 0, 1, 0, 0, 1, 1])) (.l [0, 0, 2, 1, 0, 0, 0, 1])) (.l [1, 0, 0, 0, 1])) rfl x0 x1 x2 (x0 - x2) (x1 - (x0 - x2)) (x1 - x2) (aS x0 x2) (aS x1 ((x0 - x2))) (aS x1 x2) h0
theorem ar331 {x0 x1 x2 x3 : Nat} (h0 : x0 ≤ x3) : x0 - (x1 - x2) ≤ x3 :=
  ar 6 0 (.i (.S (.v 0) (.v 4) (.v 5)) (.i (.l (.v 0) (.v 3)) (.l (.v 5) (.v 3)))) (.b (.l [1, 0, 0, 1, 1]) (.l [1, 0, 0, 1, 1])) rfl x0 x1 x2 x3 (x1 - x2) (x0 - (x1 - x2)) (aS x0 ((x1 - x2))) h0
theorem ar332 : ∀ {x0 x1 x2 : Nat} (h : x0 ≤ x2) (h : x2 < x1), x0 ≤ x1 := @ar 3 0 (.i (.l (.v 0) (.v 2)) (.i (.t (.v 2) (.v 1)) (.l (.v 0) (.v 1)))) (.l [1, 1, 1]) rfl
theorem ar333 {x0 x1 x2 : Nat} (h0 : x0 ≤ x1) (h1 : x1 - x2 ≤ 0) (h2 : x2 ≤ x0) : x0 = x1 :=
  ar 4 0 (.i (.S (.v 1) (.v 2) (.v 3)) (.i (.l (.v 0) (.v 1)) (.i (.l (.v 3) (.n 0)) (.i (.l (.v 2) (.v 0)) (.e (.v 0) (.v 1)))))) (.b (.l [1, 0, 0, 1]) (.b (.l [0, 1, 0, 1, 1, 1]) (.l [0, 0, 1, 1, 1]))) rfl x0 x1 x2 (x1 - x2) (aS x1 x2) h0 h1 h2
theorem ar334 : ∀ {x0 x1 x2 : Nat} (h : x0 < x1) (h : x1 ≤ x2) (h : x2 ≤ x0), False := @ar 3 0 (.i (.t (.v 0) (.v 1)) (.i (.l (.v 1) (.v 2)) (.i (.l (.v 2) (.v 0)) .f))) (.l [0, 1, 1, 1]) rfl
theorem ar335 {x0 x1 x2 x3 : Nat} (h0 : x0 - x3 ≤ x2 + 1) (h1 : x3 < x1) : x0 - x1 ≤ x2 :=
  ar 6 0 (.i (.S (.v 0) (.v 1) (.v 4)) (.i (.S (.v 0) (.v 3) (.v 5)) (.i (.l (.v 5) (.s (.v 2))) (.i (.t (.v 3) (.v 1)) (.l (.v 4) (.v 2)))))) (.b (.b (.l [1, 0, 0, 0, 1, 0, 1, 1, 1]) (.l [1, 0, 0, 0, 0, 0, 1])) (.b (.l [0, 0, 1, 0, 0, 1, 0, 1]) (.l [1, 0, 0, 0, 0, 0, 1]))) rfl x0 x1 x2 x3 (x0 - x1) (x0 - x3) (aS x0 x1) (aS x0 x3) h0 h1
theorem ar336 {x0 x1 x2 : Nat} (h0 : x0 ≤ x2) : min (x0 - x1) (x2 - x1) = x0 - x1 :=
  ar 6 0 (.i (.S (.v 0) (.v 1) (.v 3)) (.i (.S (.v 2) (.v 1) (.v 4)) (.i (.N (.v 3) (.v 4) (.v 5)) (.i (.l (.v 0) (.v 2)) (.e (.v 5) (.v 3)))))) (.b (.b (.l [1, 0, 0, 1]) (.l [1, 0, 1, 1])) (.b (.l [0, 1, 0, 1]) (.b (.b (.l [1, 0, 0, 0, 1, 0, 0, 1, 0, 1, 1]) (.l [1, 0, 0, 0, 1, 1, 0, 1, 0, 1])) (.b (.l [1, 0, 0, 0, 1, 1, 0, 1, 0, 1, 1]) (.l [1, 0, 0, 0, 1, 0, 0, 1, 0, 1]))))) rfl x0 x1 x2 (x0 - x1) (x2 - x1) (min (x0 - x1) (x2 - x1)) (aS x0 x1) (aS x2 x1) (aN ((x0 - x1)) ((x2 - x1))) h0
theorem ar337 {x0 x1 x2 : Nat} (h0 : 0 < (x0 - x1) / 2) : x0 - x1 - 1 - x2 < x0 - x1 :=
  ar 8 0 (.i (.S (.v 3) (.n 1) (.v 4)) (.i (.S (.v 4) (.v 2) (.v 5)) (.i (.K 2 (.v 3) (.v 6) (.v 7)) (.i (.t (.n 0) (.v 6)) (.t (.v 5) (.v 3)))))) (.b (.b (.l [1, 0, 0, 1, 0, 0, 1]) (.l [1, 0, 0, 1, 0, 0, 1, 2, 0, 1])) (.l [1, 0, 0, 1, 2, 0, 1])) rfl x0 x1 x2 (x0 - x1) (x0 - x1 - 1) (x0 - x1 - 1 - x2) ((x0 - x1) / 2) ((x0 - x1) % 2) (aS ((x0 - x1)) 1) (aS ((x0 - x1 - 1)) x2) (aK ((x0 - x1)) 2 rfl) h0
theorem ar338 {x0 x1 x2 : Nat} (h0 : x2 < x1 - x0) : x0 + (x1 - x0 - 1 - x2) = x1 - 1 - x2 :=
  ar 8 0 (.i (.S (.v 1) (.v 0) (.v 3)) (.i (.S (.v 3) (.n 1) (.v 4)) (.i (.S (.v 4) (.v 2) (.v 5)) (.i (.S (.v 1) (.n 1) (.v 6)) (.i (.S (.v 6) (.v 2) (.v 7)) (.i (.t (.v 2) (.v 3)) (.e (.a (.v 0) (.v 5)) (.v 7)))))))) (.b (.b (.b (.b (.b (.b (.l [1, 0, 0, 1, 0, 0, 1, 0, 0, 0, 1, 0, 0, 1, 0, 1]) (.l [1, 0, 0, 0, 0, 1])) (.b (.l [1, 0, 0, 1, 0, 0, 1, 0, 0, 0, 1, 0, 0, 1, 0, 1, 1]) (.l [1, 0, 0, 0, 0, 0, 0, 0, 0, 0, 0, 0, 0, 0, 0, 0, 1]))) (.s (.b (.l [1, 0, 0, 1, 0, 0, 0, 1, 0, 0, 1, 0, 1, 1]) (.l [1, 0, 0, 0, 0, 0, 0, 0, 0, 0, 0, 0, 0, 1])))) (.b (.b (.b (.l [1, 0, 0, 1, 0, 0, 1, 0, 0, 0, 1, 1, 0, 1, 0, 1]) (.l [1, 0, 0, 0, 0, 1])) (.b (.l [1, 0, 0, 1, 0, 0, 1, 0, 0, 0, 1, 1, 0, 1, 0, 1, 1]) (.l [1, 0, 0, 0, 0, 0, 0, 0, 0, 0, 0, 0, 0, 0, 0, 0, 1]))) (.s (.b (.l [1, 0, 0, 1, 0, 0, 0, 1, 1, 0, 1, 0, 1, 1]) (.l [1, 0, 0, 0, 0, 0, 0, 0, 0, 0, 0, 0, 0, 1]))))) (.b (.b (.b (.b (.l [1, 0, 0, 1, 0, 0, 1, 0, 0, 0, 1, 0, 0, 1, 1, 1]) (.l [1, 0, 0, 0, 0, 1])) (.b (.l [1, 0, 0, 1, 0, 0, 1, 0, 0, 0, 2, 1, 0, 1, 2, 1, 1]) (.l [1, 0, 0, 0, 0, 0, 0, 0, 0, 0, 1, 1, 0, 0, 1, 0, 1]))) (.s (.b (.l [1, 0, 0, 1, 0, 0, 0, 1, 0, 0, 1, 1, 1, 1]) (.l [1, 0, 0, 0, 0, 0, 0, 1, 1, 0, 0, 1, 0, 1])))) (.b (.b (.b (.l [1, 0, 0, 1, 0, 0, 1, 0, 0, 0, 1, 1, 0, 1, 1, 1]) (.l [1, 0, 0, 0, 0, 1])) (.b (.l [1, 0, 0, 1, 0, 0, 1, 0, 0, 0, 2, 1, 0, 1, 2, 1, 1]) (.l [1, 0, 0, 0, 0, 0, 0, 0, 0, 0, 1, 0, 0, 0, 1, 0, 1]))) (.s (.b (.l [1, 0, 0, 1, 0, 0, 0, 1, 1, 0, 1, 1, 1, 1]) (.l [1, 0, 0, 0, 0, 0, 0, 1, 0, 0, 0, 1, 0, 1])))))) (.b (.b (.b (.b (.b (.l [0, 1, 0, 0, 1, 0, 0, 1, 0, 1, 0, 0, 1, 0, 0, 1]) (.l [1, 0, 0, 0, 0, 1])) (.b (.l [0, 1, 0, 0, 1, 1, 0, 1, 0, 1, 0, 0, 1, 0, 0, 1]) (.l [0, 0, 1, 0, 1, 0, 0, 1, 0, 1, 0, 0, 1, 0, 0, 1]))) (.b (.b (.l [0, 1, 0, 0, 1, 0, 0, 1, 1, 1, 0, 0, 1, 0, 0, 1]) (.l [1, 0, 0, 0, 0, 1])) (.b (.l [0, 1, 0, 0, 1, 1, 0, 1, 1, 1, 0, 0, 1, 0, 0, 1]) (.l [0, 0, 1, 0, 1, 0, 0, 1, 1, 1, 0, 0, 1, 0, 0, 1])))) (.l [1, 0, 0, 1, 0, 0, 1])) (.l [1, 0, 0, 1]))) rfl x0 x1 x2 (x1 - x0) (x1 - x0 - 1) (x1 - x0 - 1 - x2) (x1 - 1) (x1 - 1 - x2) (aS x1 x0) (aS ((x1 - x0)) 1) (aS ((x1 - x0 - 1)) x2) (aS x1 1) (aS ((x1 - 1)) x2) h0
theorem ar339 {x0 x1 x2 : Nat} (h0 : (x0 - x1) % 2 = 0) (h1 : (x0 - x1) / 2 ≤ x2) (h2 : 0 < (x0 - x1) / 2) : x0 - x1 - 1 - x2 < (x0 - x1) / 2 :=
  ar 8 0 (.i (.S (.v 3) (.n 1) (.v 4)) (.i (.S (.v 4) (.v 2) (.v 5)) (.i (.K 2 (.v 3) (.v 6) (.v 7)) (.i (.e (.v 7) (.n 0)) (.i (.l (.v 6) (.v 2)) (.i (.t (.n 0) (.v 6)) (.t (.v 5) (.v 6)))))))) (.b (.b (.l [1, 0, 0, 1, 0, 0, 1, 0, 1, 1, 0, 0, 0, 1]) (.l [1, 0, 0, 1, 0, 0, 1, 2, 1])) (.l [1, 0, 0, 1, 1])) rfl x0 x1 x2 (x0 - x1) (x0 - x1 - 1) (x0 - x1 - 1 - x2) ((x0 - x1) / 2) ((x0 - x1) % 2) (aS ((x0 - x1)) 1) (aS ((x0 - x1 - 1)) x2) (aK ((x0 - x1)) 2 rfl) h0 h1 h2
theorem ar340 {x0 x1 x2 : Nat} (h0 : x2 < x0 - x1) : x0 - x1 - 1 - (x0 - x1 - 1 - x2) < x0 - x1 :=
  ar 7 0 (.i (.S (.v 4) (.v 2) (.v 5)) (.i (.S (.v 4) (.v 5) (.v 6)) (.i (.t (.v 2) (.v 3)) (.t (.v 6) (.v 3))))) (.b (.b (.l [0, 1, 0, 1, 0, 0, 1, 1]) (.l [0, 1, 1, 1, 0, 0, 1, 1])) (.l [1, 0, 0, 1, 1])) rfl x0 x1 x2 (x0 - x1) (x0 - x1 - 1) (x0 - x1 - 1 - x2) (x0 - x1 - 1 - (x0 - x1 - 1 - x2)) (aS ((x0 - x1 - 1)) x2) (aS ((x0 - x1 - 1)) ((x0 - x1 - 1 - x2))) h0
theorem ar341 {x0 x1 x2 : Nat} (h0 : x2 < x1 - x0) : x0 + (x1 - x0 - 1 - (x1 - x0 - 1 - x2)) = x0 + x2 :=
  ar 7 0 (.i (.S (.v 3) (.n 1) (.v 4)) (.i (.S (.v 4) (.v 2) (.v 5)) (.i (.S (.v 4) (.v 5) (.v 6)) (.i (.t (.v 2) (.v 3)) (.e (.a (.v 0) (.v 6)) (.a (.v 0) (.v 2))))))) (.b (.b (.b (.l [0, 1, 0, 1, 0, 0, 1]) (.l [0, 1, 1, 1, 0, 0, 1])) (.l [1, 0, 0, 1])) (.b (.b (.l [1, 0, 0, 0, 1, 0, 1]) (.b (.l [0, 1, 0, 1, 0, 0, 0, 1, 0, 1, 1]) (.l [0, 1, 1, 1, 0, 0, 0, 1, 0, 1, 1]))) (.b (.l [1, 0, 0, 0, 1, 1, 1]) (.b (.l [0, 1, 0, 1, 0, 0, 0, 1, 1, 1, 1]) (.l [0, 0, 1, 0, 0, 0, 0, 1, 0, 1, 1]))))) rfl x0 x1 x2 (x1 - x0) (x1 - x0 - 1) (x1 - x0 - 1 - x2) (x1 - x0 - 1 - (x1 - x0 - 1 - x2)) (aS ((x1 - x0)) 1) (aS ((x1 - x0 - 1)) x2) (aS ((x1 - x0 - 1)) ((x1 - x0 - 1 - x2))) h0
theorem ar342 {x0 x1 : Nat} (h0 : (x0 - x1) % 2 = 0) (h1 : x1 < x0) : 0 < (x0 - x1) / 2 :=
  ar 5 0 (.i (.S (.v 0) (.v 1) (.v 2)) (.i (.K 2 (.v 2) (.v 3) (.v 4)) (.i (.e (.v 4) (.n 0)) (.i (.t (.v 1) (.v 0)) (.t (.n 0) (.v 3)))))) (.b (.l [0, 1, 0, 2, 1, 1, 0, 0, 0, 1]) (.l [0, 0, 1, 0, 1])) rfl x0 x1 (x0 - x1) ((x0 - x1) / 2) ((x0 - x1) % 2) (aS x0 x1) (aK ((x0 - x1)) 2 rfl) h0 h1
theorem ar343 {x0 x1 x2 : Nat} (h0 : x0 < (x1 - x2) / 2) : x0 < x1 - x2 :=
  ar 6 0 (.i (.K 2 (.v 3) (.v 4) (.v 5)) (.i (.t (.v 0) (.v 4)) (.t (.v 0) (.v 3)))) (.l [1, 2, 0, 1]) rfl x0 x1 x2 (x1 - x2) ((x1 - x2) / 2) ((x1 - x2) % 2) (aK ((x1 - x2)) 2 rfl) h0
theorem ar344 {x0 x1 x2 : Nat} (h0 : x2 < (x0 - x1) / 2) : x0 - x1 - 1 - x2 < x0 - x1 :=
  ar 8 0 (.i (.S (.v 3) (.n 1) (.v 4)) (.i (.S (.v 4) (.v 2) (.v 5)) (.i (.K 2 (.v 3) (.v 6) (.v 7)) (.i (.t (.v 2) (.v 6)) (.t (.v 5) (.v 3)))))) (.b (.b (.l [1, 0, 0, 1, 0, 0, 1]) (.l [1, 0, 0, 1, 0, 0, 1, 2, 0, 1])) (.l [1, 0, 0, 1, 2, 0, 1])) rfl x0 x1 x2 (x0 - x1) (x0 - x1 - 1) (x0 - x1 - 1 - x2) ((x0 - x1) / 2) ((x0 - x1) % 2) (aS ((x0 - x1)) 1) (aS ((x0 - x1 - 1)) x2) (aK ((x0 - x1)) 2 rfl) h0
theorem ar345 {x0 x1 x2 : Nat} (h0 : x2 < (x1 - x0) / 2) : x0 + (x1 - x0 - 1 - x2) = x1 - 1 - x2 :=
  ar 10 0 (.i (.S (.v 1) (.v 0) (.v 3)) (.i (.S (.v 3) (.n 1) (.v 4)) (.i (.S (.v 4) (.v 2) (.v 5)) (.i (.S (.v 1) (.n 1) (.v 6)) (.i (.S (.v 6) (.v 2) (.v 7)) (.i (.K 2 (.v 3) (.v 8) (.v 9)) (.i (.t (.v 2) (.v 8)) (.e (.a (.v 0) (.v 5)) (.v 7))))))))) (.b (.b (.b (.b (.b (.b (.l [1, 0, 0, 1, 0, 0, 1, 0, 0, 0, 1, 0, 0, 1, 0, 1]) (.l [1, 0, 0, 0, 0, 1])) (.l [0, 0, 1, 0, 0, 0, 0, 0, 0, 0, 0, 0, 0, 2, 0, 1])) (.b (.l [0, 2, 1, 0, 0, 2, 0, 0, 0, 0, 0, 0, 0, 2, 0, 1]) (.l [0, 2, 1, 0, 0, 2, 0, 0, 0, 0, 0, 0, 0, 2, 0, 1]))) (.s (.b (.b (.l [1, 0, 0, 0, 0, 0, 0, 0, 1, 0, 0, 0, 0, 2, 0, 1]) (.l [1, 0, 0, 0, 0, 1])) (.l [0, 0, 1, 0, 0, 0, 0, 0, 0, 0, 2, 0, 1])))) (.b (.s (.b (.b (.l [1, 0, 0, 0, 0, 0, 0, 2, 1, 0, 0, 2, 0, 2, 0, 1]) (.l [1, 0, 0, 0, 0, 1])) (.l [0, 0, 1, 0, 2, 2, 0, 0, 2, 0, 2, 0, 1]))) (.s (.b (.b (.l [1, 0, 0, 0, 0, 0, 0, 2, 1, 0, 0, 2, 0, 2, 0, 1]) (.l [1, 0, 0, 0, 0, 1])) (.l [0, 0, 1, 0, 2, 0, 0, 0, 2, 0, 2, 0, 1]))))) (.b (.b (.b (.b (.b (.l [0, 1, 0, 0, 1, 0, 0, 1, 0, 1, 0, 0, 1, 0, 0, 1]) (.l [1, 0, 0, 0, 0, 1])) (.l [0, 0, 1, 0, 0, 0, 0, 0, 0, 0, 0, 0, 0, 2, 0, 1])) (.b (.l [0, 2, 1, 0, 0, 2, 0, 0, 0, 0, 0, 0, 0, 2, 0, 1]) (.l [0, 2, 1, 0, 0, 2, 0, 0, 0, 0, 0, 0, 0, 2, 0, 1]))) (.l [1, 0, 0, 1, 0, 0, 1])) (.l [1, 0, 0, 1]))) rfl x0 x1 x2 (x1 - x0) (x1 - x0 - 1) (x1 - x0 - 1 - x2) (x1 - 1) (x1 - 1 - x2) ((x1 - x0) / 2) ((x1 - x0) % 2) (aS x1 x0) (aS ((x1 - x0)) 1) (aS ((x1 - x0 - 1)) x2) (aS x1 1) (aS ((x1 - 1)) x2) (aK ((x1 - x0)) 2 rfl) h0
theorem ar346 : (0 : Nat) ≤ 0 + 1 := ar 0 0 (.l (.n 0) (.s (.n 0))) (.l [1]) rfl
theorem ar347 : ∀ {x0 x1 : Nat} (h : x0 + 1 + 1 ≤ x1), x0 + 1 ≤ x1 := @ar 2 0 (.i (.l (.s (.s (.v 0))) (.v 1)) (.l (.s (.v 0)) (.v 1))) (.l [1, 1]) rfl
theorem ar348 {x0 : Nat} : x0 + 2 - 0 ≤ x0 + 2 :=
  ar 2 0 (.i (.S (.a (.v 0) (.n 2)) (.n 0) (.v 1)) (.l (.v 1) (.a (.v 0) (.n 2)))) (.b (.l [1, 0, 0, 1]) (.l [0, 0, 1])) rfl x0 (x0 + 2 - 0) (aS ((x0 + 2)) 0)
theorem ar349 : ∀ {x0 x1 : Nat} (h : x0 ≤ x1 + 1), x0 ≤ x1 + 2 := @ar 2 0 (.i (.l (.v 0) (.s (.v 1))) (.l (.v 0) (.a (.v 1) (.n 2)))) (.l [1, 1]) rfl
theorem ar350 : ∀ {x0 : Nat} (h : x0 + 2 ≤ x0 + 1), False := @ar 1 0 (.i (.l (.a (.v 0) (.n 2)) (.s (.v 0))) .f) (.l [0, 1]) rfl
theorem ar351 : ∀ {x0 x1 : Nat} (h : x0 < x1 + 2), x0 ≤ x1 + 1 := @ar 2 0 (.i (.t (.v 0) (.a (.v 1) (.n 2))) (.l (.v 0) (.s (.v 1)))) (.l [1, 1]) rfl
theorem ar352 : ∀ {x0 x1 x2 : Nat} (h : x0 < x1) (h : x1 ≤ x2) (h : x2 = x0), False := @ar 3 0 (.i (.t (.v 0) (.v 1)) (.i (.l (.v 1) (.v 2)) (.i (.e (.v 2) (.v 0)) .f))) (.l [0, 1, 0, 1, 1]) rfl
theorem ar353 : ∀ {x0 x1 : Nat} (h : x0 ≤ x1 + 1), x0 < x1 + 1 + 1 := @ar 2 0 (.i (.l (.v 0) (.s (.v 1))) (.t (.v 0) (.s (.s (.v 1))))) (.l [1, 1]) rfl
theorem ar354 : ∀ {x0 x1 : Nat} (h : x0 ≤ x1 + 1), x0 ≤ x1 + 1 + 1 := @ar 2 0 (.i (.l (.v 0) (.s (.v 1))) (.l (.v 0) (.s (.s (.v 1))))) (.l [1, 1]) rfl
theorem ar355 : ∀ {x0 : Nat}, x0 + 2 ≤ x0 + 1 + 1 := @ar 1 0 (.l (.a (.v 0) (.n 2)) (.s (.s (.v 0)))) (.l [1]) rfl
theorem ar356 : ∀ {x0 x1 : Nat} (h : x0 ≤ x1 + 1 + 1) (h : x1 + 2 ≤ x0), x0 = x1 + 2 := @ar 2 0 (.i (.l (.v 0) (.s (.s (.v 1)))) (.i (.l (.a (.v 1) (.n 2)) (.v 0)) (.e (.v 0) (.a (.v 1) (.n 2))))) (.b (.l [1, 0, 1]) (.l [1, 1])) rfl
theorem ar357 : ∀ {x0 x1 x2 : Nat} (h : x0 ≤ x2 + 1) (h : x1 = x2 + 2), x0 < x1 := @ar 3 0 (.i (.l (.v 0) (.s (.v 2))) (.i (.e (.v 1) (.a (.v 2) (.n 2))) (.t (.v 0) (.v 1)))) (.l [1, 0, 1, 1]) rfl
theorem ar358 : ∀ {x0 x1 : Nat} (h : x0 = x1 + 2), x0 ≤ x1 + 2 := @ar 2 0 (.i (.e (.v 0) (.a (.v 1) (.n 2))) (.l (.v 0) (.a (.v 1) (.n 2)))) (.l [1, 1]) rfl
theorem ar359 {x0 : Nat} (h0 : 1 ≤ x0) : x0 - 1 + 1 ≤ x0 :=
  ar 2 0 (.i (.S (.v 0) (.n 1) (.v 1)) (.i (.l (.n 1) (.v 0)) (.l (.s (.v 1)) (.v 0)))) (.b (.l [1, 0, 0, 1]) (.l [1, 0, 0, 1, 1])) rfl x0 (x0 - 1) (aS x0 1) h0
theorem ar360 {x0 x1 : Nat} (h0 : x0 = 0) : x0 ≤ x1 - 1 + 1 :=
  ar 3 0 (.i (.e (.v 0) (.n 0)) (.l (.v 0) (.s (.v 2)))) (.l [1, 1]) rfl x0 x1 (x1 - 1) h0
theorem ar361 {x0 x1 : Nat} (h0 : x0 ≤ x1) : x0 ≤ x1 - 1 + 1 :=
  ar 3 0 (.i (.S (.v 1) (.n 1) (.v 2)) (.i (.l (.v 0) (.v 1)) (.l (.v 0) (.s (.v 2))))) (.b (.l [0, 1, 0, 1, 1]) (.l [0, 1, 1, 1, 1])) rfl x0 x1 (x1 - 1) (aS x1 1) h0
theorem ar362 {x0 x1 x2 : Nat} (h0 : x1 ≤ x0) (h1 : x2 < x1) : x0 - x1 < x0 - x2 :=
  ar 5 0 (.i (.S (.v 0) (.v 1) (.v 3)) (.i (.S (.v 0) (.v 2) (.v 4)) (.i (.l (.v 1) (.v 0)) (.i (.t (.v 2) (.v 1)) (.t (.v 3) (.v 4)))))) (.b (.b (.l [1, 0, 0, 0, 1, 0, 1, 1]) (.l [1, 0, 0, 0, 1, 0, 1, 1, 1])) (.l [0, 0, 1, 0, 1, 1])) rfl x0 x1 x2 (x0 - x1) (x0 - x2) (aS x0 x1) (aS x0 x2) h0 h1
theorem ar363 {x0 x1 x2 x3 : Nat} (h0 : x2 < x0 - x3 - (x0 - x1)) : x0 - x1 + x2 < x0 :=
  ar 7 0 (.i (.S (.v 0) (.v 3) (.v 5)) (.i (.S (.v 5) (.v 4) (.v 6)) (.i (.t (.v 2) (.v 6)) (.t (.a (.v 4) (.v 2)) (.v 0))))) (.b (.b (.l [1, 0, 0, 1, 0, 0, 1, 1]) (.l [1, 0, 0, 1, 0, 0, 1, 1])) (.l [1, 0, 0, 0, 1])) rfl x0 x1 x2 x3 (x0 - x1) (x0 - x3) (x0 - x3 - (x0 - x1)) (aS x0 x3) (aS ((x0 - x3)) ((x0 - x1))) h0
theorem ar364 {x0 x1 x2 x3 : Nat} (h0 : x1 < x3) (h1 : x3 ≤ x0) : x0 - x1 - 1 - x2 < x0 :=
  ar 7 0 (.i (.S (.v 0) (.v 1) (.v 4)) (.i (.S (.v 4) (.n 1) (.v 5)) (.i (.S (.v 5) (.v 2) (.v 6)) (.i (.t (.v 1) (.v 3)) (.i (.l (.v 3) (.v 0)) (.t (.v 6) (.v 0))))))) (.b (.b (.b (.l [1, 0, 0, 1, 0, 0, 1, 0, 0, 1]) (.l [1, 0, 0, 0, 0, 1])) (.l [1, 0, 0, 1, 0, 0, 1, 1, 1])) (.l [1, 0, 0, 1, 1, 1])) rfl x0 x1 x2 x3 (x0 - x1) (x0 - x1 - 1) (x0 - x1 - 1 - x2) (aS x0 x1) (aS ((x0 - x1)) 1) (aS ((x0 - x1 - 1)) x2) h0 h1
theorem ar365 {x0 x1 x2 x3 : Nat} (h0 : x0 < x3 - x2 - (x3 - x1)) : x0 < x1 - x2 :=
  ar 8 0 (.i (.S (.v 1) (.v 2) (.v 4)) (.i (.S (.v 3) (.v 2) (.v 5)) (.i (.S (.v 3) (.v 1) (.v 6)) (.i (.S (.v 5) (.v 6) (.v 7)) (.i (.t (.v 0) (.v 7)) (.t (.v 0) (.v 4))))))) (.b (.b (.b (.b (.l [0, 1, 0, 1, 0, 0, 0, 1, 0, 1, 0, 0, 1, 1]) (.l [0, 1, 1, 1, 0, 0, 0, 1, 0, 1, 0, 0, 1, 1])) (.l [1, 0, 0, 0, 1, 1, 1, 0, 0, 0, 1])) (.b (.b (.l [0, 1, 0, 1, 0, 0, 0, 1, 1, 1, 0, 0, 1, 1]) (.l [0, 1, 1, 1, 0, 0, 0, 1, 1, 1, 0, 0, 1, 1])) (.l [1, 0, 0, 0, 1, 0, 1, 0, 0, 0, 1]))) (.l [1, 0, 0, 0, 1])) rfl x0 x1 x2 x3 (x1 - x2) (x3 - x2) (x3 - x1) (x3 - x2 - (x3 - x1)) (aS x1 x2) (aS x3 x2) (aS x3 x1) (aS ((x3 - x2)) ((x3 - x1))) h0
theorem ar366 {x0 x1 x2 : Nat} (h0 : x1 ≤ x0) : x0 - 1 - (x0 - x1 + x2) = x1 - 1 - x2 :=
  ar 8 0 (.i (.S (.v 0) (.n 1) (.v 3)) (.i (.S (.v 0) (.v 1) (.v 4)) (.i (.S (.v 3) (.a (.v 4) (.v 2)) (.v 5)) (.i (.S (.v 1) (.n 1) (.v 6)) (.i (.S (.v 6) (.v 2) (.v 7)) (.i (.l (.v 1) (.v 0)) (.e (.v 5) (.v 7)))))))) (.b (.b (.b (.b (.b (.b (.l [1, 0, 0, 0, 1, 0, 1, 0, 0, 0, 1, 0, 0, 1, 0, 1]) (.l [1, 0, 0, 0, 1, 1, 1, 0, 0, 0, 1, 1, 0, 1, 0, 1])) (.b (.l [1, 0, 0, 0, 1, 1, 1, 0, 0, 0, 1, 0, 0, 1, 0, 1]) (.l [1, 0, 0, 0, 1, 0, 1, 0, 0, 0, 1, 1, 0, 1, 0, 1]))) (.l [1, 0, 0, 0, 0, 0, 0, 1, 1, 1])) (.b (.b (.b (.l [1, 0, 0, 0, 1, 0, 1, 0, 0, 0, 1, 1, 0, 1, 0, 1]) (.l [1, 0, 0, 0, 1, 1, 1, 0, 0, 0, 1, 0, 0, 1, 0, 1])) (.b (.l [1, 0, 0, 0, 1, 1, 1, 0, 0, 0, 1, 1, 0, 1, 0, 1]) (.l [1, 0, 0, 0, 1, 0, 1, 0, 0, 0, 1, 0, 0, 1, 0, 1]))) (.l [1, 0, 0, 0, 0, 0, 0, 1, 1, 1]))) (.b (.b (.b (.b (.l [1, 0, 0, 0, 1, 0, 1, 0, 0, 0, 1, 0, 0, 1, 1, 1]) (.l [1, 0, 0, 0, 1, 1, 1, 0, 0, 0, 1, 1, 0, 1, 1, 1])) (.b (.l [1, 0, 0, 0, 1, 1, 1, 0, 0, 0, 1, 0, 0, 1, 1, 1]) (.l [1, 0, 0, 0, 1, 0, 1, 0, 0, 0, 1, 1, 0, 1, 1, 1]))) (.l [1, 0, 0, 0, 0, 0, 0, 1, 0, 1])) (.b (.b (.b (.l [1, 0, 0, 0, 1, 0, 1, 0, 0, 0, 1, 1, 0, 1, 1, 1]) (.l [1, 0, 0, 0, 1, 1, 1, 0, 0, 0, 1, 0, 0, 1, 1, 1])) (.b (.l [1, 0, 0, 0, 1, 1, 1, 0, 0, 0, 1, 1, 0, 1, 1, 1]) (.l [1, 0, 0, 0, 1, 0, 1, 0, 0, 0, 1, 0, 0, 1, 1, 1]))) (.l [1, 0, 0, 0, 0, 0, 0, 1, 0, 1])))) (.b (.b (.b (.b (.b (.l [0, 1, 0, 1, 0, 0, 0, 1, 0, 1, 0, 0, 1, 0, 0, 1]) (.l [0, 1, 1, 1, 0, 0, 0, 1, 0, 1, 0, 0, 1, 0, 0, 1])) (.b (.l [0, 1, 0, 1, 0, 0, 0, 1, 0, 1, 0, 0, 1, 0, 0, 1, 1]) (.l [0, 1, 1, 1, 0, 0, 0, 1, 0, 1, 0, 0, 1, 0, 0, 1, 1]))) (.b (.b (.l [0, 1, 0, 1, 0, 0, 0, 1, 1, 1, 0, 0, 1, 0, 0, 1]) (.l [0, 1, 1, 1, 0, 0, 0, 1, 1, 1, 0, 0, 1, 0, 0, 1])) (.b (.l [0, 1, 0, 1, 0, 0, 0, 1, 1, 1, 0, 0, 1, 0, 0, 1, 1]) (.l [0, 1, 1, 1, 0, 0, 0, 1, 1, 1, 0, 0, 1, 0, 0, 1, 1])))) (.l [1, 0, 0, 1, 0, 0, 1])) (.l [1, 0, 0, 1]))) rfl x0 x1 x2 (x0 - 1) (x0 - x1) (x0 - 1 - (x0 - x1 + x2)) (x1 - 1) (x1 - 1 - x2) (aS x0 1) (aS x0 x1) (aS ((x0 - 1)) ((x0 - x1 + x2))) (aS x1 1) (aS ((x1 - 1)) x2) h0
theorem ar367 {x0 x1 x2 x3 : Nat} (h0 : x2 < x0 - x1 - (x0 - x3)) : x0 - 1 - (x0 - x1 - 1 - x2) = x1 + x2 :=
  ar 11 0 (.i (.S (.v 0) (.n 1) (.v 4)) (.i (.S (.v 0) (.v 1) (.v 5)) (.i (.S (.v 5) (.n 1) (.v 6)) (.i (.S (.v 6) (.v 2) (.v 7)) (.i (.S (.v 4) (.v 7) (.v 8)) (.i (.S (.v 5) (.v 9) (.v 10)) (.i (.t (.v 2) (.v 10)) (.e (.v 8) (.a (.v 1) (.v 2)))))))))) (.b (.b (.b (.b (.b (.b (.b (.l [1, 0, 0, 0, 1, 0, 0, 1, 0, 0, 1, 0, 1, 0, 0, 0, 0, 0, 1]) (.l [1, 0, 0, 0, 0, 0, 0, 1, 1, 0, 1, 0, 1, 0, 0, 0, 0, 0, 1])) (.l [1, 0, 0, 0, 0, 1])) (.b (.b (.l [1, 0, 0, 0, 1, 0, 0, 1, 1, 0, 1, 0, 1, 0, 0, 0, 0, 0, 1]) (.l [1, 0, 0, 0, 0, 0, 0, 1, 0, 0, 1, 0, 1, 0, 0, 0, 0, 0, 1])) (.l [1, 0, 0, 0, 0, 0, 0, 0, 0, 0, 0, 0, 1, 0, 0, 0, 1]))) (.b (.b (.b (.l [1, 0, 0, 0, 1, 0, 0, 1, 0, 0, 1, 1, 1, 0, 0, 0, 0, 0, 1]) (.l [1, 0, 0, 0, 0, 0, 0, 1, 1, 0, 1, 1, 1, 0, 0, 0, 0, 0, 1])) (.l [1, 0, 0, 0, 0, 1])) (.b (.b (.l [1, 0, 0, 0, 1, 0, 0, 1, 1, 0, 1, 1, 1, 0, 0, 0, 0, 0, 1]) (.l [1, 0, 0, 0, 0, 0, 0, 1, 0, 0, 1, 1, 1, 0, 0, 0, 0, 0, 1])) (.l [1, 0, 0, 0, 1, 0, 0, 0, 1, 0, 0, 0, 1, 0, 0, 0, 1])))) (.l [1, 0, 0, 0, 0, 0, 1])) (.l [1, 0, 0, 0, 1])) (.b (.b (.b (.b (.b (.b (.l [0, 1, 0, 1, 0, 0, 1, 0, 0, 1, 0, 0, 0, 1, 0, 0, 0, 0, 1]) (.l [0, 1, 1, 1, 0, 0, 1, 0, 0, 1, 0, 0, 0, 1, 0, 0, 0, 0, 1])) (.l [1, 0, 0, 0, 0, 1])) (.b (.b (.l [0, 1, 0, 1, 0, 0, 1, 0, 0, 1, 0, 0, 0, 1, 0, 1, 0, 0, 1, 1]) (.l [0, 0, 1, 1, 0, 0, 0, 0, 0, 0, 0, 0, 0, 1, 1, 1, 0, 0, 1, 1])) (.l [1, 0, 0, 0, 0, 0, 0, 0, 0, 0, 0, 0, 1, 0, 0, 0, 1]))) (.s (.b (.b (.l [0, 1, 0, 1, 0, 0, 1, 0, 0, 0, 1, 0, 1, 0, 0, 1, 1]) (.l [0, 1, 1, 1, 0, 0, 1, 0, 0, 0, 1, 0, 1, 0, 0, 1, 1])) (.l [1, 0, 0, 0, 0, 0, 0, 0, 0, 1, 0, 0, 0, 1])))) (.b (.b (.b (.b (.l [0, 1, 0, 1, 0, 0, 1, 0, 0, 1, 0, 0, 0, 1, 1, 0, 0, 0, 1]) (.l [0, 0, 1, 1, 0, 0, 1, 0, 0, 0, 0, 1, 0, 1, 0, 0, 0, 0, 1])) (.l [1, 0, 0, 0, 0, 1])) (.b (.b (.l [0, 1, 0, 1, 0, 0, 1, 0, 0, 1, 0, 0, 0, 1, 1, 1, 0, 0, 1, 1]) (.l [0, 0, 1, 1, 0, 0, 0, 0, 0, 0, 0, 0, 0, 1, 0, 1, 0, 0, 1, 1])) (.l [1, 0, 0, 0, 0, 0, 0, 0, 0, 0, 0, 0, 1, 0, 0, 0, 1]))) (.s (.b (.b (.l [0, 1, 0, 1, 0, 0, 1, 0, 0, 0, 1, 1, 1, 0, 0, 1, 1]) (.l [0, 0, 1, 1, 0, 0, 0, 0, 0, 0, 1, 0, 1, 0, 0, 1, 1])) (.l [1, 0, 0, 0, 0, 0, 0, 0, 0, 1, 0, 0, 0, 1]))))) (.l [1, 0, 0, 0, 1]))) rfl x0 x1 x2 x3 (x0 - 1) (x0 - x1) (x0 - x1 - 1) (x0 - x1 - 1 - x2) (x0 - 1 - (x0 - x1 - 1 - x2)) (x0 - x3) (x0 - x1 - (x0 - x3)) (aS x0 1) (aS x0 x1) (aS ((x0 - x1)) 1) (aS ((x0 - x1 - 1)) x2) (aS ((x0 - 1)) ((x0 - x1 - 1 - x2))) (aS ((x0 - x1)) ((x0 - x3))) h0
theorem ar368 {x0 x1 : Nat} (h0 : x1 ≤ x0) : x0 - (x0 - x1) = x1 :=
  ar 4 0 (.i (.S (.v 0) (.v 1) (.v 2)) (.i (.S (.v 0) (.v 2) (.v 3)) (.i (.l (.v 1) (.v 0)) (.e (.v 3) (.v 1))))) (.b (.b (.b (.l [0, 1, 0, 1, 0, 0, 1]) (.l [0, 1, 1, 1, 0, 0, 1])) (.l [1, 0, 0, 1])) (.b (.b (.l [1, 0, 0, 0, 1, 0, 1]) (.l [1, 0, 0, 0, 1, 0, 1, 1])) (.b (.l [1, 0, 0, 0, 1, 1, 1]) (.l [1, 0, 0, 0, 1, 1, 1, 1])))) rfl x0 x1 (x0 - x1) (x0 - (x0 - x1)) (aS x0 x1) (aS x0 ((x0 - x1))) h0
theorem ar369 : ∀ {x0 : Nat}, 0 ≤ x0 := @ar 1 0 (.l (.n 0) (.v 0)) (.l [1]) rfl
theorem ar370 : ∀ {x0 : Nat} (h : 1 ≤ x0), 0 < x0 := @ar 1 0 (.i (.l (.n 1) (.v 0)) (.t (.n 0) (.v 0))) (.l [1, 1]) rfl
theorem ar371 : ∀ {x0 x1 : Nat} (h : x0 ≤ x1), x0 = x1 ∨ x0 < x1 := @ar 2 0 (.i (.l (.v 0) (.v 1)) (.o (.e (.v 0) (.v 1)) (.t (.v 0) (.v 1)))) (.b (.l [1, 0, 1]) (.l [1, 1])) rfl
theorem ar372 : ∀ {x0 x1 x2 x3 x4 : Nat} (h : x0 = x2) (h : x2 < x3) (h : x4 = x3) (h : x4 ≤ x1), x0 < x1 := @ar 5 0 (.i (.e (.v 0) (.v 2)) (.i (.t (.v 2) (.v 3)) (.i (.e (.v 4) (.v 3)) (.i (.l (.v 4) (.v 1)) (.t (.v 0) (.v 1)))))) (.l [1, 1, 0, 1, 1, 1]) rfl
theorem ar373 : ∀ {x0 x1 x2 x3 : Nat} (h : x0 < x2) (h : x3 = x2) (h : x3 ≤ x1), x0 ≤ x1 := @ar 4 0 (.i (.t (.v 0) (.v 2)) (.i (.e (.v 3) (.v 2)) (.i (.l (.v 3) (.v 1)) (.l (.v 0) (.v 1))))) (.l [1, 1, 0, 1, 1]) rfl
theorem ar374 : ∀ {x0 x1 : Nat} (h : x1 = x0), x0 ≤ x1 := @ar 2 0 (.i (.e (.v 1) (.v 0)) (.l (.v 0) (.v 1))) (.l [1, 0, 1]) rfl
theorem ar375 : ∀ {x0 x1 x2 : Nat} (h : x0 < x2) (h : x2 = x1), x0 < x1 := @ar 3 0 (.i (.t (.v 0) (.v 2)) (.i (.e (.v 2) (.v 1)) (.t (.v 0) (.v 1)))) (.l [1, 1, 0, 1]) rfl
theorem ar376 : ∀ {x0 x1 x2 x3 x4 : Nat} (h : 0 < x3) (h : x4 = 0) (h : x4 = x3), x0 = 0 ∨ x0 + (x1 + 1) + 1 ≤ x2 := @ar 5 0 (.i (.t (.n 0) (.v 3)) (.i (.e (.v 4) (.n 0)) (.i (.e (.v 4) (.v 3)) (.o (.e (.v 0) (.n 0)) (.l (.s (.a (.v 0) (.s (.v 1)))) (.v 2)))))) (.l [0, 0, 1, 1, 0, 1]) rfl
theorem ar377 : ∀ {x0 x1 x2 x3 x4 : Nat} (h : x0 < x3) (h : x4 + x1 + 1 ≤ x2) (h : x4 = x3), x0 + (x1 + 1) + 1 ≤ x2 := @ar 5 0 (.i (.t (.v 0) (.v 3)) (.i (.l (.s (.a (.v 4) (.v 1))) (.v 2)) (.i (.e (.v 4) (.v 3)) (.l (.s (.a (.v 0) (.s (.v 1)))) (.v 2))))) (.l [1, 0, 1, 1, 1]) rfl
theorem ar378 : ∀ {x0 x1 : Nat} (h : x0 = x1) (h : ¬ (0 < x1)), x0 = 0 := @ar 2 0 (.i (.e (.v 0) (.v 1)) (.i (.n (.t (.n 0) (.v 1))) (.e (.v 0) (.n 0)))) (.b (.l [1, 1, 1]) (.l [1])) rfl
theorem ar379 : ∀ {x0 : Nat} (h : 0 < x0), ¬ (x0 = 0) := @ar 1 0 (.i (.t (.n 0) (.v 0)) (.n (.e (.v 0) (.n 0)))) (.l [1, 0, 1]) rfl
theorem ar380 : ∀ {x0 x1 : Nat} (h : x0 < x1) (h : x1 = 0), False := @ar 2 0 (.i (.t (.v 0) (.v 1)) (.i (.e (.v 1) (.n 0)) .f)) (.l [0, 1, 0, 1]) rfl
theorem ar381 : ∀ {x0 x1 : Nat} (h : x0 + x1 + 1 ≤ x1), False := @ar 2 0 (.i (.l (.s (.a (.v 0) (.v 1))) (.v 1)) .f) (.l [0, 1]) rfl
theorem ar382 {x0 x1 : Nat} : x0 - x1 + (x0 - x1 + 1) = 2 * (x0 - x1) + 1 :=
  ar 3 0 (.e (.a (.v 2) (.s (.v 2))) (.s (.m 2 (.v 2)))) (.b (.l [1]) (.l [1])) rfl x0 x1 (x0 - x1)
theorem ar383 {x0 x1 : Nat} (h0 : x0 ≤ x1) : min x0 x1 + (min x0 x1 + 1) = 2 * x0 + 1 :=
  ar 3 0 (.i (.N (.v 0) (.v 1) (.v 2)) (.i (.l (.v 0) (.v 1)) (.e (.a (.v 2) (.s (.v 2))) (.s (.m 2 (.v 0)))))) (.b (.b (.l [2, 0, 0, 1]) (.l [2, 0, 2, 1])) (.b (.l [0, 2, 0, 1]) (.l [0, 2, 0, 1, 2]))) rfl x0 x1 (min x0 x1) (aN x0 x1) h0
theorem ar384 {x0 x1 : Nat} : 1 ≤ 2 * (x0 - x1) + 1 :=
  ar 3 0 (.l (.n 1) (.s (.m 2 (.v 2)))) (.l [1]) rfl x0 x1 (x0 - x1)
theorem ar385 {x0 x1 x2 : Nat} (h0 : x0 < x2) (h1 : x1 ≤ x2 - x0) : x0 + x1 ≤ x2 :=
  ar 4 0 (.i (.S (.v 2) (.v 0) (.v 3)) (.i (.t (.v 0) (.v 2)) (.i (.l (.v 1) (.v 3)) (.l (.a (.v 0) (.v 1)) (.v 2))))) (.b (.l [1, 0, 0, 1, 1]) (.l [0, 0, 1, 0, 0, 1])) rfl x0 x1 x2 (x2 - x0) (aS x2 x0) h0 h1
theorem ar386 {x0 x1 x2 : Nat} (h0 : x0 < x2 + x1 - x2) : x0 < x1 :=
  ar 4 0 (.i (.S (.a (.v 2) (.v 1)) (.v 2) (.v 3)) (.i (.t (.v 0) (.v 3)) (.t (.v 0) (.v 1)))) (.b (.l [1, 0, 0, 1, 1]) (.l [1, 0, 0, 0, 1])) rfl x0 x1 x2 (x2 + x1 - x2) (aS ((x2 + x1)) x2) h0
theorem ar387 {x0 x1 x2 x3 : Nat} (h0 : 0 < x3) (h1 : x3 ≤ x0 - x1) : x0 - x1 - 1 - x2 < x0 - x1 :=
  ar 7 0 (.i (.S (.v 4) (.n 1) (.v 5)) (.i (.S (.v 5) (.v 2) (.v 6)) (.i (.t (.n 0) (.v 3)) (.i (.l (.v 3) (.v 4)) (.t (.v 6) (.v 4)))))) (.b (.b (.l [1, 0, 0, 1, 0, 0, 1]) (.l [1, 0, 0, 1, 0, 0, 1, 1, 1])) (.l [1, 0, 0, 1, 1, 1])) rfl x0 x1 x2 x3 (x0 - x1) (x0 - x1 - 1) (x0 - x1 - 1 - x2) (aS ((x0 - x1)) 1) (aS ((x0 - x1 - 1)) x2) h0 h1
theorem ar388 {x0 x1 x2 x3 : Nat} (h0 : x2 ≤ x0 - x1) (h1 : x3 < x1 + x2 - x1) : x0 - x1 - x2 + x3 < x0 - x1 :=
  ar 7 0 (.i (.S (.v 4) (.v 2) (.v 5)) (.i (.S (.a (.v 1) (.v 2)) (.v 1) (.v 6)) (.i (.l (.v 2) (.v 4)) (.i (.t (.v 3) (.v 6)) (.t (.a (.v 5) (.v 3)) (.v 4)))))) (.b (.b (.l [1, 0, 0, 1, 0, 0, 1, 1]) (.l [1, 0, 0, 1, 0, 0, 1, 1, 1])) (.l [1, 0, 0, 0, 1])) rfl x0 x1 x2 x3 (x0 - x1) (x0 - x1 - x2) (x1 + x2 - x1) (aS ((x0 - x1)) x2) (aS ((x1 + x2)) x1) h0 h1
theorem ar389 {x0 x1 x2 x3 : Nat} (h0 : x1 < x0 + x3 - x0) (h1 : x3 ≤ x2 - x0) : x0 + x1 = x2 - 1 - (x2 - x0 - 1 - x1) :=
  ar 10 0 (.i (.S (.v 2) (.n 1) (.v 4)) (.i (.S (.v 2) (.v 0) (.v 5)) (.i (.S (.v 5) (.n 1) (.v 6)) (.i (.S (.v 6) (.v 1) (.v 7)) (.i (.S (.v 4) (.v 7) (.v 8)) (.i (.S (.a (.v 0) (.v 3)) (.v 0) (.v 9)) (.i (.t (.v 1) (.v 9)) (.i (.l (.v 3) (.v 5)) (.e (.a (.v 0) (.v 1)) (.v 8)))))))))) (.b (.b (.b (.b (.b (.b (.b (.l [0, 1, 0, 1, 0, 0, 1, 0, 0, 1, 0, 0, 0, 1, 0, 0, 0, 0, 1]) (.l [0, 1, 1, 1, 0, 0, 1, 0, 0, 1, 0, 0, 0, 1, 0, 0, 0, 0, 1])) (.l [1, 0, 0, 0, 0, 1])) (.b (.b (.l [0, 1, 0, 1, 0, 0, 1, 0, 0, 1, 0, 0, 0, 1, 0, 1, 0, 0, 1, 1, 1]) (.l [0, 0, 1, 1, 0, 0, 0, 0, 0, 0, 0, 0, 0, 1, 1, 1, 0, 0, 1, 1, 1])) (.l [1, 0, 0, 0, 0, 0, 0, 0, 0, 0, 0, 0, 1, 0, 0, 0, 1, 1]))) (.s (.b (.b (.l [0, 1, 0, 1, 0, 0, 1, 0, 0, 0, 1, 0, 1, 0, 0, 1, 1, 1]) (.l [0, 1, 1, 1, 0, 0, 1, 0, 0, 0, 1, 0, 1, 0, 0, 1, 1, 1])) (.l [1, 0, 0, 0, 0, 0, 0, 0, 0, 1, 0, 0, 0, 1, 1])))) (.b (.b (.b (.b (.l [0, 1, 0, 1, 0, 0, 1, 0, 0, 1, 0, 0, 0, 1, 1, 0, 0, 0, 1]) (.l [0, 0, 1, 1, 0, 0, 1, 0, 0, 0, 0, 1, 0, 1, 0, 0, 0, 0, 1])) (.l [1, 0, 0, 0, 0, 1])) (.b (.b (.l [0, 1, 0, 1, 0, 0, 1, 0, 0, 1, 0, 0, 0, 1, 1, 1, 0, 0, 1, 1, 1]) (.l [0, 0, 1, 1, 0, 0, 0, 0, 0, 0, 0, 0, 0, 1, 0, 1, 0, 0, 1, 1, 1])) (.l [1, 0, 0, 0, 0, 0, 0, 0, 0, 0, 0, 0, 1, 0, 0, 0, 1, 1]))) (.s (.b (.b (.l [0, 1, 0, 1, 0, 0, 1, 0, 0, 0, 1, 1, 1, 0, 0, 1, 1, 1]) (.l [0, 0, 1, 1, 0, 0, 0, 0, 0, 0, 1, 0, 1, 0, 0, 1, 1, 1])) (.l [1, 0, 0, 0, 0, 0, 0, 0, 0, 1, 0, 0, 0, 1, 1]))))) (.l [1, 0, 0, 0, 0, 1])) (.b (.b (.b (.b (.b (.b (.l [1, 0, 0, 0, 1, 0, 0, 1, 0, 0, 1, 0, 1, 0, 0, 0, 0, 0, 1]) (.l [1, 0, 0, 0, 0, 0, 0, 1, 1, 0, 1, 0, 1, 0, 0, 0, 0, 0, 1])) (.l [1, 0, 0, 0, 0, 1])) (.b (.b (.l [1, 0, 0, 0, 1, 0, 0, 1, 1, 0, 1, 0, 1, 0, 0, 0, 0, 0, 1]) (.l [1, 0, 0, 0, 0, 0, 0, 1, 0, 0, 1, 0, 1, 0, 0, 0, 0, 0, 1])) (.l [1, 0, 0, 0, 0, 0, 0, 0, 0, 0, 0, 0, 1, 0, 0, 0, 1, 1]))) (.b (.b (.b (.l [1, 0, 0, 0, 1, 0, 0, 1, 0, 0, 1, 1, 1, 0, 0, 0, 0, 0, 1]) (.l [1, 0, 0, 0, 0, 0, 0, 1, 1, 0, 1, 1, 1, 0, 0, 0, 0, 0, 1])) (.l [1, 0, 0, 0, 0, 1])) (.b (.b (.l [1, 0, 0, 0, 1, 0, 0, 1, 1, 0, 1, 1, 1, 0, 0, 0, 0, 0, 1]) (.l [1, 0, 0, 0, 0, 0, 0, 1, 0, 0, 1, 1, 1, 0, 0, 0, 0, 0, 1])) (.l [1, 0, 0, 0, 1, 0, 0, 0, 1, 0, 0, 0, 1, 0, 0, 0, 1, 1])))) (.l [1, 0, 0, 0, 0, 0, 1])) (.l [1, 0, 0, 0, 0, 1]))) rfl x0 x1 x2 x3 (x2 - 1) (x2 - x0) (x2 - x0 - 1) (x2 - x0 - 1 - x1) (x2 - 1 - (x2 - x0 - 1 - x1)) (x0 + x3 - x0) (aS x2 1) (aS x2 x0) (aS ((x2 - x0)) 1) (aS ((x2 - x0 - 1)) x1) (aS ((x2 - 1)) ((x2 - x0 - 1 - x1))) (aS ((x0 + x3)) x0) h0 h1
theorem ar390 {x0 x1 x2 x3 : Nat} (h0 : 0 < x2) (h1 : x2 ≤ x0 - x1) : x0 - 1 - (x0 - x1 - x2 + x3) = x1 + x2 - 1 - x3 :=
  ar 10 0 (.i (.S (.v 0) (.n 1) (.v 4)) (.i (.S (.v 0) (.v 1) (.v 5)) (.i (.S (.v 5) (.v 2) (.v 6)) (.i (.S (.v 4) (.a (.v 6) (.v 3)) (.v 7)) (.i (.S (.a (.v 1) (.v 2)) (.n 1) (.v 8)) (.i (.S (.v 8) (.v 3) (.v 9)) (.i (.t (.n 0) (.v 2)) (.i (.l (.v 2) (.v 5)) (.e (.v 7) (.v 9)))))))))) (.b (.b (.b (.b (.b (.b (.b (.l [1, 0, 0, 0, 1, 0, 0, 1, 0, 1, 0, 0, 0, 1, 0, 0, 1, 0, 1]) (.l [1, 0, 0, 0, 0, 0, 0, 1, 1, 1, 0, 0, 0, 1, 1, 0, 1, 0, 1])) (.l [1, 0, 0, 0, 0, 1, 0, 0, 0, 0, 0, 0, 0, 0, 0, 0, 0, 1])) (.b (.b (.l [1, 0, 0, 0, 1, 0, 0, 1, 1, 1, 0, 0, 0, 1, 0, 0, 1, 0, 1]) (.l [1, 0, 0, 0, 0, 0, 0, 1, 0, 1, 0, 0, 0, 1, 1, 0, 1, 0, 1])) (.l [1, 0, 0, 0, 0, 0, 0, 0, 0, 0, 0, 0, 0, 0, 0, 0, 1, 1]))) (.l [1, 0, 0, 0, 0, 0, 0, 1, 1, 1])) (.b (.b (.b (.b (.l [1, 0, 0, 0, 1, 0, 0, 1, 0, 1, 0, 0, 0, 1, 1, 0, 1, 0, 1]) (.l [1, 0, 0, 0, 0, 0, 0, 1, 1, 1, 0, 0, 0, 1, 0, 0, 1, 0, 1])) (.l [1, 0, 0, 0, 0, 1, 0, 0, 0, 0, 0, 0, 0, 0, 0, 0, 0, 1])) (.b (.b (.l [1, 0, 0, 0, 1, 0, 0, 1, 1, 1, 0, 0, 0, 1, 1, 0, 1, 0, 1]) (.l [1, 0, 0, 0, 0, 0, 0, 1, 0, 1, 0, 0, 0, 1, 0, 0, 1, 0, 1])) (.l [1, 0, 0, 0, 0, 0, 0, 0, 0, 0, 0, 0, 0, 0, 0, 0, 1, 1]))) (.l [1, 0, 0, 0, 0, 0, 0, 1, 1, 1]))) (.b (.b (.b (.b (.b (.l [1, 0, 0, 0, 1, 0, 0, 1, 0, 1, 0, 0, 0, 1, 0, 0, 1, 1, 1]) (.l [1, 0, 0, 0, 0, 0, 0, 1, 1, 1, 0, 0, 0, 1, 1, 0, 1, 1, 1])) (.l [1, 0, 0, 0, 0, 1, 0, 0, 0, 0, 0, 0, 0, 0, 0, 0, 0, 1])) (.b (.b (.l [1, 0, 0, 0, 1, 0, 0, 1, 1, 1, 0, 0, 0, 1, 0, 0, 1, 1, 1]) (.l [1, 0, 0, 0, 0, 0, 0, 1, 0, 1, 0, 0, 0, 1, 1, 0, 1, 1, 1])) (.l [1, 0, 0, 0, 0, 0, 0, 0, 0, 0, 0, 0, 0, 0, 0, 0, 1, 1]))) (.l [1, 0, 0, 0, 0, 0, 0, 1, 0, 1])) (.b (.b (.b (.b (.l [1, 0, 0, 0, 1, 0, 0, 1, 0, 1, 0, 0, 0, 1, 1, 0, 1, 1, 1]) (.l [1, 0, 0, 0, 0, 0, 0, 1, 1, 1, 0, 0, 0, 1, 0, 0, 1, 1, 1])) (.l [1, 0, 0, 0, 0, 1, 0, 0, 0, 0, 0, 0, 0, 0, 0, 0, 0, 1])) (.b (.b (.l [1, 0, 0, 0, 1, 0, 0, 1, 1, 1, 0, 0, 0, 1, 1, 0, 1, 1, 1]) (.l [1, 0, 0, 0, 0, 0, 0, 1, 0, 1, 0, 0, 0, 1, 0, 0, 1, 1, 1])) (.l [1, 0, 0, 0, 0, 0, 0, 0, 0, 0, 0, 0, 0, 0, 0, 0, 1, 1]))) (.l [1, 0, 0, 0, 0, 0, 0, 1, 0, 1])))) (.b (.b (.b (.b (.b (.b (.l [0, 1, 0, 1, 0, 0, 1, 0, 0, 0, 1, 0, 1, 0, 0, 1, 0, 0, 1]) (.l [0, 1, 1, 1, 0, 0, 1, 0, 0, 0, 1, 0, 1, 0, 0, 1, 0, 0, 1])) (.l [1, 0, 0, 0, 0, 1, 0, 0, 0, 0, 0, 0, 0, 0, 0, 0, 0, 1])) (.b (.b (.l [0, 1, 0, 1, 0, 0, 1, 0, 0, 0, 1, 0, 1, 0, 0, 1, 0, 0, 1, 1]) (.l [0, 1, 1, 1, 0, 0, 1, 0, 0, 0, 1, 0, 1, 0, 0, 1, 0, 0, 1, 1])) (.l [1, 0, 0, 0, 0, 0, 0, 0, 0, 0, 0, 0, 0, 0, 0, 0, 1, 1]))) (.b (.b (.b (.l [0, 1, 0, 1, 0, 0, 1, 0, 0, 0, 1, 1, 1, 0, 0, 1, 0, 0, 1]) (.l [0, 1, 1, 1, 0, 0, 1, 0, 0, 0, 1, 1, 1, 0, 0, 1, 0, 0, 1])) (.l [1, 0, 0, 0, 0, 1, 0, 0, 0, 0, 0, 0, 0, 0, 0, 0, 0, 1])) (.b (.b (.l [0, 1, 0, 1, 0, 0, 1, 0, 0, 0, 1, 1, 1, 0, 0, 1, 0, 0, 1, 1]) (.l [0, 1, 1, 1, 0, 0, 1, 0, 0, 0, 1, 1, 1, 0, 0, 1, 0, 0, 1, 1])) (.l [1, 0, 0, 0, 0, 0, 0, 0, 0, 0, 0, 0, 0, 0, 0, 0, 1, 1])))) (.l [1, 0, 0, 1, 0, 0, 1])) (.l [1, 0, 0, 1]))) rfl x0 x1 x2 x3 (x0 - 1) (x0 - x1) (x0 - x1 - x2) (x0 - 1 - (x0 - x1 - x2 + x3)) (x1 + x2 - 1) (x1 + x2 - 1 - x3) (aS x0 1) (aS x0 x1) (aS ((x0 - x1)) x2) (aS ((x0 - 1)) ((x0 - x1 - x2 + x3))) (aS ((x1 + x2)) 1) (aS ((x1 + x2 - 1)) x3) h0 h1
theorem ar391 {x0 x1 x2 : Nat} (h0 : x2 + x0 ≤ x1) : x0 ≤ x1 - x2 :=
  ar 4 0 (.i (.S (.v 1) (.v 2) (.v 3)) (.i (.l (.a (.v 2) (.v 0)) (.v 1)) (.l (.v 0) (.v 3)))) (.b (.l [0, 1, 0, 1, 1]) (.l [0, 1, 1, 1, 1])) rfl x0 x1 x2 (x1 - x2) (aS x1 x2) h0
theorem ar392 {x0 x1 x2 : Nat} (h0 : x0 < x2) : x0 < x1 + x2 - x1 :=
  ar 4 0 (.i (.S (.a (.v 1) (.v 2)) (.v 1) (.v 3)) (.i (.t (.v 0) (.v 2)) (.t (.v 0) (.v 3)))) (.b (.l [0, 1, 0, 1, 1]) (.l [0, 1, 1, 1, 1])) rfl x0 x1 x2 (x1 + x2 - x1) (aS ((x1 + x2)) x1) h0
theorem ar393 {x0 x1 x2 x3 : Nat} (h0 : x1 + x3 ≤ x0) (h1 : x2 < x3) : x0 - x1 - 1 - x2 < x0 - x1 :=
  ar 7 0 (.i (.S (.v 0) (.v 1) (.v 4)) (.i (.S (.v 4) (.n 1) (.v 5)) (.i (.S (.v 5) (.v 2) (.v 6)) (.i (.l (.a (.v 1) (.v 3)) (.v 0)) (.i (.t (.v 2) (.v 3)) (.t (.v 6) (.v 4))))))) (.b (.b (.l [1, 0, 0, 1, 0, 0, 1]) (.b (.l [0, 1, 0, 1, 0, 0, 1, 0, 0, 1, 1, 1]) (.l [0, 0, 1, 0, 0, 0, 0, 0, 0, 0, 1, 1]))) (.b (.l [0, 0, 1, 1, 0, 0, 1]) (.b (.l [0, 1, 0, 0, 1, 0, 1, 0, 1, 1, 1, 1]) (.l [0, 0, 1, 0, 1, 0, 0, 0, 1, 0, 1, 1])))) rfl x0 x1 x2 x3 (x0 - x1) (x0 - x1 - 1) (x0 - x1 - 1 - x2) (aS x0 x1) (aS ((x0 - x1)) 1) (aS ((x0 - x1 - 1)) x2) h0 h1
theorem ar394 {x0 x1 x2 x3 : Nat} (h0 : x1 + x2 ≤ x0) (h1 : x3 < x2) : x0 - x1 - x2 + x3 < x0 - x1 :=
  ar 6 0 (.i (.S (.v 0) (.v 1) (.v 4)) (.i (.S (.v 4) (.v 2) (.v 5)) (.i (.l (.a (.v 1) (.v 2)) (.v 0)) (.i (.t (.v 3) (.v 2)) (.t (.a (.v 5) (.v 3)) (.v 4)))))) (.b (.l [1, 0, 0, 1, 1]) (.b (.l [0, 1, 0, 1, 0, 0, 1, 1, 1]) (.l [0, 1, 1, 1, 0, 0, 1, 1, 1]))) rfl x0 x1 x2 x3 (x0 - x1) (x0 - x1 - x2) (aS x0 x1) (aS ((x0 - x1)) x2) h0 h1
theorem ar395 {x0 x1 x2 x3 : Nat} (h0 : x1 + x3 ≤ x0) (h1 : x2 < x3) : x0 - 1 - (x0 - x1 - 1 - x2) = x1 + x2 :=
  ar 9 0 (.i (.S (.v 0) (.n 1) (.v 4)) (.i (.S (.v 0) (.v 1) (.v 5)) (.i (.S (.v 5) (.n 1) (.v 6)) (.i (.S (.v 6) (.v 2) (.v 7)) (.i (.S (.v 4) (.v 7) (.v 8)) (.i (.l (.a (.v 1) (.v 3)) (.v 0)) (.i (.t (.v 2) (.v 3)) (.e (.v 8) (.a (.v 1) (.v 2)))))))))) (.b (.b (.b (.b (.b (.b (.l [1, 0, 0, 0, 1, 0, 0, 1, 0, 0, 1, 0, 1, 0, 0, 1]) (.l [1, 0, 0, 0, 0, 0, 0, 1, 1, 0, 1, 0, 1, 0, 0, 1])) (.l [1, 0, 0, 0, 0, 1])) (.b (.b (.l [1, 0, 0, 0, 1, 0, 0, 1, 1, 0, 1, 0, 1, 0, 0, 1]) (.l [1, 0, 0, 0, 0, 0, 0, 1, 0, 0, 1, 0, 1, 0, 0, 1])) (.l [0, 0, 1, 0, 0, 0, 0, 0, 0, 0, 0, 0, 0, 1, 1]))) (.b (.b (.b (.l [1, 0, 0, 0, 1, 0, 0, 1, 0, 0, 1, 1, 1, 0, 0, 1]) (.l [1, 0, 0, 0, 0, 0, 0, 1, 1, 0, 1, 1, 1, 0, 0, 1])) (.l [1, 0, 0, 0, 0, 1])) (.b (.b (.l [1, 0, 0, 0, 1, 0, 0, 1, 1, 0, 1, 1, 1, 0, 0, 1]) (.l [1, 0, 0, 0, 0, 0, 0, 1, 0, 0, 1, 1, 1, 0, 0, 1])) (.l [0, 0, 1, 0, 1, 0, 0, 0, 1, 0, 0, 0, 0, 1, 1])))) (.l [1, 0, 0, 1])) (.b (.b (.b (.b (.b (.l [0, 1, 0, 1, 0, 0, 1, 0, 0, 1, 0, 0, 0, 1, 0, 1]) (.l [0, 1, 1, 1, 0, 0, 1, 0, 0, 1, 0, 0, 0, 1, 0, 1])) (.l [1, 0, 0, 0, 0, 1])) (.b (.b (.l [0, 1, 0, 0, 0, 0, 1, 0, 0, 1, 0, 0, 0, 1, 0, 1, 1, 1]) (.l [0, 0, 1, 0, 0, 0, 0, 0, 0, 0, 0, 0, 0, 1, 1, 1, 1, 1])) (.l [0, 0, 1, 0, 0, 0, 0, 0, 0, 0, 0, 0, 0, 1, 1]))) (.s (.b (.b (.l [0, 1, 0, 0, 0, 0, 1, 0, 0, 0, 1, 0, 1, 1, 1]) (.l [0, 1, 1, 0, 0, 0, 1, 0, 0, 0, 1, 0, 1, 1, 1])) (.l [0, 0, 1, 0, 0, 0, 0, 0, 0, 0, 1, 1])))) (.b (.b (.b (.b (.l [0, 1, 0, 1, 0, 0, 1, 0, 0, 1, 0, 0, 0, 1, 1, 1]) (.l [0, 0, 1, 1, 0, 0, 1, 0, 0, 0, 0, 1, 0, 1, 0, 1])) (.l [1, 0, 0, 0, 0, 1])) (.b (.b (.l [0, 1, 0, 0, 0, 0, 1, 0, 0, 1, 0, 0, 0, 1, 1, 1, 1, 1]) (.l [0, 0, 1, 0, 0, 0, 0, 0, 0, 0, 0, 0, 0, 1, 0, 1, 1, 1])) (.l [0, 0, 1, 0, 0, 0, 0, 0, 0, 0, 0, 0, 0, 1, 1]))) (.s (.b (.b (.l [0, 1, 0, 0, 0, 0, 1, 0, 0, 0, 1, 1, 1, 1, 1]) (.l [0, 0, 1, 0, 0, 0, 0, 0, 0, 0, 1, 0, 1, 1, 1])) (.l [0, 0, 1, 0, 0, 0, 0, 0, 0, 0, 1, 1])))))) rfl x0 x1 x2 x3 (x0 - 1) (x0 - x1) (x0 - x1 - 1) (x0 - x1 - 1 - x2) (x0 - 1 - (x0 - x1 - 1 - x2)) (aS x0 1) (aS x0 x1) (aS ((x0 - x1)) 1) (aS ((x0 - x1 - 1)) x2) (aS ((x0 - 1)) ((x0 - x1 - 1 - x2))) h0 h1
theorem ar396 {x0 x1 x2 x3 : Nat} (h0 : x0 + x1 ≤ x3) : x0 + x1 - 1 - x2 = x3 - 1 - (x3 - x0 - x1 + x2) :=
  ar 10 0 (.i (.S (.a (.v 0) (.v 1)) (.n 1) (.v 4)) (.i (.S (.v 4) (.v 2) (.v 5)) (.i (.S (.v 3) (.n 1) (.v 6)) (.i (.S (.v 3) (.v 0) (.v 7)) (.i (.S (.v 7) (.v 1) (.v 8)) (.i (.S (.v 6) (.a (.v 8) (.v 2)) (.v 9)) (.i (.l (.a (.v 0) (.v 1)) (.v 3)) (.e (.v 5) (.v 9))))))))) (.b (.b (.b (.b (.b (.b (.b (.l [1, 0, 0, 1, 0, 0, 0, 1, 0, 1, 0, 0, 1, 0, 0, 0, 1, 0, 1]) (.l [1, 0, 0, 1, 0, 0, 0, 0, 0, 0, 0, 0, 0, 0, 0, 0, 1, 1, 1])) (.l [1, 0, 0, 0, 0, 0, 0, 0, 0, 0, 0, 0, 0, 1, 1, 1])) (.b (.b (.l [1, 0, 0, 1, 0, 0, 0, 1, 1, 1, 0, 0, 1, 0, 0, 0, 1, 0, 1]) (.l [1, 0, 0, 1, 0, 0, 0, 0, 0, 0, 0, 0, 0, 0, 0, 0, 1, 1, 1])) (.l [1, 0, 0, 0, 0, 0, 0, 0, 0, 0, 0, 0, 0, 1, 1, 1]))) (.b (.b (.b (.l [1, 0, 0, 1, 0, 0, 0, 1, 0, 1, 0, 0, 1, 0, 0, 0, 1, 0, 1, 1]) (.l [1, 0, 0, 1, 0, 0, 0, 1, 1, 1, 0, 0, 1, 0, 0, 0, 1, 0, 1])) (.l [1, 0, 0, 0, 0, 0, 0, 0, 0, 0, 0, 0, 0, 1, 1, 1])) (.b (.b (.l [1, 0, 0, 1, 0, 0, 0, 1, 1, 1, 0, 0, 1, 0, 0, 0, 1, 0, 1, 1]) (.l [1, 0, 0, 1, 0, 0, 0, 1, 0, 1, 0, 0, 1, 0, 0, 0, 1, 0, 1])) (.l [1, 0, 0, 0, 0, 0, 0, 0, 0, 0, 0, 0, 0, 1, 1, 1])))) (.s (.b (.b (.b (.l [1, 0, 0, 1, 0, 0, 0, 1, 0, 1, 0, 0, 0, 1, 0, 1, 1]) (.l [1, 0, 0, 1, 0, 0, 0, 1, 1, 1, 0, 0, 0, 1, 0, 1])) (.l [1, 0, 0, 0, 0, 0, 0, 0, 0, 0, 1, 1, 1])) (.b (.b (.l [1, 0, 0, 1, 0, 0, 0, 1, 1, 1, 0, 0, 0, 1, 0, 1, 1]) (.l [1, 0, 0, 1, 0, 0, 0, 1, 0, 1, 0, 0, 0, 1, 0, 1])) (.l [1, 0, 0, 0, 0, 0, 0, 0, 0, 0, 1, 1, 1]))))) (.b (.b (.b (.b (.b (.l [1, 0, 0, 1, 0, 0, 0, 1, 0, 1, 0, 0, 1, 0, 0, 0, 1, 1, 1]) (.l [1, 0, 0, 1, 0, 0, 0, 0, 0, 0, 0, 0, 0, 0, 0, 0, 1, 0, 1])) (.l [1, 0, 0, 0, 0, 0, 0, 0, 0, 0, 0, 0, 0, 1, 0, 1])) (.b (.b (.l [1, 0, 0, 1, 0, 0, 0, 1, 1, 1, 0, 0, 1, 0, 0, 0, 1, 1, 1]) (.l [1, 0, 0, 1, 0, 0, 0, 0, 0, 0, 0, 0, 0, 0, 0, 0, 1, 0, 1])) (.l [1, 0, 0, 0, 0, 0, 0, 0, 0, 0, 0, 0, 0, 1, 0, 1]))) (.b (.b (.b (.l [1, 0, 0, 1, 0, 0, 0, 1, 0, 1, 0, 0, 1, 0, 0, 0, 1, 1, 1, 1]) (.l [1, 0, 0, 1, 0, 0, 0, 1, 1, 1, 0, 0, 1, 0, 0, 0, 1, 1, 1])) (.l [1, 0, 0, 0, 0, 0, 0, 0, 0, 0, 0, 0, 0, 1, 0, 1])) (.b (.b (.l [1, 0, 0, 1, 0, 0, 0, 1, 1, 1, 0, 0, 1, 0, 0, 0, 1, 1, 1, 1]) (.l [1, 0, 0, 1, 0, 0, 0, 1, 0, 1, 0, 0, 1, 0, 0, 0, 1, 1, 1])) (.l [1, 0, 0, 0, 0, 0, 0, 0, 0, 0, 0, 0, 0, 1, 0, 1])))) (.s (.b (.b (.b (.l [1, 0, 0, 1, 0, 0, 0, 1, 0, 1, 0, 0, 0, 1, 1, 1, 1]) (.l [1, 0, 0, 1, 0, 0, 0, 1, 1, 1, 0, 0, 0, 1, 1, 1])) (.l [1, 0, 0, 0, 0, 0, 0, 0, 0, 0, 1, 0, 1])) (.b (.b (.l [1, 0, 0, 1, 0, 0, 0, 1, 1, 1, 0, 0, 0, 1, 1, 1, 1]) (.l [1, 0, 0, 1, 0, 0, 0, 1, 0, 1, 0, 0, 0, 1, 1, 1])) (.l [1, 0, 0, 0, 0, 0, 0, 0, 0, 0, 1, 0, 1])))))) (.b (.b (.b (.b (.b (.b (.l [0, 1, 0, 0, 1, 0, 1, 0, 0, 0, 1, 0, 0, 1, 0, 1, 0, 0, 1]) (.l [0, 1, 1, 0, 1, 0, 1, 0, 0, 0, 1, 0, 0, 1, 0, 1, 0, 0, 1])) (.b (.l [0, 1, 0, 0, 1, 1, 1, 0, 0, 0, 1, 0, 0, 1, 0, 1, 0, 0, 1]) (.l [0, 1, 1, 0, 1, 1, 1, 0, 0, 0, 1, 0, 0, 1, 0, 1, 0, 0, 1]))) (.l [1, 0, 0, 0, 0, 0, 0, 1, 1, 1, 0, 0, 1])) (.b (.b (.b (.l [0, 1, 0, 0, 1, 0, 1, 0, 0, 0, 1, 1, 0, 1, 0, 1, 0, 0, 1]) (.l [0, 1, 1, 0, 1, 0, 1, 0, 0, 0, 1, 1, 0, 1, 0, 1, 0, 0, 1])) (.b (.l [0, 1, 0, 0, 1, 1, 1, 0, 0, 0, 1, 1, 0, 1, 0, 1, 0, 0, 1]) (.l [0, 1, 1, 0, 1, 1, 1, 0, 0, 0, 1, 1, 0, 1, 0, 1, 0, 0, 1]))) (.l [1, 0, 0, 0, 1, 1, 0, 1, 0, 1, 0, 0, 1, 1]))) (.b (.b (.b (.b (.l [0, 1, 0, 0, 1, 0, 1, 0, 0, 0, 1, 0, 0, 1, 1, 1, 0, 0, 1]) (.l [0, 1, 1, 0, 1, 0, 1, 0, 0, 0, 1, 0, 0, 1, 1, 1, 0, 0, 1])) (.b (.l [0, 1, 0, 0, 1, 1, 1, 0, 0, 0, 1, 0, 0, 1, 1, 1, 0, 0, 1]) (.l [0, 1, 1, 0, 1, 1, 1, 0, 0, 0, 1, 0, 0, 1, 1, 1, 0, 0, 1]))) (.l [1, 0, 0, 0, 0, 0, 0, 1, 0, 1, 0, 0, 1])) (.b (.b (.b (.l [0, 1, 0, 0, 1, 0, 1, 0, 0, 0, 1, 1, 0, 1, 1, 1, 0, 0, 1]) (.l [0, 1, 1, 0, 1, 0, 1, 0, 0, 0, 1, 1, 0, 1, 1, 1, 0, 0, 1])) (.b (.l [0, 1, 0, 0, 1, 1, 1, 0, 0, 0, 1, 1, 0, 1, 1, 1, 0, 0, 1]) (.l [0, 1, 1, 0, 1, 1, 1, 0, 0, 0, 1, 1, 0, 1, 1, 1, 0, 0, 1]))) (.l [1, 0, 0, 0, 0, 0, 0, 1, 0, 1, 0, 0, 1])))) (.l [1, 0, 0, 1]))) rfl x0 x1 x2 x3 (x0 + x1 - 1) (x0 + x1 - 1 - x2) (x3 - 1) (x3 - x0) (x3 - x0 - x1) (x3 - 1 - (x3 - x0 - x1 + x2)) (aS ((x0 + x1)) 1) (aS ((x0 + x1 - 1)) x2) (aS x3 1) (aS x3 x0) (aS ((x3 - x0)) x1) (aS ((x3 - 1)) ((x3 - x0 - x1 + x2))) h0
theorem ar397 {x0 x1 : Nat} (h0 : x0 ≤ x1) : min x0 x1 = x0 :=
  ar 3 0 (.i (.N (.v 0) (.v 1) (.v 2)) (.i (.l (.v 0) (.v 1)) (.e (.v 2) (.v 0)))) (.b (.b (.l [1, 0, 0, 1]) (.l [1, 0, 1, 1])) (.b (.l [0, 1, 0, 1]) (.l [0, 1, 0, 1, 1]))) rfl x0 x1 (min x0 x1) (aN x0 x1) h0
theorem ar398 : ∀ {x0 : Nat}, 1 ≤ 2 * x0 + 1 := @ar 1 0 (.l (.n 1) (.s (.m 2 (.v 0)))) (.l [1]) rfl
theorem ar399 {x0 x1 x2 : Nat} (h0 : x0 < x2 - (x2 - x1)) : x0 < x1 :=
  ar 5 0 (.i (.S (.v 2) (.v 1) (.v 3)) (.i (.S (.v 2) (.v 3) (.v 4)) (.i (.t (.v 0) (.v 4)) (.t (.v 0) (.v 1))))) (.b (.b (.l [0, 1, 0, 1, 0, 0, 1, 1]) (.l [0, 1, 1, 1, 0, 0, 1, 1])) (.l [1, 0, 0, 0, 1])) rfl x0 x1 x2 (x2 - x1) (x2 - (x2 - x1)) (aS x2 x1) (aS x2 ((x2 - x1))) h0
theorem ar400 {x0 x1 x2 : Nat} (h0 : 0 < x2) (h1 : x2 ≤ x0) : x0 - 1 - x1 < x0 :=
  ar 5 0 (.i (.S (.v 0) (.n 1) (.v 3)) (.i (.S (.v 3) (.v 1) (.v 4)) (.i (.t (.n 0) (.v 2)) (.i (.l (.v 2) (.v 0)) (.t (.v 4) (.v 0)))))) (.b (.b (.l [1, 0, 0, 1, 0, 0, 1]) (.l [1, 0, 0, 1, 0, 0, 1, 1, 1])) (.l [1, 0, 0, 1, 1, 1])) rfl x0 x1 x2 (x0 - 1) (x0 - 1 - x1) (aS x0 1) (aS ((x0 - 1)) x1) h0 h1
theorem ar401 {x0 x1 x2 : Nat} (h0 : x2 < x0 - (x0 - x1)) : x0 - x1 + x2 < x0 :=
  ar 5 0 (.i (.S (.v 0) (.v 3) (.v 4)) (.i (.t (.v 2) (.v 4)) (.t (.a (.v 3) (.v 2)) (.v 0)))) (.b (.l [1, 0, 0, 1, 1]) (.l [1, 0, 0, 0, 1])) rfl x0 x1 x2 (x0 - x1) (x0 - (x0 - x1)) (aS x0 ((x0 - x1))) h0
theorem ar402 {x0 x1 x2 : Nat} (h0 : x0 < x2) (h1 : x2 ≤ x1) : x0 < x1 - (x1 - x2) :=
  ar 5 0 (.i (.S (.v 1) (.v 2) (.v 3)) (.i (.S (.v 1) (.v 3) (.v 4)) (.i (.t (.v 0) (.v 2)) (.i (.l (.v 2) (.v 1)) (.t (.v 0) (.v 4)))))) (.b (.b (.l [1, 0, 0, 0, 1, 0, 1, 0, 1]) (.l [1, 0, 0, 0, 1, 0, 1, 1, 1])) (.b (.l [1, 0, 0, 0, 1, 1, 1, 0, 1]) (.l [1, 0, 0, 0, 1, 1, 1, 1, 1]))) rfl x0 x1 x2 (x1 - x2) (x1 - (x1 - x2)) (aS x1 x2) (aS x1 ((x1 - x2))) h0 h1
theorem ar403 {x0 x1 x2 : Nat} (h0 : x1 < x2) (h1 : x2 ≤ x0) : x0 - 1 - x1 < x0 :=
  ar 5 0 (.i (.S (.v 0) (.n 1) (.v 3)) (.i (.S (.v 3) (.v 1) (.v 4)) (.i (.t (.v 1) (.v 2)) (.i (.l (.v 2) (.v 0)) (.t (.v 4) (.v 0)))))) (.b (.b (.l [1, 0, 0, 1, 0, 0, 1]) (.l [1, 0, 0, 1, 0, 0, 1, 1, 1])) (.l [1, 0, 0, 1, 1, 1])) rfl x0 x1 x2 (x0 - 1) (x0 - 1 - x1) (aS x0 1) (aS ((x0 - 1)) x1) h0 h1
theorem ar404 {x0 x1 x2 : Nat} (h0 : x1 ≤ x0) (h1 : x2 < x1) : x0 - x1 + x2 < x0 :=
  ar 4 0 (.i (.S (.v 0) (.v 1) (.v 3)) (.i (.l (.v 1) (.v 0)) (.i (.t (.v 2) (.v 1)) (.t (.a (.v 3) (.v 2)) (.v 0))))) (.b (.l [1, 0, 0, 1, 1]) (.l [1, 0, 0, 1, 1, 1])) rfl x0 x1 x2 (x0 - x1) (aS x0 x1) h0 h1
theorem ar405 {x0 x1 x2 x3 : Nat} (h0 : x0 < x2 - x3) (h1 : x1 = x2 - x3) : x0 < x1 :=
  ar 5 0 (.i (.t (.v 0) (.v 4)) (.i (.e (.v 1) (.v 4)) (.t (.v 0) (.v 1)))) (.l [1, 0, 1, 1]) rfl x0 x1 x2 x3 (x2 - x3) h0 h1
theorem ar406 {x0 x1 x2 : Nat} (h0 : x2 < x0 - x1) : x0 - x1 - 1 - x2 < x0 - x1 :=
  ar 6 0 (.i (.S (.v 3) (.n 1) (.v 4)) (.i (.S (.v 4) (.v 2) (.v 5)) (.i (.t (.v 2) (.v 3)) (.t (.v 5) (.v 3))))) (.b (.b (.l [1, 0, 0, 1, 0, 0, 1]) (.l [1, 0, 0, 1, 0, 0, 1, 1])) (.l [1, 0, 0, 1, 1])) rfl x0 x1 x2 (x0 - x1) (x0 - x1 - 1) (x0 - x1 - 1 - x2) (aS ((x0 - x1)) 1) (aS ((x0 - x1 - 1)) x2) h0
theorem ar407 : ∀ {x0 x1 : Nat}, x0 < x0 + 1 + x1 := @ar 2 0 (.t (.v 0) (.a (.s (.v 0)) (.v 1))) (.l [1]) rfl
theorem ar408 {x0 x1 x2 : Nat} (h0 : x1 < x2 - x0) : x0 + 1 + x1 ≤ x2 :=
  ar 4 0 (.i (.S (.v 2) (.v 0) (.v 3)) (.i (.t (.v 1) (.v 3)) (.l (.a (.s (.v 0)) (.v 1)) (.v 2)))) (.b (.l [1, 0, 0, 1, 1]) (.l [1, 0, 0, 0, 1])) rfl x0 x1 x2 (x2 - x0) (aS x2 x0) h0
theorem ar409 {x0 x1 x2 : Nat} (h0 : x0 ≤ x2) (h1 : x1 < x0) : x0 - x1 - 1 < x2 - x1 :=
  ar 6 0 (.i (.S (.v 0) (.v 1) (.v 3)) (.i (.S (.v 3) (.n 1) (.v 4)) (.i (.S (.v 2) (.v 1) (.v 5)) (.i (.l (.v 0) (.v 2)) (.i (.t (.v 1) (.v 0)) (.t (.v 4) (.v 5))))))) (.b (.b (.b (.l [1, 0, 0, 1, 0, 0, 0, 1, 0, 1, 0, 1]) (.l [1, 0, 0, 0, 0, 1])) (.l [1, 0, 0, 0, 1, 0, 1, 1, 1])) (.l [0, 0, 1, 0, 1, 1])) rfl x0 x1 x2 (x0 - x1) (x0 - x1 - 1) (x2 - x1) (aS x0 x1) (aS ((x0 - x1)) 1) (aS x2 x1) h0 h1
theorem ar410 {x0 x1 : Nat} (h0 : x0 < x1) : x0 + 1 + (x1 - x0 - 1) = x1 :=
  ar 4 0 (.i (.S (.v 1) (.v 0) (.v 2)) (.i (.S (.v 2) (.n 1) (.v 3)) (.i (.t (.v 0) (.v 1)) (.e (.a (.s (.v 0)) (.v 3)) (.v 1))))) (.b (.b (.b (.l [1, 0, 0, 1, 0, 0, 1]) (.l [1, 0, 0, 0, 0, 1])) (.l [1, 0, 0, 1, 1])) (.b (.b (.l [0, 1, 0, 0, 1, 0, 1]) (.l [1, 0, 0, 0, 0, 1])) (.b (.l [0, 1, 0, 0, 1, 1, 1]) (.l [0, 0, 1, 0, 1, 0, 1])))) rfl x0 x1 (x1 - x0) (x1 - x0 - 1) (aS x1 x0) (aS ((x1 - x0)) 1) h0
theorem ar411 : ∀ {x0 x1 x2 : Nat} (h : x1 < x2), ((x0 : Nat) : Int) * 1000 + ((x0 + 1 + x1 : Nat) : Int) < ((x0 : Nat) : Int) * 1000 + ((x0 + 1 + x2 : Nat) : Int) := @ar 3 0 (.i (.t (.v 1) (.v 2)) (.t' (.a (.r (.c (.v 0)) (1000)) (.c (.a (.s (.v 0)) (.v 1)))) (.a (.r (.c (.v 0)) (1000)) (.c (.a (.s (.v 0)) (.v 2)))))) (.l [1, 1]) rfl
theorem ar412 {x0 x1 x2 x3 x4 : Nat} (h0 : x0 < x2) (h1 : x1 < x4 - x0) (h2 : x4 < 1000) : ((x0 : Nat) : Int) * 1000 + ((x0 + 1 + x1 : Nat) : Int) < ((x2 : Nat) : Int) * 1000 + ((x2 + 1 + x3 : Nat) : Int) :=
  ar 6 0 (.i (.S (.v 4) (.v 0) (.v 5)) (.i (.t (.v 0) (.v 2)) (.i (.t (.v 1) (.v 5)) (.i (.t (.v 4) (.n 1000)) (.t' (.a (.r (.c (.v 0)) (1000)) (.c (.a (.s (.v 0)) (.v 1)))) (.a (.r (.c (.v 2)) (1000)) (.c (.a (.s (.v 2)) (.v 3))))))))) (.b (.l [1, 0, 0, 1, 1, 1, 1001]) (.l [1, 0, 0, 0, 0, 1])) rfl x0 x1 x2 x3 x4 (x4 - x0) (aS x4 x0) h0 h1 h2
theorem ar413 : ∀ {x0 x1 : Nat} (h : 0 < x1), x0 < x0 + x1 := @ar 2 0 (.i (.t (.n 0) (.v 1)) (.t (.v 0) (.a (.v 0) (.v 1)))) (.l [1, 1]) rfl
theorem ar414 {x0 x1 x2 : Nat} (h0 : x0 < x1) (h1 : x1 ≤ x2) : x0 + (x1 - x0) ≤ x2 :=
  ar 4 0 (.i (.S (.v 1) (.v 0) (.v 3)) (.i (.t (.v 0) (.v 1)) (.i (.l (.v 1) (.v 2)) (.l (.a (.v 0) (.v 3)) (.v 2))))) (.b (.l [1, 0, 0, 1, 1]) (.l [0, 0, 1, 0, 0, 1])) rfl x0 x1 x2 (x1 - x0) (aS x1 x0) h0 h1
theorem ar415 {x0 x1 : Nat} (h0 : x0 < x1) : x0 + (x1 - x0) = x1 :=
  ar 3 0 (.i (.S (.v 1) (.v 0) (.v 2)) (.i (.t (.v 0) (.v 1)) (.e (.a (.v 0) (.v 2)) (.v 1)))) (.b (.b (.l [1, 0, 0, 1]) (.l [1, 0, 0, 1, 1])) (.b (.l [0, 1, 0, 1]) (.l [0, 1, 1, 1]))) rfl x0 x1 (x1 - x0) (aS x1 x0) h0
theorem ar416 {x0 x1 x2 : Nat} (h0 : 0 < x2) (h1 : x2 ≤ x0 - x1) : x0 - x1 - x2 < x0 - x1 :=
  ar 5 0 (.i (.S (.v 3) (.v 2) (.v 4)) (.i (.t (.n 0) (.v 2)) (.i (.l (.v 2) (.v 3)) (.t (.v 4) (.v 3))))) (.b (.l [1, 0, 0, 1, 0, 1]) (.l [1, 0, 0, 1, 1, 1])) rfl x0 x1 x2 (x0 - x1) (x0 - x1 - x2) (aS ((x0 - x1)) x2) h0 h1
theorem ar417 {x0 x1 x2 : Nat} (h0 : x1 ≤ x0) (h1 : x2 < x1) : x0 - x1 < x0 :=
  ar 4 0 (.i (.S (.v 0) (.v 1) (.v 3)) (.i (.l (.v 1) (.v 0)) (.i (.t (.v 2) (.v 1)) (.t (.v 3) (.v 0))))) (.b (.l [1, 0, 0, 1, 1]) (.l [1, 0, 0, 1, 1, 1])) rfl x0 x1 x2 (x0 - x1) (aS x0 x1) h0 h1
theorem ar418 {x0 x1 x2 : Nat} (h0 : x1 ≤ x0) (h1 : x2 < x1) : x0 - (x0 - x1) - (x1 - x2) = x2 :=
  ar 7 0 (.i (.S (.v 0) (.v 1) (.v 3)) (.i (.S (.v 0) (.v 3) (.v 4)) (.i (.S (.v 1) (.v 2) (.v 5)) (.i (.S (.v 4) (.v 5) (.v 6)) (.i (.l (.v 1) (.v 0)) (.i (.t (.v 2) (.v 1)) (.e (.v 6) (.v 2)))))))) (.b (.b (.b (.b (.b (.l [0, 1, 0, 1, 0, 0, 0, 1, 0, 1, 0, 0, 1]) (.l [0, 1, 1, 1, 0, 0, 0, 1, 0, 1, 0, 0, 1])) (.l [1, 0, 0, 0, 1, 0, 0, 0, 1, 0, 1])) (.l [0, 0, 1, 0, 0, 0, 0, 1])) (.l [1, 0, 0, 1])) (.b (.b (.b (.b (.l [1, 0, 0, 0, 1, 0, 1, 0, 0, 0, 1, 0, 1]) (.l [1, 0, 0, 0, 1, 0, 1, 0, 0, 0, 1, 0, 1, 0, 1])) (.l [1, 0, 0, 0, 1, 0, 0, 0, 1, 0, 1])) (.l [0, 0, 1, 0, 0, 0, 0, 1])) (.b (.b (.b (.l [1, 0, 0, 0, 1, 0, 1, 0, 0, 0, 1, 1, 1]) (.l [1, 0, 0, 0, 1, 0, 1, 0, 0, 0, 1, 1, 1, 0, 1])) (.b (.l [1, 0, 0, 0, 0, 1, 0, 0, 1, 0, 1, 0, 1]) (.l [1, 0, 0, 0, 0, 1, 0, 0, 0, 0, 1, 0, 1, 1, 1]))) (.l [0, 0, 1, 0, 0, 0, 0, 1])))) rfl x0 x1 x2 (x0 - x1) (x0 - (x0 - x1)) (x1 - x2) (x0 - (x0 - x1) - (x1 - x2)) (aS x0 x1) (aS x0 ((x0 - x1))) (aS x1 x2) (aS ((x0 - (x0 - x1))) ((x1 - x2))) h0 h1
theorem ar419 {x0 x1 : Nat} (h0 : x1 < x0) : x0 - (x0 - x1) = x1 :=
  ar 4 0 (.i (.S (.v 0) (.v 1) (.v 2)) (.i (.S (.v 0) (.v 2) (.v 3)) (.i (.t (.v 1) (.v 0)) (.e (.v 3) (.v 1))))) (.b (.b (.b (.l [0, 1, 0, 1, 0, 0, 1]) (.l [0, 1, 1, 1, 0, 0, 1])) (.l [1, 0, 0, 1])) (.b (.b (.l [1, 0, 0, 0, 1, 0, 1]) (.l [1, 0, 0, 0, 1, 0, 1, 1])) (.b (.l [1, 0, 0, 0, 1, 1, 1]) (.l [0, 0, 1, 0, 0, 0, 0, 1])))) rfl x0 x1 (x0 - x1) (x0 - (x0 - x1)) (aS x0 x1) (aS x0 ((x0 - x1))) h0
theorem ar420 : ∀ {x0 x1 x2 : Nat} (h : ((x0 + x1 : Nat) : Int) = ((x0 + x2 : Nat) : Int)) (h : x2 < x1), False := @ar 3 0 (.i (.E (.c (.a (.v 0) (.v 1))) (.c (.a (.v 0) (.v 2)))) (.i (.t (.v 2) (.v 1)) .f)) (.l [0, 1, 1]) rfl
theorem ar421 : ∀ {x0 x1 : Nat} (h : ((x0 : Nat) : Int) = ((x1 : Nat) : Int)) (h : x0 < x1), False := @ar 2 0 (.i (.E (.c (.v 0)) (.c (.v 1))) (.i (.t (.v 0) (.v 1)) .f)) (.l [0, 1, 0, 1]) rfl
theorem ar422 {x0 x1 x2 : Nat} (h0 : x1 < x2) (h1 : x2 ≤ x0) : 0 < x0 - x1 :=
  ar 4 0 (.i (.S (.v 0) (.v 1) (.v 3)) (.i (.t (.v 1) (.v 2)) (.i (.l (.v 2) (.v 0)) (.t (.n 0) (.v 3))))) (.b (.l [0, 1, 0, 1, 1, 1]) (.l [0, 0, 1, 0, 1, 1])) rfl x0 x1 x2 (x0 - x1) (aS x0 x1) h0 h1
theorem ar423 {x0 x1 x2 x3 : Nat} (h0 : x2 < x3) (h1 : x3 ≤ x0 - x1) : 0 < x0 - x1 :=
  ar 5 0 (.i (.t (.v 2) (.v 3)) (.i (.l (.v 3) (.v 4)) (.t (.n 0) (.v 4)))) (.l [1, 1, 1]) rfl x0 x1 x2 x3 (x0 - x1) h0 h1
theorem ar424 {x0 x1 x2 x3 : Nat} (h0 : ((x0 - x1 - x2 : Nat) : Int) = ((x0 - x1 - x3 : Nat) : Int)) (h1 : x2 ≤ x0 - x1) (h2 : x3 < x2) : False :=
  ar 7 0 (.i (.S (.v 4) (.v 2) (.v 5)) (.i (.S (.v 4) (.v 3) (.v 6)) (.i (.E (.c (.v 5)) (.c (.v 6))) (.i (.l (.v 2) (.v 4)) (.i (.t (.v 3) (.v 2)) .f))))) (.b (.b (.l [1, 0, 0, 0, 1, 0, 0, 1, 0, 0, 1]) (.l [1, 0, 0, 0, 1, 0, 0, 1, 1, 0, 1])) (.l [0, 0, 1, 0, 1, 1])) rfl x0 x1 x2 x3 (x0 - x1) (x0 - x1 - x2) (x0 - x1 - x3) (aS ((x0 - x1)) x2) (aS ((x0 - x1)) x3) h0 h1 h2
theorem ar425 {x0 x1 x2 x3 : Nat} (h0 : ((x0 - x1 : Nat) : Int) = ((x0 - x2 : Nat) : Int)) (h1 : x1 < x2) (h2 : x2 < x3) (h3 : x3 ≤ x0) : False :=
  ar 6 0 (.i (.S (.v 0) (.v 1) (.v 4)) (.i (.S (.v 0) (.v 2) (.v 5)) (.i (.E (.c (.v 4)) (.c (.v 5))) (.i (.t (.v 1) (.v 2)) (.i (.t (.v 2) (.v 3)) (.i (.l (.v 3) (.v 0)) .f)))))) (.b (.b (.l [0, 1, 0, 1, 0, 0, 0, 0, 0, 1, 1]) (.l [0, 0, 1, 0, 0, 1, 0, 0, 0, 1])) (.l [0, 0, 1, 0, 1, 1])) rfl x0 x1 x2 x3 (x0 - x1) (x0 - x2) (aS x0 x1) (aS x0 x2) h0 h1 h2 h3
theorem ar426 : ∀ {x0 x1 x2 x3 : Nat} (h : ((x0 : Nat) : Int) * 1000 + ((x1 : Nat) : Int) < ((x2 : Nat) : Int) * 1000 + ((x3 : Nat) : Int)) (h : ((x3 : Nat) : Int) = ((x0 : Nat) : Int)) (h : x0 < x1) (h : x2 < x3), False := @ar 4 0 (.i (.t' (.a (.r (.c (.v 0)) (1000)) (.c (.v 1))) (.a (.r (.c (.v 2)) (1000)) (.c (.v 3)))) (.i (.E (.c (.v 3)) (.c (.v 0))) (.i (.t (.v 0) (.v 1)) (.i (.t (.v 2) (.v 3)) .f)))) (.l [0, 1000, 1, 1001, 0, 1]) rfl
theorem ar427 : ∀ {x0 x1 : Nat} (h : ((x0 : Nat) : Int) = ((x1 : Nat) : Int)) (h : x1 < x0), False := @ar 2 0 (.i (.E (.c (.v 0)) (.c (.v 1))) (.i (.t (.v 1) (.v 0)) .f)) (.l [0, 1, 1]) rfl
theorem ar428 : ∀ {x0 x1 : Nat} (h : ((x1 : Nat) : Int) = ((x0 : Nat) : Int)), x0 = x1 := @ar 2 0 (.i (.E (.c (.v 1)) (.c (.v 0))) (.e (.v 0) (.v 1))) (.b (.l [1, 0, 1]) (.l [1, 1])) rfl
theorem ar429 {x0 x1 x2 x3 x4 : Nat} (h0 : ((x0 - x1 - x2 : Nat) : Int) = ((x0 - x3 : Nat) : Int)) (h1 : x3 < x1) (h2 : x3 < x4) (h3 : x4 ≤ x0) : False :=
  ar 8 0 (.i (.S (.v 0) (.v 1) (.v 5)) (.i (.S (.v 5) (.v 2) (.v 6)) (.i (.S (.v 0) (.v 3) (.v 7)) (.i (.E (.c (.v 6)) (.c (.v 7))) (.i (.t (.v 3) (.v 1)) (.i (.t (.v 3) (.v 4)) (.i (.l (.v 4) (.v 0)) .f))))))) (.b (.b (.b (.l [1, 0, 0, 1, 0, 0, 0, 1, 0, 0, 0, 0, 1, 0, 1]) (.l [1, 0, 0, 1, 0, 0, 0, 1, 0, 0, 1, 1, 0, 0, 1])) (.l [1, 0, 0, 0, 1, 0, 0, 1, 1, 0, 0, 1])) (.l [0, 0, 1, 0, 1, 1])) rfl x0 x1 x2 x3 x4 (x0 - x1) (x0 - x1 - x2) (x0 - x3) (aS x0 x1) (aS ((x0 - x1)) x2) (aS x0 x3) h0 h1 h2 h3
theorem ar430 : ∀ {x0 x1 : Nat} (h : x0 < x1), ((x0 : Nat) : Int) < ((x1 : Nat) : Int) := @ar 2 0 (.i (.t (.v 0) (.v 1)) (.t' (.c (.v 0)) (.c (.v 1)))) (.l [1, 1]) rfl
theorem ar431 : ∀ {z0 z1 : Int} (h : z0 < z1) (h : z0 = z1), False := @ar 0 2 (.i (.t' (.v 0) (.v 1)) (.i (.E (.v 0) (.v 1)) .f)) (.l [0, 0, 1, 1]) rfl
theorem ar432 {x0 x1 : Nat} (h0 : x1 ≤ x0) : ((x0 : Nat) : Int) - ((x0 - x1 : Nat) : Int) = ((x1 : Nat) : Int) :=
  ar 3 0 (.i (.S (.v 0) (.v 1) (.v 2)) (.i (.l (.v 1) (.v 0)) (.E (.s (.c (.v 0)) (.c (.v 2))) (.c (.v 1))))) (.b (.b (.l [0, 1, 0, 1]) (.l [0, 1, 1, 1])) (.b (.l [1, 0, 0, 1]) (.l [1, 0, 0, 1, 1]))) rfl x0 x1 (x0 - x1) (aS x0 x1) h0
theorem ar433 : ∀ {x0 : Nat} {z0 z1 : Int} (h : z1 < z0), ((x0 : Nat) : Int) - z0 < ((x0 : Nat) : Int) - z1 := @ar 1 2 (.i (.t' (.v 1) (.v 0)) (.t' (.s (.c (.v 0)) (.v 0)) (.s (.c (.v 0)) (.v 1)))) (.l [1, 1]) rfl
theorem ar434 : ∀ {x0 x1 : Nat} (h : ((x0 : Nat) : Int) = ((x1 : Nat) : Int)), x0 = x1 := @ar 2 0 (.i (.E (.c (.v 0)) (.c (.v 1))) (.e (.v 0) (.v 1))) (.b (.l [1, 1]) (.l [1, 0, 1])) rfl
theorem ar435 : ∀ {x0 x1 x2 x3 : Nat} (h : x0 + 2 ≤ x3) (h : x3 + 2 * x1 ≤ x2), x0 + 2 * (x1 + 1) ≤ x2 := @ar 4 0 (.i (.l (.a (.v 0) (.n 2)) (.v 3)) (.i (.l (.a (.v 3) (.m 2 (.v 1))) (.v 2)) (.l (.a (.v 0) (.m 2 (.s (.v 1)))) (.v 2)))) (.l [1, 1, 1]) rfl
theorem ar436 {x0 x1 x2 x3 : Nat} (h0 : x0 ≤ x3) (h1 : x1 ≤ x2 * x3) : x0 + x1 ≤ x2 * x3 + x3 :=
  ar 5 0 (.i (.l (.v 0) (.v 3)) (.i (.l (.v 1) (.v 4)) (.l (.a (.v 0) (.v 1)) (.a (.v 4) (.v 3))))) (.l [1, 1, 1]) rfl x0 x1 x2 x3 (x2 * x3) h0 h1
theorem ar437 {x0 x1 x2 : Nat} (h0 : x0 ≤ 2 * (x1 - x2) + 1 + 1) (h1 : x1 ≤ 13) : x0 ≤ 28 :=
  ar 4 0 (.i (.S (.v 1) (.v 2) (.v 3)) (.i (.l (.v 0) (.s (.s (.m 2 (.v 3))))) (.i (.l (.v 1) (.n 13)) (.l (.v 0) (.n 28))))) (.b (.l [2, 0, 0, 1, 2, 1]) (.l [2, 0, 0, 1, 0, 1])) rfl x0 x1 x2 (x1 - x2) (aS x1 x2) h0 h1
theorem ar438 : ∀ {x0 : Nat} (h : x0 ≤ 13), x0 < 14 := @ar 1 0 (.i (.l (.v 0) (.n 13)) (.t (.v 0) (.n 14))) (.l [1, 1]) rfl
theorem ar448 : ∀ {x0 : Nat}, 0 + x0 ≤ x0 := @ar 1 0 (.l (.a (.n 0) (.v 0)) (.v 0)) (.l [1]) rfl
theorem ar449 {x0 : Nat} (h0 : 1 ≤ x0) : x0 - 1 < x0 :=
  ar 2 0 (.i (.S (.v 0) (.n 1) (.v 1)) (.i (.l (.n 1) (.v 0)) (.t (.v 1) (.v 0)))) (.b (.l [1, 0, 0, 1]) (.l [1, 0, 0, 1, 1])) rfl x0 (x0 - 1) (aS x0 1) h0
theorem ar451 {x0 : Nat} (h0 : 1 ≤ x0) : x0 - 1 + 1 = x0 :=
  ar 2 0 (.i (.S (.v 0) (.n 1) (.v 1)) (.i (.l (.n 1) (.v 0)) (.e (.s (.v 1)) (.v 0)))) (.b (.b (.l [1, 0, 0, 1]) (.l [1, 0, 0, 1, 1])) (.b (.l [0, 1, 0, 1]) (.l [0, 1, 1, 1]))) rfl x0 (x0 - 1) (aS x0 1) h0
theorem ar462 {x0 x1 x2 : Nat} (h0 : x0 < x1 + x2) (h1 : x1 ≤ x0) : x0 - x1 < x2 :=
  ar 4 0 (.i (.S (.v 0) (.v 1) (.v 3)) (.i (.t (.v 0) (.a (.v 1) (.v 2))) (.i (.l (.v 1) (.v 0)) (.t (.v 3) (.v 2))))) (.b (.l [1, 0, 0, 1, 0, 1]) (.l [1, 0, 0, 1, 1, 1])) rfl x0 x1 x2 (x0 - x1) (aS x0 x1) h0 h1
theorem ar466 : ∀ {x0 x1 x2 x3 : Nat} (h : x0 + x3 ≤ x2) (h : x1 < x3), x0 + x1 < x2 := @ar 4 0 (.i (.l (.a (.v 0) (.v 3)) (.v 2)) (.i (.t (.v 1) (.v 3)) (.t (.a (.v 0) (.v 1)) (.v 2)))) (.l [1, 1, 1]) rfl
theorem ar512 {z0 : Int} (h0 : z0 < 256) : (z0 : Int).toNat < 256 :=
  ar 1 1 (.i (.W (.v 0) (.v 0)) (.i (.t' (.v 0) (.n 256)) (.t (.v 0) (.n 256)))) (.b (.l [1, 0, 0, 1, 1]) (.l [1, 0, 0, 1])) rfl ((z0 : Int).toNat) z0 (aW z0) h0
theorem ar513 {z0 : Int} (h0 : (0 : Int) ≤ z0) : max z0 0 = z0 :=
  ar 0 2 (.i (.Y (.v 0) (.n 0) (.v 1)) (.i (.L (.n 0) (.v 0)) (.E (.v 1) (.v 0)))) (.b (.b (.l [1, 0, 0, 1, 1]) (.l [1, 0, 0, 1])) (.b (.l [0, 1, 1, 1]) (.l [0, 1, 0, 1]))) rfl z0 (max z0 0) (aY z0 0) h0
theorem ar518 : ∀ {x0 x1 x2 x3 : Nat} (h : x0 ≤ x3 + x2) (h : x3 ≤ x1 + 1), x0 ≤ x1 + (x2 + 1) := @ar 4 0 (.i (.l (.v 0) (.a (.v 3) (.v 2))) (.i (.l (.v 3) (.s (.v 1))) (.l (.v 0) (.a (.v 1) (.s (.v 2)))))) (.l [1, 1, 1]) rfl
theorem ar519 : ∀ {x0 x1 : Nat} (h : x0 ≤ 1 + x1), x0 ≤ x1 + 1 := @ar 2 0 (.i (.l (.v 0) (.a (.n 1) (.v 1))) (.l (.v 0) (.s (.v 1)))) (.l [1, 1]) rfl
theorem ar520 : ∀ {x0 x1 : Nat} (h : x0 + 8 * 0 + 64 < x1), x0 + 64 < x1 := @ar 2 0 (.i (.t (.a (.a (.v 0) (.m 8 (.n 0))) (.n 64)) (.v 1)) (.t (.a (.v 0) (.n 64)) (.v 1))) (.l [1, 1]) rfl
theorem ar521 {x0 x1 x2 x3 : Nat} (h0 : x0 ≤ min x2 x3 + 1) (h1 : x1 = 16777216) (h2 : x3 ≤ 1000) : x0 < x1 :=
  ar 5 0 (.i (.N (.v 2) (.v 3) (.v 4)) (.i (.l (.v 0) (.s (.v 4))) (.i (.e (.v 1) (.n 16777216)) (.i (.l (.v 3) (.n 1000)) (.t (.v 0) (.v 1)))))) (.b (.l [1, 0, 1, 1, 1, 0, 1, 1]) (.l [1, 0, 0, 1, 1, 0, 1, 1])) rfl x0 x1 x2 x3 (min x2 x3) (aN x2 x3) h0 h1 h2
theorem ar522 : ∀ {x0 x1 : Nat} (h : x0 ≤ 1000) (h : x1 = 16777216), x0 ≤ x1 := @ar 2 0 (.i (.l (.v 0) (.n 1000)) (.i (.e (.v 1) (.n 16777216)) (.l (.v 0) (.v 1)))) (.l [1, 0, 1, 1]) rfl
theorem ar523 {x0 : Nat} : (((x0 : Nat) : Int) + 1 - 2 : Int).toNat = x0 - 1 :=
  ar 3 0 (.i (.W (.s (.a (.c (.v 0)) (.n 1)) (.n 2)) (.v 1)) (.i (.S (.v 0) (.n 1) (.v 2)) (.e (.v 1) (.v 2)))) (.b (.b (.b (.l [1, 0, 0, 0, 1, 0, 1]) (.l [1, 0, 0, 0, 1, 1, 1])) (.b (.l [1, 0, 0, 0, 1, 1, 1]) (.l [1, 0, 0, 0, 1, 0, 1]))) (.b (.b (.l [0, 1, 0, 1, 0, 0, 1]) (.l [0, 1, 1, 1, 0, 0, 1])) (.l [1, 0, 0, 1]))) rfl x0 ((((x0 : Nat) : Int) + 1 - 2 : Int).toNat) (x0 - 1) (aW ((((x0 : Nat) : Int) + 1 - 2))) (aS x0 1)
theorem ar524 : ∀ {x0 : Nat}, ((x0 + 2 : Nat) : Int) = 2 + ((x0 : Nat) : Int) := @ar 1 0 (.E (.c (.a (.v 0) (.n 2))) (.a (.n 2) (.c (.v 0)))) (.b (.l [1]) (.l [1])) rfl
theorem ar525 : (-2 ^ 62 : Int) ≤ 2 := ar 0 0 (.L (.g (.n 4611686018427387904)) (.n 2)) (.l [1]) rfl
theorem ar526 : (2 : Int) < 2 ^ 62 := ar 0 0 (.t' (.n 2) (.n 4611686018427387904)) (.l [1]) rfl
theorem ar527 : ∀ {x0 : Nat} (h : x0 ≤ 1000), ((x0 : Nat) : Int) + 1 < 2 ^ 62 := @ar 1 0 (.i (.l (.v 0) (.n 1000)) (.t' (.a (.c (.v 0)) (.n 1)) (.n 4611686018427387904))) (.l [1, 1]) rfl
theorem ar528 : ∀ {x0 : Nat} (h : 0 < x0), -((x0 : Nat) : Int) ≤ -1 := @ar 1 0 (.i (.t (.n 0) (.v 0)) (.L (.g (.c (.v 0))) (.g (.n 1)))) (.l [1, 1]) rfl
theorem ar529 : ∀ {x0 : Nat}, (0 : Int) ≤ ((x0 + 2 : Nat) : Int) := @ar 1 0 (.L (.n 0) (.c (.a (.v 0) (.n 2)))) (.l [1]) rfl
theorem ar530 {x0 : Nat} : (-2 ^ 62 : Int) ≤ ((x0 / 2 : Nat) : Int) :=
  ar 2 0 (.L (.g (.n 4611686018427387904)) (.c (.v 1))) (.l [1]) rfl x0 (x0 / 2)
theorem ar531 {x0 x1 : Nat} (h0 : x0 ≤ x1) (h1 : x1 ≤ 1000) : ((x0 / 2 : Nat) : Int) < 2 ^ 62 :=
  ar 4 0 (.i (.K 2 (.v 0) (.v 2) (.v 3)) (.i (.l (.v 0) (.v 1)) (.i (.l (.v 1) (.n 1000)) (.t' (.c (.v 2)) (.n 4611686018427387904))))) (.l [2, 1, 1, 0, 1]) rfl x0 x1 (x0 / 2) (x0 % 2) (aK x0 2 rfl) h0 h1
theorem ar532 {x0 x1 : Nat} (h0 : x0 ≤ x1) (h1 : x1 ≤ 1000) : x0 / 2 ≤ 16777216 :=
  ar 4 0 (.i (.K 2 (.v 0) (.v 2) (.v 3)) (.i (.l (.v 0) (.v 1)) (.i (.l (.v 1) (.n 1000)) (.l (.v 2) (.n 16777216))))) (.l [2, 1, 1, 0, 1]) rfl x0 x1 (x0 / 2) (x0 % 2) (aK x0 2 rfl) h0 h1
theorem ar533 {x0 x1 : Nat} (h0 : x0 < x1 / 2) : ((x0 : Nat) : Int) < ((x1 : Nat) : Int) :=
  ar 4 0 (.i (.K 2 (.v 1) (.v 2) (.v 3)) (.i (.t (.v 0) (.v 2)) (.t' (.c (.v 0)) (.c (.v 1))))) (.l [1, 2, 0, 1]) rfl x0 x1 (x1 / 2) (x1 % 2) (aK x1 2 rfl) h0
theorem ar534 {x0 x1 : Nat} (h0 : x1 < x0 / 2) : (0 : Int) ≤ ((x0 : Nat) : Int) - 1 - ((x1 : Nat) : Int) :=
  ar 4 0 (.i (.K 2 (.v 0) (.v 2) (.v 3)) (.i (.t (.v 1) (.v 2)) (.L (.n 0) (.s (.s (.c (.v 0)) (.n 1)) (.c (.v 1)))))) (.l [2, 2, 0, 1]) rfl x0 x1 (x0 / 2) (x0 % 2) (aK x0 2 rfl) h0
theorem ar535 : ∀ {x0 x1 : Nat}, ((x0 : Nat) : Int) - 1 - ((x1 : Nat) : Int) < ((x0 : Nat) : Int) := @ar 2 0 (.t' (.s (.s (.c (.v 0)) (.n 1)) (.c (.v 1))) (.c (.v 0))) (.l [1]) rfl
theorem ar536 {x0 x1 : Nat} : (((x0 : Nat) : Int) - 1 - ((x1 : Nat) : Int) : Int).toNat = x0 - 1 - x1 :=
  ar 5 0 (.i (.W (.s (.s (.c (.v 0)) (.n 1)) (.c (.v 1))) (.v 2)) (.i (.S (.v 0) (.n 1) (.v 3)) (.i (.S (.v 3) (.v 1) (.v 4)) (.e (.v 2) (.v 4))))) (.b (.b (.b (.b (.l [1, 0, 0, 0, 1, 0, 0, 1, 0, 1]) (.l [1, 0, 0, 0, 0, 0, 0, 1, 1, 1])) (.b (.l [1, 0, 0, 0, 1, 1, 0, 1, 0, 1]) (.l [1, 0, 0, 0, 0, 0, 0, 1, 1, 1]))) (.b (.b (.l [1, 0, 0, 0, 1, 0, 0, 1, 1, 1]) (.l [1, 0, 0, 0, 0, 0, 0, 1, 0, 1])) (.b (.l [1, 0, 0, 0, 1, 1, 0, 1, 1, 1]) (.l [1, 0, 0, 0, 0, 0, 0, 1, 0, 1])))) (.b (.b (.b (.l [0, 1, 0, 1, 0, 0, 1, 0, 0, 1]) (.l [0, 1, 1, 1, 0, 0, 1, 0, 0, 1])) (.l [1, 0, 0, 1, 0, 0, 1])) (.l [1, 0, 0, 1]))) rfl x0 x1 ((((x0 : Nat) : Int) - 1 - ((x1 : Nat) : Int) : Int).toNat) (x0 - 1) (x0 - 1 - x1) (aW ((((x0 : Nat) : Int) - 1 - ((x1 : Nat) : Int)))) (aS x0 1) (aS ((x0 - 1)) x1)
theorem ar537 {x0 : Nat} : (0 : Int) < ((x0 / 2 : Nat) : Int) → 0 < x0 / 2 :=
  ar 2 0 (.i (.t' (.n 0) (.c (.v 1))) (.t (.n 0) (.v 1))) (.l [1, 1]) rfl x0 (x0 / 2)
theorem ar538 {x0 : Nat} : 0 < x0 / 2 → (0 : Int) < ((x0 / 2 : Nat) : Int) :=
  ar 2 0 (.i (.t (.n 0) (.v 1)) (.t' (.n 0) (.c (.v 1)))) (.l [1, 1]) rfl x0 (x0 / 2)
theorem ar539 {x0 x1 x2 x3 : Nat} (h0 : x0 ≤ x2 + 1) (h1 : x1 = 16777216) (h2 : x2 < x3 - 1) (h3 : x3 ≤ 1000) : x0 < x1 :=
  ar 5 0 (.i (.S (.v 3) (.n 1) (.v 4)) (.i (.l (.v 0) (.s (.v 2))) (.i (.e (.v 1) (.n 16777216)) (.i (.t (.v 2) (.v 4)) (.i (.l (.v 3) (.n 1000)) (.t (.v 0) (.v 1))))))) (.b (.l [1, 0, 0, 1, 1, 1, 0, 1, 1]) (.l [1, 0, 0, 1, 0, 1, 0, 1, 1])) rfl x0 x1 x2 x3 (x3 - 1) (aS x3 1) h0 h1 h2 h3
theorem ar540 : ∀ {x0 x1 x2 : Nat} (h : x0 ≤ x2) (h : x2 ≤ x1), x0 ≤ x1 := @ar 3 0 (.i (.l (.v 0) (.v 2)) (.i (.l (.v 2) (.v 1)) (.l (.v 0) (.v 1)))) (.l [1, 1, 1]) rfl
theorem ar541 {x0 : Nat} : ((-1) + ((x0 : Nat) : Int) : Int).toNat = x0 - 1 :=
  ar 3 0 (.i (.W (.a (.g (.n 1)) (.c (.v 0))) (.v 1)) (.i (.S (.v 0) (.n 1) (.v 2)) (.e (.v 1) (.v 2)))) (.b (.b (.b (.l [1, 0, 0, 0, 1, 0, 1]) (.l [1, 0, 0, 0, 1, 1, 1])) (.b (.l [1, 0, 0, 0, 1, 1, 1]) (.l [1, 0, 0, 0, 1, 0, 1]))) (.b (.b (.l [0, 1, 0, 1, 0, 0, 1]) (.l [0, 1, 1, 1, 0, 0, 1])) (.l [1, 0, 0, 1]))) rfl x0 (((-1) + ((x0 : Nat) : Int) : Int).toNat) (x0 - 1) (aW (((-1) + ((x0 : Nat) : Int)))) (aS x0 1)
theorem ar542 : ∀ {x0 : Nat} (h : 1 ≤ x0), -((x0 : Nat) : Int) ≤ -1 := @ar 1 0 (.i (.l (.n 1) (.v 0)) (.L (.g (.c (.v 0))) (.g (.n 1)))) (.l [1, 1]) rfl
theorem ar543 : ∀ {x0 : Nat} (h : x0 ≤ 1000), ((x0 : Nat) : Int) < 2 ^ 62 := @ar 1 0 (.i (.l (.v 0) (.n 1000)) (.t' (.c (.v 0)) (.n 4611686018427387904))) (.l [1, 1]) rfl
theorem ar544 : ∀ {x0 : Nat}, (0 : Int) < ((x0 : Nat) : Int) → 0 < x0 := @ar 1 0 (.i (.t' (.n 0) (.c (.v 0))) (.t (.n 0) (.v 0))) (.l [1, 1]) rfl
theorem ar545 : ∀ {x0 : Nat}, 0 < x0 → (0 : Int) < ((x0 : Nat) : Int) := @ar 1 0 (.i (.t (.n 0) (.v 0)) (.t' (.n 0) (.c (.v 0)))) (.l [1, 1]) rfl
theorem ar546 : ∀ {x0 : Nat} (h : 0 < x0), (0 : Int) ≤ ((x0 : Nat) : Int) - 1 := @ar 1 0 (.i (.t (.n 0) (.v 0)) (.L (.n 0) (.s (.c (.v 0)) (.n 1)))) (.l [1, 1]) rfl
theorem ar547 : ∀ {x0 x1 : Nat} (h : x0 ≤ x1), ((x0 : Nat) : Int) - 1 < ((x1 : Nat) : Int) := @ar 2 0 (.i (.l (.v 0) (.v 1)) (.t' (.s (.c (.v 0)) (.n 1)) (.c (.v 1)))) (.l [1, 1]) rfl
theorem ar548 {x0 : Nat} : (((x0 : Nat) : Int) - 1 : Int).toNat = x0 - 1 :=
  ar 3 0 (.i (.W (.s (.c (.v 0)) (.n 1)) (.v 1)) (.i (.S (.v 0) (.n 1) (.v 2)) (.e (.v 1) (.v 2)))) (.b (.b (.b (.l [1, 0, 0, 0, 1, 0, 1]) (.l [1, 0, 0, 0, 1, 1, 1])) (.b (.l [1, 0, 0, 0, 1, 1, 1]) (.l [1, 0, 0, 0, 1, 0, 1]))) (.b (.b (.l [0, 1, 0, 1, 0, 0, 1]) (.l [0, 1, 1, 1, 0, 0, 1])) (.l [1, 0, 0, 1]))) rfl x0 ((((x0 : Nat) : Int) - 1 : Int).toNat) (x0 - 1) (aW ((((x0 : Nat) : Int) - 1))) (aS x0 1)
theorem ar549 {x0 x1 : Nat} (h0 : 0 < x0) (h1 : x0 ≤ x1) : x0 - 1 < x1 :=
  ar 3 0 (.i (.S (.v 0) (.n 1) (.v 2)) (.i (.t (.n 0) (.v 0)) (.i (.l (.v 0) (.v 1)) (.t (.v 2) (.v 1))))) (.b (.l [1, 0, 0, 1, 1]) (.l [1, 0, 0, 1, 1, 1])) rfl x0 x1 (x0 - 1) (aS x0 1) h0 h1
theorem ar550 {x0 : Nat} (h0 : 0 < x0) : x0 - 1 + 1 = x0 :=
  ar 2 0 (.i (.S (.v 0) (.n 1) (.v 1)) (.i (.t (.n 0) (.v 0)) (.e (.s (.v 1)) (.v 0)))) (.b (.b (.l [1, 0, 0, 1]) (.l [1, 0, 0, 1, 1])) (.b (.l [0, 1, 0, 1]) (.l [0, 1, 1, 1]))) rfl x0 (x0 - 1) (aS x0 1) h0
theorem ar551 : ∀ {x0 x1 x2 x3 : Nat} (h : x0 ≤ x2 + 1) (h : x1 = 16777216) (h : x2 < x3) (h : x3 ≤ 1000), x0 < x1 := @ar 4 0 (.i (.l (.v 0) (.s (.v 2))) (.i (.e (.v 1) (.n 16777216)) (.i (.t (.v 2) (.v 3)) (.i (.l (.v 3) (.n 1000)) (.t (.v 0) (.v 1)))))) (.l [1, 1, 1, 0, 1, 1]) rfl
theorem ar552 : ∀ {x0 x1 x2 : Nat} (h : x0 ≤ x2 + 1) (h : x1 = 16777216) (h : x2 ≤ 1000), x0 ≤ x1 := @ar 3 0 (.i (.l (.v 0) (.s (.v 2))) (.i (.e (.v 1) (.n 16777216)) (.i (.l (.v 2) (.n 1000)) (.l (.v 0) (.v 1))))) (.l [1, 1, 0, 1, 1]) rfl
theorem ar553 : ∀ {x0 x1 : Nat} (h : ((x1 : Nat) : Int) = 16777216) (h : x0 ≤ 1000000), ((x0 : Nat) : Int) ≤ ((x1 : Nat) : Int) := @ar 2 0 (.i (.E (.c (.v 1)) (.n 16777216)) (.i (.l (.v 0) (.n 1000000)) (.L (.c (.v 0)) (.c (.v 1))))) (.l [1, 1, 0, 1]) rfl
theorem ar554 : ∀ {x0 : Nat} (h : 0 < x0), ¬ (((x0 : Nat) : Int) = 0) := @ar 1 0 (.i (.t (.n 0) (.v 0)) (.n (.E (.c (.v 0)) (.n 0)))) (.l [1, 0, 1]) rfl
theorem ar555 : ∀ {x0 : Nat} (h : x0 ≤ 1000000), x0 < 1000000000 := @ar 1 0 (.i (.l (.v 0) (.n 1000000)) (.t (.v 0) (.n 1000000000))) (.l [1, 1]) rfl
theorem ar556 : ∀ {x0 : Nat} (h : x0 ≤ 1000000), ((x0 : Nat) : Int) < 2 ^ 62 := @ar 1 0 (.i (.l (.v 0) (.n 1000000)) (.t' (.c (.v 0)) (.n 4611686018427387904))) (.l [1, 1]) rfl
theorem ar557 {x0 x1 x2 : Nat} : (0 : Int) ≤ ((x0 * x1 + x2 : Nat) : Int) :=
  ar 4 0 (.L (.n 0) (.c (.a (.v 3) (.v 2)))) (.l [1]) rfl x0 x1 x2 (x0 * x1)
theorem ar558 {x0 x1 x2 x3 : Nat} (h0 : (x0 + 1) * x1 = x0 * x1 + x1) (h1 : (x0 + 1) * x1 ≤ x3) (h2 : x2 < x1) : ((x0 * x1 + x2 : Nat) : Int) < ((x3 : Nat) : Int) :=
  ar 6 0 (.i (.e (.v 5) (.a (.v 4) (.v 1))) (.i (.l (.v 5) (.v 3)) (.i (.t (.v 2) (.v 1)) (.t' (.c (.a (.v 4) (.v 2))) (.c (.v 3)))))) (.l [1, 1, 1, 0, 1]) rfl x0 x1 x2 x3 (x0 * x1) ((x0 + 1) * x1) h0 h1 h2
theorem ar559 {x0 x1 x2 : Nat} (h0 : x2 < x1) : ((x0 * x1 : Nat) : Int) + ((x1 : Nat) : Int) - 1 - ((x2 : Nat) : Int) = ((x0 * x1 + x1 - 1 - x2 : Nat) : Int) :=
  ar 6 0 (.i (.S (.a (.v 3) (.v 1)) (.n 1) (.v 4)) (.i (.S (.v 4) (.v 2) (.v 5)) (.i (.t (.v 2) (.v 1)) (.E (.s (.s (.a (.c (.v 3)) (.c (.v 1))) (.n 1)) (.c (.v 2))) (.c (.v 5)))))) (.b (.b (.b (.l [0, 1, 0, 0, 1, 0, 1]) (.l [0, 1, 1, 0, 1, 0, 1])) (.b (.l [0, 1, 0, 0, 1, 1, 1]) (.l [0, 1, 1, 0, 1, 1, 1]))) (.b (.b (.l [1, 0, 0, 1, 0, 0, 1]) (.l [1, 0, 0, 1, 0, 0, 1, 1])) (.l [1, 0, 0, 1, 1]))) rfl x0 x1 x2 (x0 * x1) (x0 * x1 + x1 - 1) (x0 * x1 + x1 - 1 - x2) (aS ((x0 * x1 + x1)) 1) (aS ((x0 * x1 + x1 - 1)) x2) h0
theorem ar560 {x0 x1 x2 : Nat} : (0 : Int) ≤ ((x0 * x1 + x1 - 1 - x2 : Nat) : Int) :=
  ar 4 0 (.L (.n 0) (.c (.v 3))) (.l [1]) rfl x0 x1 x2 (x0 * x1 + x1 - 1 - x2)
theorem ar561 {x0 x1 x2 x3 x4 : Nat} (h0 : (x0 + 1) * x1 = x0 * x1 + x1) (h1 : (x0 + 1) * x1 ≤ x4) (h2 : x2 < x1) (h3 : x3 = x4) : ((x0 * x1 + x1 - 1 - x2 : Nat) : Int) < ((x3 : Nat) : Int) :=
  ar 9 0 (.i (.S (.a (.v 5) (.v 1)) (.n 1) (.v 6)) (.i (.S (.v 6) (.v 2) (.v 7)) (.i (.e (.v 8) (.a (.v 5) (.v 1))) (.i (.l (.v 8) (.v 4)) (.i (.t (.v 2) (.v 1)) (.i (.e (.v 3) (.v 4)) (.t' (.c (.v 7)) (.c (.v 3))))))))) (.b (.b (.l [1, 0, 0, 1, 0, 0, 1, 0, 1, 0, 1, 0, 1]) (.l [1, 0, 0, 1, 0, 0, 1, 0, 1, 1, 1, 0, 1])) (.l [1, 0, 0, 1, 0, 1, 1, 1, 0, 1])) rfl x0 x1 x2 x3 x4 (x0 * x1) (x0 * x1 + x1 - 1) (x0 * x1 + x1 - 1 - x2) ((x0 + 1) * x1) (aS ((x0 * x1 + x1)) 1) (aS ((x0 * x1 + x1 - 1)) x2) h0 h1 h2 h3
theorem ar562 : ∀ {x0 : Nat} (h : x0 < 2 ^ 8), ((x0 : Nat) : Int) < 256 := @ar 1 0 (.i (.t (.v 0) (.n 256)) (.t' (.c (.v 0)) (.n 256))) (.l [1, 1]) rfl
theorem ar563 : ∀ {x0 x1 : Nat}, x0 ≤ x0 + x1 := @ar 2 0 (.l (.v 0) (.a (.v 0) (.v 1))) (.l [1]) rfl
theorem ar564 {x0 x1 x2 x3 x4 x5 : Nat} (h0 : x0 = x2 + min x3 x4) (h1 : x2 + x4 ≤ x5) (h2 : x5 ≤ x1) : x0 ≤ x1 :=
  ar 7 0 (.i (.N (.v 3) (.v 4) (.v 6)) (.i (.e (.v 0) (.a (.v 2) (.v 6))) (.i (.l (.a (.v 2) (.v 4)) (.v 5)) (.i (.l (.v 5) (.v 1)) (.l (.v 0) (.v 1)))))) (.b (.l [1, 0, 1, 1, 1, 1, 1]) (.l [1, 0, 0, 1, 1, 1, 1])) rfl x0 x1 x2 x3 x4 x5 (min x3 x4) (aN x3 x4) h0 h1 h2
theorem ar565 {x0 x1 x2 : Nat} (h0 : x0 ≤ x2 ∧ x2 < x1) : x0 ≤ x0 + x1 - 1 - x2 :=
  ar 5 0 (.i (.S (.a (.v 0) (.v 1)) (.n 1) (.v 3)) (.i (.S (.v 3) (.v 2) (.v 4)) (.i (.a (.l (.v 0) (.v 2)) (.t (.v 2) (.v 1))) (.l (.v 0) (.v 4))))) (.b (.b (.l [0, 1, 0, 0, 1, 0, 1, 1]) (.l [0, 1, 1, 0, 1, 0, 1, 1])) (.b (.l [0, 1, 0, 0, 1, 1, 1, 1]) (.l [0, 1, 1, 0, 1, 1, 1, 1]))) rfl x0 x1 x2 (x0 + x1 - 1) (x0 + x1 - 1 - x2) (aS ((x0 + x1)) 1) (aS ((x0 + x1 - 1)) x2) h0
theorem ar566 {x0 x1 x2 : Nat} (h0 : x0 ≤ x2 ∧ x2 < x1) : x0 + x1 - 1 - x2 < x1 :=
  ar 5 0 (.i (.S (.a (.v 0) (.v 1)) (.n 1) (.v 3)) (.i (.S (.v 3) (.v 2) (.v 4)) (.i (.a (.l (.v 0) (.v 2)) (.t (.v 2) (.v 1))) (.t (.v 4) (.v 1))))) (.b (.b (.l [1, 0, 0, 1, 0, 0, 1, 0, 1]) (.l [1, 0, 0, 1, 0, 0, 1, 1, 2])) (.l [1, 0, 0, 1, 1, 1])) rfl x0 x1 x2 (x0 + x1 - 1) (x0 + x1 - 1 - x2) (aS ((x0 + x1)) 1) (aS ((x0 + x1 - 1)) x2) h0
theorem ar567 : ∀ {x0 x1 x2 : Nat} (h : x0 ≤ x1 ∧ x1 < x2), x0 ≤ x1 := @ar 3 0 (.i (.a (.l (.v 0) (.v 1)) (.t (.v 1) (.v 2))) (.l (.v 0) (.v 1))) (.l [1, 0, 1]) rfl
theorem ar568 : ∀ {x0 x1 x2 : Nat} (h : x2 ≤ x0 ∧ x0 < x1), x0 < x1 := @ar 3 0 (.i (.a (.l (.v 2) (.v 0)) (.t (.v 0) (.v 1))) (.t (.v 0) (.v 1))) (.l [1, 1]) rfl
theorem ar569 {x0 x1 : Nat} (h0 : x1 < x0) : x0 - 1 < x0 :=
  ar 3 0 (.i (.S (.v 0) (.n 1) (.v 2)) (.i (.t (.v 1) (.v 0)) (.t (.v 2) (.v 0)))) (.b (.l [1, 0, 0, 1]) (.l [1, 0, 0, 1, 1])) rfl x0 x1 (x0 - 1) (aS x0 1) h0
theorem ar570 : ∀ {z0 z1 z2 : Int} (h : z0 ≤ z2) (h : z2 ≤ z1), z0 ≤ z1 := @ar 0 3 (.i (.L (.v 0) (.v 2)) (.i (.L (.v 2) (.v 1)) (.L (.v 0) (.v 1)))) (.l [1, 1, 1]) rfl
theorem ar571 : ∀ {x0 x1 x2 : Nat} (h : x0 ≤ x1) (h : x1 < x2 + 1) (h : x2 ≤ x0), x0 = x1 := @ar 3 0 (.i (.l (.v 0) (.v 1)) (.i (.t (.v 1) (.s (.v 2))) (.i (.l (.v 2) (.v 0)) (.e (.v 0) (.v 1))))) (.b (.l [1, 0, 0, 1]) (.l [1, 1, 1])) rfl
theorem ar572 {x0 : Nat} (h0 : 1 ≤ x0) : max 1 x0 = x0 :=
  ar 2 0 (.i (.X (.n 1) (.v 0) (.v 1)) (.i (.l (.n 1) (.v 0)) (.e (.v 1) (.v 0)))) (.b (.b (.l [1, 0, 0, 1]) (.l [1, 0, 0, 1, 1])) (.b (.l [0, 1, 0, 1]) (.l [0, 1, 1, 1]))) rfl x0 (max 1 x0) (aX 1 x0) h0
theorem ar573 {x0 x1 x2 x3 : Nat} (h0 : x0 + x3 ≤ x2) (h1 : x1 < x3) : x0 + x1 - 1 < x2 :=
  ar 5 0 (.i (.S (.a (.v 0) (.v 1)) (.n 1) (.v 4)) (.i (.l (.a (.v 0) (.v 3)) (.v 2)) (.i (.t (.v 1) (.v 3)) (.t (.v 4) (.v 2))))) (.b (.l [1, 0, 0, 1, 1, 1]) (.l [1, 0, 0, 1, 1, 1])) rfl x0 x1 x2 x3 (x0 + x1 - 1) (aS ((x0 + x1)) 1) h0 h1
theorem ar574 : ∀ {z0 z1 : Int} (h : ¬ (z1 < z0)), z0 ≤ z1 := @ar 0 2 (.i (.n (.t' (.v 1) (.v 0))) (.L (.v 0) (.v 1))) (.l [1, 1]) rfl
theorem ar575 : ∀ {x0 x1 x2 x3 : Nat} (h : x0 ≤ x3) (h : x3 < x1 + x2), x0 < x1 + x2 := @ar 4 0 (.i (.l (.v 0) (.v 3)) (.i (.t (.v 3) (.a (.v 1) (.v 2))) (.t (.v 0) (.a (.v 1) (.v 2))))) (.l [1, 1, 1]) rfl
theorem ar576 : ∀ {x0 x1 x2 x3 : Nat} (h : 1 < x2) (h : x0 + x3 ≤ x1) (h : x2 ≤ x3), x0 < x1 := @ar 4 0 (.i (.t (.n 1) (.v 2)) (.i (.l (.a (.v 0) (.v 3)) (.v 1)) (.i (.l (.v 2) (.v 3)) (.t (.v 0) (.v 1))))) (.l [1, 1, 1, 1]) rfl
theorem ar577 {x0 x1 x2 x3 : Nat} (h0 : 1 < x1) (h1 : x0 + x3 ≤ x2) (h2 : x1 ≤ x3) : x0 + x1 - 1 < x2 :=
  ar 5 0 (.i (.S (.a (.v 0) (.v 1)) (.n 1) (.v 4)) (.i (.t (.n 1) (.v 1)) (.i (.l (.a (.v 0) (.v 3)) (.v 2)) (.i (.l (.v 1) (.v 3)) (.t (.v 4) (.v 2)))))) (.b (.l [1, 0, 0, 1, 1, 1]) (.l [1, 0, 0, 1, 1, 1, 1])) rfl x0 x1 x2 x3 (x0 + x1 - 1) (aS ((x0 + x1)) 1) h0 h1 h2
theorem ar578 : ∀ {x0 : Nat}, x0 ≤ x0 := @ar 1 0 (.l (.v 0) (.v 0)) (.l [1]) rfl
theorem ar579 {x0 x1 x2 : Nat} (h0 : x0 < x1 + x2) : x0 ≤ x1 + x2 - 1 :=
  ar 4 0 (.i (.S (.a (.v 1) (.v 2)) (.n 1) (.v 3)) (.i (.t (.v 0) (.a (.v 1) (.v 2))) (.l (.v 0) (.v 3)))) (.b (.l [0, 1, 0, 1, 1]) (.l [0, 1, 1, 1, 1])) rfl x0 x1 x2 (x1 + x2 - 1) (aS ((x1 + x2)) 1) h0
theorem ar580 {x0 x1 : Nat} (h0 : 1 < x1) : x0 + x1 - 1 < x0 + x1 :=
  ar 3 0 (.i (.S (.a (.v 0) (.v 1)) (.n 1) (.v 2)) (.i (.t (.n 1) (.v 1)) (.t (.v 2) (.a (.v 0) (.v 1))))) (.b (.l [1, 0, 0, 1]) (.l [1, 0, 0, 1, 1])) rfl x0 x1 (x0 + x1 - 1) (aS ((x0 + x1)) 1) h0
theorem ar581 : ∀ {z0 z1 z2 : Int} (h : z0 ≤ z1) (h : z2 ≤ z0) (h : ¬ (z2 < z1)), z0 = z1 := @ar 0 3 (.i (.L (.v 0) (.v 1)) (.i (.L (.v 2) (.v 0)) (.i (.n (.t' (.v 2) (.v 1))) (.E (.v 0) (.v 1))))) (.b (.l [1, 0, 0, 1]) (.l [1, 1, 1])) rfl
theorem ar582 : ∀ {x0 x1 x2 x3 x4 : Nat} (h : x0 + x3 ≤ x4) (h : x1 ≤ x3) (h : x2 = x4), x0 + x1 ≤ x2 := @ar 5 0 (.i (.l (.a (.v 0) (.v 3)) (.v 4)) (.i (.l (.v 1) (.v 3)) (.i (.e (.v 2) (.v 4)) (.l (.a (.v 0) (.v 1)) (.v 2))))) (.l [1, 0, 1, 1, 1]) rfl
theorem ar583 : ∀ {x0 x1 x2 : Nat} (h : x2 + 1 ≤ x1), x0 < x0 + x1 := @ar 3 0 (.i (.l (.s (.v 2)) (.v 1)) (.t (.v 0) (.a (.v 0) (.v 1)))) (.l [1, 1]) rfl
theorem ar584 : ∀ {x0 x1 : Nat} (h : x0 + 1 ≤ x1), x0 + 1 + 1 ≤ x1 + 1 := @ar 2 0 (.i (.l (.s (.v 0)) (.v 1)) (.l (.s (.s (.v 0))) (.s (.v 1)))) (.l [1, 1]) rfl
theorem ar585 {x0 x1 : Nat} : x0 + (x1 + 1) - 1 = x0 + x1 :=
  ar 3 0 (.i (.S (.a (.v 0) (.s (.v 1))) (.n 1) (.v 2)) (.e (.v 2) (.a (.v 0) (.v 1)))) (.b (.b (.l [1, 0, 0, 1]) (.l [1, 0, 0, 1])) (.b (.l [0, 1, 0, 1]) (.l [0, 1, 1, 1]))) rfl x0 x1 (x0 + (x1 + 1) - 1) (aS ((x0 + (x1 + 1))) 1)
theorem ar586 {x0 x1 x2 x3 : Nat} (h0 : x0 + (x1 + 1) - (x2 + 1 + 1) ≤ x3) : x0 + x1 - (x2 + 1) ≤ x3 :=
  ar 6 0 (.i (.S (.a (.v 0) (.v 1)) (.s (.v 2)) (.v 4)) (.i (.S (.a (.v 0) (.s (.v 1))) (.s (.s (.v 2))) (.v 5)) (.i (.l (.v 5) (.v 3)) (.l (.v 4) (.v 3))))) (.b (.b (.l [1, 0, 0, 0, 1, 0, 1, 1]) (.l [1, 0, 0, 0, 1, 1, 1, 1])) (.b (.l [1, 0, 0, 0, 1, 1, 1, 1]) (.l [1, 0, 0, 0, 1, 0, 1, 1]))) rfl x0 x1 x2 x3 (x0 + x1 - (x2 + 1)) (x0 + (x1 + 1) - (x2 + 1 + 1)) (aS ((x0 + x1)) ((x2 + 1))) (aS ((x0 + (x1 + 1))) ((x2 + 1 + 1))) h0
theorem ar587 : ∀ {z0 z1 : Int} (h : ¬ (z0 < z1)) (h : ¬ (z1 < z0)), z0 = z1 := @ar 0 2 (.i (.n (.t' (.v 0) (.v 1))) (.i (.n (.t' (.v 1) (.v 0))) (.E (.v 0) (.v 1)))) (.b (.l [1, 1]) (.l [1, 0, 1])) rfl
theorem ar588 : ∀ {x0 x1 x2 : Nat} (h : x0 < x1 + (x2 + 1)) (h : x1 + x2 ≤ x0), x0 = x1 + x2 := @ar 3 0 (.i (.t (.v 0) (.a (.v 1) (.s (.v 2)))) (.i (.l (.a (.v 1) (.v 2)) (.v 0)) (.e (.v 0) (.a (.v 1) (.v 2))))) (.b (.l [1, 0, 1]) (.l [1, 1])) rfl
theorem ar589 : ∀ {x0 : Nat}, 0 + 1 ≤ x0 + 1 := @ar 1 0 (.l (.s (.n 0)) (.s (.v 0))) (.l [1]) rfl
theorem ar590 {x0 x1 x2 : Nat} (h0 : x0 < x1 + (x2 + 1)) (h1 : x1 + (x2 + 1) - (0 + 1) ≤ x0) : x0 = x1 + (x2 + 1) - 1 :=
  ar 5 0 (.i (.S (.a (.v 1) (.s (.v 2))) (.n 1) (.v 3)) (.i (.S (.a (.v 1) (.s (.v 2))) (.s (.n 0)) (.v 4)) (.i (.t (.v 0) (.a (.v 1) (.s (.v 2)))) (.i (.l (.v 4) (.v 0)) (.e (.v 0) (.v 3)))))) (.b (.b (.b (.l [0, 1, 0, 0, 0, 0, 1, 0, 1]) (.l [0, 1, 1, 0, 0, 0, 1, 0, 1])) (.l [0, 0, 1, 1, 0, 1])) (.b (.b (.l [1, 0, 0, 0, 1, 0, 1, 1]) (.l [1, 0, 0, 0, 1, 1, 1, 1])) (.b (.l [1, 0, 0, 0, 1, 1, 1, 1]) (.l [1, 0, 0, 0, 1, 0, 1, 1])))) rfl x0 x1 x2 (x1 + (x2 + 1) - 1) (x1 + (x2 + 1) - (0 + 1)) (aS ((x1 + (x2 + 1))) 1) (aS ((x1 + (x2 + 1))) ((0 + 1))) h0 h1
theorem ar591 : ∀ {x0 x1 x2 x3 x4 : Nat} (h : x0 + x3 ≤ x4) (h : x1 < x3) (h : x2 = x4), x0 + x1 ≤ x2 := @ar 5 0 (.i (.l (.a (.v 0) (.v 3)) (.v 4)) (.i (.t (.v 1) (.v 3)) (.i (.e (.v 2) (.v 4)) (.l (.a (.v 0) (.v 1)) (.v 2))))) (.l [1, 0, 1, 1, 1]) rfl
theorem ar592 {x0 x1 : Nat} (h0 : x0 ≤ x1) (h1 : ¬ (x0 = x1)) : max (x0 + 1) x1 = x1 :=
  ar 3 0 (.i (.X (.s (.v 0)) (.v 1) (.v 2)) (.i (.l (.v 0) (.v 1)) (.i (.n (.e (.v 0) (.v 1))) (.e (.v 2) (.v 1))))) (.b (.b (.l [1, 0, 1]) (.b (.l [1, 0, 0, 0, 1]) (.l [1, 0, 0, 1, 1]))) (.b (.l [1, 0, 1]) (.b (.l [0, 1, 0, 0, 1]) (.l [0, 1, 1, 0, 1])))) rfl x0 x1 (max (x0 + 1) x1) (aX ((x0 + 1)) x1) h0 h1
theorem ar593 : ∀ {x0 x1 : Nat} (h : x0 ≤ x1) (h : ¬ (x0 = x1)), x0 + 1 ≤ x1 := @ar 2 0 (.i (.l (.v 0) (.v 1)) (.i (.n (.e (.v 0) (.v 1))) (.l (.s (.v 0)) (.v 1)))) (.b (.l [1, 0, 1]) (.l [1, 1])) rfl
theorem ar594 : ∀ {x0 x1 x2 x3 : Nat} (h : x0 ≤ x1) (h : x1 ≤ x3) (h : x3 < x0 + x2), x0 ≤ x1 ∧ x1 < x0 + x2 := @ar 4 0 (.i (.l (.v 0) (.v 1)) (.i (.l (.v 1) (.v 3)) (.i (.t (.v 3) (.a (.v 0) (.v 2))) (.a (.l (.v 0) (.v 1)) (.t (.v 1) (.a (.v 0) (.v 2))))))) (.b (.l [1, 0, 0, 1]) (.l [1, 1, 1])) rfl
theorem ar595 : ∀ {x0 x1 x2 x3 : Nat} (h : x0 ≤ x3) (h : x1 < x0 + x2) (h : x3 ≤ x1), x0 ≤ x1 ∧ x1 < x0 + x2 := @ar 4 0 (.i (.l (.v 0) (.v 3)) (.i (.t (.v 1) (.a (.v 0) (.v 2))) (.i (.l (.v 3) (.v 1)) (.a (.l (.v 0) (.v 1)) (.t (.v 1) (.a (.v 0) (.v 2))))))) (.b (.l [1, 1, 0, 1]) (.l [1, 0, 1])) rfl
theorem ar596 {x0 x1 x2 : Nat} (h0 : x2 < x0 + x1) : x0 ≤ x0 + (x0 + x1) - 1 - x2 :=
  ar 5 0 (.i (.S (.a (.v 0) (.a (.v 0) (.v 1))) (.n 1) (.v 3)) (.i (.S (.v 3) (.v 2) (.v 4)) (.i (.t (.v 2) (.a (.v 0) (.v 1))) (.l (.v 0) (.v 4))))) (.b (.b (.l [0, 1, 0, 0, 1, 0, 1, 1]) (.l [0, 1, 1, 0, 1, 0, 1, 1])) (.b (.l [0, 1, 0, 0, 1, 1, 1, 1]) (.l [0, 1, 1, 0, 1, 1, 1, 1]))) rfl x0 x1 x2 (x0 + (x0 + x1) - 1) (x0 + (x0 + x1) - 1 - x2) (aS ((x0 + (x0 + x1))) 1) (aS ((x0 + (x0 + x1) - 1)) x2) h0
theorem ar597 {x0 x1 x2 x3 : Nat} (h0 : x3 ≤ x2) : x0 + (x0 + x1) - 1 - x2 ≤ x0 + (x0 + x1) - 1 - x3 :=
  ar 7 0 (.i (.S (.v 4) (.v 2) (.v 5)) (.i (.S (.v 4) (.v 3) (.v 6)) (.i (.l (.v 3) (.v 2)) (.l (.v 5) (.v 6))))) (.b (.b (.l [1, 0, 0, 0, 1, 0, 1, 1]) (.l [1, 0, 0, 0, 1, 1, 1])) (.b (.l [1, 0, 0, 0, 1, 1, 1, 1]) (.l [1, 0, 0, 0, 1, 0, 1]))) rfl x0 x1 x2 x3 (x0 + (x0 + x1) - 1) (x0 + (x0 + x1) - 1 - x2) (x0 + (x0 + x1) - 1 - x3) (aS ((x0 + (x0 + x1) - 1)) x2) (aS ((x0 + (x0 + x1) - 1)) x3) h0
theorem ar598 {x0 x1 x2 x3 : Nat} (h0 : x0 ≤ x2) (h1 : x3 < x0 + x1) : x0 + (x0 + x1) - 1 - x2 < x0 + x1 :=
  ar 6 0 (.i (.S (.a (.v 0) (.a (.v 0) (.v 1))) (.n 1) (.v 4)) (.i (.S (.v 4) (.v 2) (.v 5)) (.i (.l (.v 0) (.v 2)) (.i (.t (.v 3) (.a (.v 0) (.v 1))) (.t (.v 5) (.a (.v 0) (.v 1))))))) (.b (.b (.l [1, 0, 0, 1, 0, 0, 1, 0, 1]) (.l [1, 0, 0, 1, 0, 0, 1, 1, 1])) (.l [1, 0, 0, 1, 1])) rfl x0 x1 x2 x3 (x0 + (x0 + x1) - 1) (x0 + (x0 + x1) - 1 - x2) (aS ((x0 + (x0 + x1))) 1) (aS ((x0 + (x0 + x1) - 1)) x2) h0 h1
theorem ar599 : ∀ {x0 x1 x2 : Nat} (h : x1 < x0), ¬ (x0 ≤ x1 ∧ x1 < x0 + x2) := @ar 3 0 (.i (.t (.v 1) (.v 0)) (.n (.a (.l (.v 0) (.v 1)) (.t (.v 1) (.a (.v 0) (.v 2)))))) (.l [0, 1, 1]) rfl
theorem ar600 : ∀ {x0 x1 x2 x3 : Nat} (h : x2 + 1 ≤ x3) (h : x3 ≤ x1), x0 < x0 + x1 := @ar 4 0 (.i (.l (.s (.v 2)) (.v 3)) (.i (.l (.v 3) (.v 1)) (.t (.v 0) (.a (.v 0) (.v 1))))) (.l [1, 1, 1]) rfl
theorem ar601 : ∀ {x0 x1 x2 : Nat} (h : x1 + 1 ≤ x2) (h : x2 ≤ x0), 1 ≤ x0 := @ar 3 0 (.i (.l (.s (.v 1)) (.v 2)) (.i (.l (.v 2) (.v 0)) (.l (.n 1) (.v 0)))) (.l [1, 1, 1]) rfl
theorem ar602 {x0 x1 : Nat} (h0 : x0 ≤ x1) : max x0 x1 = x1 :=
  ar 3 0 (.i (.X (.v 0) (.v 1) (.v 2)) (.i (.l (.v 0) (.v 1)) (.e (.v 2) (.v 1)))) (.b (.b (.l [1, 0, 0, 1]) (.l [1, 0, 0, 1, 1])) (.b (.l [0, 1, 0, 1]) (.l [0, 1, 1, 1]))) rfl x0 x1 (max x0 x1) (aX x0 x1) h0
theorem ar603 {x0 x1 x2 : Nat} (h0 : x0 < x1 + x2) (h1 : x1 ≤ x0) (h2 : ¬ (1 < x2)) : x0 = x1 + x2 - 1 :=
  ar 4 0 (.i (.S (.a (.v 1) (.v 2)) (.n 1) (.v 3)) (.i (.t (.v 0) (.a (.v 1) (.v 2))) (.i (.l (.v 1) (.v 0)) (.i (.n (.t (.n 1) (.v 2))) (.e (.v 0) (.v 3)))))) (.b (.b (.l [0, 1, 0, 1, 0, 0, 1]) (.l [0, 1, 1, 1, 0, 0, 1])) (.b (.l [1, 0, 0, 1, 1, 1]) (.l [1, 0, 0, 1]))) rfl x0 x1 x2 (x1 + x2 - 1) (aS ((x1 + x2)) 1) h0 h1 h2
theorem ar604 : ∀ {x0 : Nat} (h : x0 < 128), x0 ≤ 16777216 := @ar 1 0 (.i (.t (.v 0) (.n 128)) (.l (.v 0) (.n 16777216))) (.l [1, 1]) rfl
theorem ar605 : ∀ {x0 x1 x2 : Nat} (h : x0 ≤ x2) (h : x2 < x1), x0 < x1 := @ar 3 0 (.i (.l (.v 0) (.v 2)) (.i (.t (.v 2) (.v 1)) (.t (.v 0) (.v 1)))) (.l [1, 1, 1]) rfl
theorem ar606 : ∀ {x0 : Nat} (h : x0 < 2), x0 ≤ 16777216 + 1 := @ar 1 0 (.i (.t (.v 0) (.n 2)) (.l (.v 0) (.s (.n 16777216)))) (.l [1, 1]) rfl
theorem ar607 : ∀ {x0 x1 x2 : Nat} (h : x0 ≤ x1) (h : x1 < x2) (h : x2 < 2), x0 = x1 := @ar 3 0 (.i (.l (.v 0) (.v 1)) (.i (.t (.v 1) (.v 2)) (.i (.t (.v 2) (.n 2)) (.e (.v 0) (.v 1))))) (.b (.l [1, 0, 0, 1]) (.l [1, 1, 1])) rfl
theorem ar608 : ∀ {x0 : Nat} (h : ¬ (x0 < 2)), 2 ≤ x0 := @ar 1 0 (.i (.n (.t (.v 0) (.n 2))) (.l (.n 2) (.v 0))) (.l [1, 1]) rfl
theorem ar609 : ∀ {x0 : Nat} (h : x0 < 128), x0 ≤ 16777216 + 1 := @ar 1 0 (.i (.t (.v 0) (.n 128)) (.l (.v 0) (.s (.n 16777216)))) (.l [1, 1]) rfl
theorem ar610 : ∀ {z0 z1 z2 z3 : Int} (h : (0 : Int) ≤ z2 ∧ z2 < 1000) (h : (0 : Int) ≤ z3 ∧ z3 < 1000) (h : z0 * 1000 + z2 = z1 * 1000 + z3), z0 = z1 := @ar 0 4 (.i (.a (.L (.n 0) (.v 2)) (.t' (.v 2) (.n 1000))) (.i (.a (.L (.n 0) (.v 3)) (.t' (.v 3) (.n 1000))) (.i (.E (.a (.r (.v 0) (1000)) (.v 2)) (.a (.r (.v 1) (1000)) (.v 3))) (.E (.v 0) (.v 1))))) (.b (.l [1000, 1, 0, 1, 0, 0, 1]) (.l [1000, 0, 1, 0, 1, 1])) rfl
theorem ar611 {z0 z1 : Int} (h0 : (0 : Int) ≤ z1 ∧ z1 < 1000) : (z0 * 1000 + z1) / 1000 = z0 :=
  ar 0 4 (.i (.J 1000 (.a (.r (.v 0) (1000)) (.v 1)) (.v 2) (.v 3)) (.i (.a (.L (.n 0) (.v 1)) (.t' (.v 1) (.n 1000))) (.E (.v 2) (.v 0)))) (.b (.l [1000, 1, 0, 0, 1, 1]) (.l [1000, 0, 1, 1, 0, 0, 1])) rfl z0 z1 ((z0 * 1000 + z1) / 1000) ((z0 * 1000 + z1) % 1000) (aJ ((z0 * 1000 + z1)) 1000 rfl) h0
theorem ar612 : ∀ {x0 x1 : Nat} (h : x0 = x1) (h : x1 < 128), x0 < 128 := @ar 2 0 (.i (.e (.v 0) (.v 1)) (.i (.t (.v 1) (.n 128)) (.t (.v 0) (.n 128)))) (.l [1, 1, 1]) rfl
theorem ar613 : ∀ {z0 z1 : Int} (h : z0 ≤ z1) (h : z1 ≤ z0), z0 = z1 := @ar 0 2 (.i (.L (.v 0) (.v 1)) (.i (.L (.v 1) (.v 0)) (.E (.v 0) (.v 1)))) (.b (.l [1, 0, 1]) (.l [1, 1])) rfl
theorem ar614 : ∀ {x0 x1 : Nat} (h : x0 = x1) (h : x1 < 64), x0 < 64 := @ar 2 0 (.i (.e (.v 0) (.v 1)) (.i (.t (.v 1) (.n 64)) (.t (.v 0) (.n 64)))) (.l [1, 1, 1]) rfl
theorem ar615 : ∀ {x0 : Nat} (h : x0 < 64), x0 ≤ 16777216 := @ar 1 0 (.i (.t (.v 0) (.n 64)) (.l (.v 0) (.n 16777216))) (.l [1, 1]) rfl
theorem ar616 {x0 : Nat} (h0 : 1 ≤ x0) : max x0 1 = x0 :=
  ar 2 0 (.i (.X (.v 0) (.n 1) (.v 1)) (.i (.l (.n 1) (.v 0)) (.e (.v 1) (.v 0)))) (.b (.b (.l [1, 0, 0, 1, 1]) (.l [1, 0, 0, 1])) (.b (.l [0, 1, 1, 1]) (.l [0, 1, 0, 1]))) rfl x0 (max x0 1) (aX x0 1) h0
theorem ar617 {x0 x1 : Nat} (h0 : max (max x0 1) x1 ≤ x1) : max (max x0 1) x1 = x1 :=
  ar 4 0 (.i (.X (.v 2) (.v 1) (.v 3)) (.i (.l (.v 3) (.v 1)) (.e (.v 3) (.v 1)))) (.b (.l [1, 1]) (.b (.l [0, 1, 0, 1]) (.l [0, 1, 1, 1]))) rfl x0 x1 (max x0 1) (max (max x0 1) x1) (aX ((max x0 1)) x1) h0
theorem ar618 {x0 : Nat} : x0 - 0 ≤ x0 - 0 :=
  ar 2 0 (.l (.v 1) (.v 1)) (.l [1]) rfl x0 (x0 - 0)
theorem ar619 : ∀ {x0 x1 : Nat} {z0 z1 : Int} (h : x0 < x1 + 0) (h : x1 ≤ x0), z0 ≤ z1 := @ar 2 2 (.i (.t (.v 0) (.a (.v 1) (.n 0))) (.i (.l (.v 1) (.v 0)) (.L (.v 0) (.v 1)))) (.l [0, 1, 1]) rfl
theorem ar620 : ∀ {x0 x1 x2 : Nat} {z0 z1 : Int} (h : x0 + x1 ≤ x2) (h : x2 < x0 + x1), z0 < z1 := @ar 3 2 (.i (.l (.a (.v 0) (.v 1)) (.v 2)) (.i (.t (.v 2) (.a (.v 0) (.v 1))) (.t' (.v 0) (.v 1)))) (.l [0, 1, 1]) rfl
theorem ar621 {x0 x1 x2 : Nat} (h0 : x0 ≤ x1) (h1 : x1 - x0 ≤ x2 - max 0 x2) : x0 = x1 :=
  ar 6 0 (.i (.S (.v 1) (.v 0) (.v 3)) (.i (.X (.n 0) (.v 2) (.v 4)) (.i (.S (.v 2) (.v 4) (.v 5)) (.i (.l (.v 0) (.v 1)) (.i (.l (.v 3) (.v 5)) (.e (.v 0) (.v 1))))))) (.b (.l [1, 0, 1]) (.b (.b (.b (.l [0, 1, 0, 0, 1, 0, 1, 0, 0, 1, 1]) (.l [0, 0, 1, 0, 0, 0, 0, 0, 0, 1])) (.b (.l [0, 1, 0, 0, 1, 1, 1, 0, 0, 1, 1]) (.l [0, 0, 1, 0, 0, 0, 0, 0, 0, 1]))) (.s (.b (.l [0, 1, 0, 1, 0, 0, 1, 1]) (.l [0, 0, 1, 0, 0, 0, 1]))))) rfl x0 x1 x2 (x1 - x0) (max 0 x2) (x2 - max 0 x2) (aS x1 x0) (aX 0 x2) (aS x2 ((max 0 x2))) h0 h1
theorem ar622 {x0 x1 x2 x3 x4 x5 : Nat} (h0 : x0 + x4 ≤ x3) (h1 : x2 ≤ x5) (h2 : x5 < x4) (h3 : ¬ (x2 ≤ x1)) : x0 + (x1 + x2) / 2 < x3 :=
  ar 8 0 (.i (.K 2 (.a (.v 1) (.v 2)) (.v 6) (.v 7)) (.i (.l (.a (.v 0) (.v 4)) (.v 3)) (.i (.l (.v 2) (.v 5)) (.i (.t (.v 5) (.v 4)) (.i (.n (.l (.v 2) (.v 1))) (.t (.a (.v 0) (.v 6)) (.v 3))))))) (.l [2, 1, 2, 2, 2, 0, 1]) rfl x0 x1 x2 x3 x4 x5 ((x1 + x2) / 2) ((x1 + x2) % 2) (aK ((x1 + x2)) 2 rfl) h0 h1 h2 h3
theorem ar623 {x0 x1 : Nat} (h0 : ¬ (x1 ≤ x0)) : (x0 + x1) / 2 + 1 ≤ x1 :=
  ar 4 0 (.i (.K 2 (.a (.v 0) (.v 1)) (.v 2) (.v 3)) (.i (.n (.l (.v 1) (.v 0))) (.l (.s (.v 2)) (.v 1)))) (.l [2, 1, 0, 1]) rfl x0 x1 ((x0 + x1) / 2) ((x0 + x1) % 2) (aK ((x0 + x1)) 2 rfl) h0
theorem ar624 {x0 x1 x2 x3 : Nat} (h0 : x0 - x1 ≤ x2 - x3) : x0 - ((x1 + x0) / 2 + 1) ≤ x2 - (x3 + 1) :=
  ar 10 0 (.i (.K 2 (.a (.v 1) (.v 0)) (.v 4) (.v 5)) (.i (.S (.v 0) (.s (.v 4)) (.v 6)) (.i (.S (.v 2) (.s (.v 3)) (.v 7)) (.i (.S (.v 0) (.v 1) (.v 8)) (.i (.S (.v 2) (.v 3) (.v 9)) (.i (.l (.v 8) (.v 9)) (.l (.v 6) (.v 7)))))))) (.b (.b (.b (.b (.l [2, 0, 0, 0, 2, 1, 0, 1, 0, 1, 0, 0, 2, 1, 1, 0, 1]) (.l [1, 0, 0, 0, 1, 1, 0, 0, 0, 0, 0, 0, 1])) (.b (.l [2, 0, 0, 0, 2, 1, 0, 1, 0, 1, 0, 0, 2, 1, 1, 0, 1]) (.l [1, 0, 0, 0, 1, 0, 0, 0, 0, 0, 0, 0, 1]))) (.s (.b (.l [0, 0, 2, 0, 0, 1, 0, 0, 0, 0, 0, 1, 0, 1]) (.l [1, 0, 0, 0, 0, 0, 0, 0, 0, 1])))) (.b (.b (.l [0, 0, 1, 0, 0, 0, 0, 0, 1]) (.b (.l [2, 0, 0, 0, 2, 0, 0, 1, 0, 1, 0, 0, 2, 1, 1, 0, 1]) (.l [1, 0, 0, 0, 1, 0, 0, 0, 0, 0, 0, 0, 1]))) (.b (.l [0, 0, 1, 0, 0, 0, 0, 0, 1]) (.b (.l [2, 0, 0, 0, 2, 0, 0, 0, 1, 0, 0, 0, 2, 0, 1, 0, 1]) (.l [1, 0, 0, 0, 1, 0, 0, 0, 0, 0, 0, 0, 1]))))) rfl x0 x1 x2 x3 ((x1 + x0) / 2) ((x1 + x0) % 2) (x0 - ((x1 + x0) / 2 + 1)) (x2 - (x3 + 1)) (x0 - x1) (x2 - x3) (aK ((x1 + x0)) 2 rfl) (aS x0 (((x1 + x0) / 2 + 1))) (aS x2 ((x3 + 1))) (aS x0 x1) (aS x2 x3) h0
theorem ar625 {x0 x1 x2 x3 : Nat} (h0 : x0 < x1 + ((x2 + x3) / 2 + 1)) : x0 ≤ x1 + (x2 + x3) / 2 :=
  ar 5 0 (.i (.t (.v 0) (.a (.v 1) (.s (.v 4)))) (.l (.v 0) (.a (.v 1) (.v 4)))) (.l [1, 1]) rfl x0 x1 x2 x3 ((x2 + x3) / 2) h0
theorem ar626 {x0 x1 x2 x3 : Nat} (h0 : x2 ≤ x3) (h1 : ¬ (x2 ≤ x1)) : x0 + (x1 + x2) / 2 < x0 + x3 :=
  ar 6 0 (.i (.K 2 (.a (.v 1) (.v 2)) (.v 4) (.v 5)) (.i (.l (.v 2) (.v 3)) (.i (.n (.l (.v 2) (.v 1))) (.t (.a (.v 0) (.v 4)) (.a (.v 0) (.v 3)))))) (.l [2, 1, 2, 0, 1]) rfl x0 x1 x2 x3 ((x1 + x2) / 2) ((x1 + x2) % 2) (aK ((x1 + x2)) 2 rfl) h0 h1
theorem ar627 : ∀ {z0 z1 z2 : Int} (h : z0 ≤ z2) (h : ¬ (z1 < z2)), z0 ≤ z1 := @ar 0 3 (.i (.L (.v 0) (.v 2)) (.i (.n (.t' (.v 1) (.v 2))) (.L (.v 0) (.v 1)))) (.l [1, 1, 1]) rfl
theorem ar628 {x0 x1 : Nat} (h0 : ¬ (x1 ≤ x0)) : x0 ≤ (x0 + x1) / 2 :=
  ar 4 0 (.i (.K 2 (.a (.v 0) (.v 1)) (.v 2) (.v 3)) (.i (.n (.l (.v 1) (.v 0))) (.l (.v 0) (.v 2)))) (.l [2, 1, 1, 0, 1]) rfl x0 x1 ((x0 + x1) / 2) ((x0 + x1) % 2) (aK ((x0 + x1)) 2 rfl) h0
theorem ar629 {x0 x1 x2 : Nat} (h0 : x1 ≤ x2) (h1 : ¬ (x1 ≤ x0)) : (x0 + x1) / 2 ≤ x2 :=
  ar 5 0 (.i (.K 2 (.a (.v 0) (.v 1)) (.v 3) (.v 4)) (.i (.l (.v 1) (.v 2)) (.i (.n (.l (.v 1) (.v 0))) (.l (.v 3) (.v 2))))) (.l [2, 1, 2, 0, 1]) rfl x0 x1 x2 ((x0 + x1) / 2) ((x0 + x1) % 2) (aK ((x0 + x1)) 2 rfl) h0 h1
theorem ar630 {x0 x1 x2 x3 : Nat} (h0 : x1 - x0 ≤ x2 - x3) : (x0 + x1) / 2 - x0 ≤ x2 - (x3 + 1) :=
  ar 10 0 (.i (.K 2 (.a (.v 0) (.v 1)) (.v 4) (.v 5)) (.i (.S (.v 4) (.v 0) (.v 6)) (.i (.S (.v 2) (.s (.v 3)) (.v 7)) (.i (.S (.v 1) (.v 0) (.v 8)) (.i (.S (.v 2) (.v 3) (.v 9)) (.i (.l (.v 8) (.v 9)) (.l (.v 6) (.v 7)))))))) (.b (.b (.b (.b (.l [2, 0, 0, 0, 2, 1, 0, 1, 0, 1, 0, 0, 2, 1, 0, 1]) (.l [1, 0, 0, 0, 1, 1, 0, 0, 0, 0, 0, 0, 1])) (.b (.l [2, 0, 0, 0, 2, 1, 0, 1, 0, 1, 0, 0, 2, 1, 0, 1]) (.l [1, 0, 0, 0, 1, 0, 0, 0, 0, 0, 0, 0, 1]))) (.s (.b (.l [2, 0, 0, 0, 0, 1, 0, 0, 0, 2, 0, 0, 1]) (.l [1, 0, 0, 0, 0, 0, 0, 0, 0, 1])))) (.b (.b (.l [0, 0, 1, 0, 0, 0, 0, 0, 1]) (.b (.l [2, 0, 0, 0, 2, 0, 0, 1, 0, 1, 0, 0, 2, 1, 0, 1]) (.l [1, 0, 0, 0, 1, 0, 0, 0, 0, 0, 0, 0, 1]))) (.b (.l [0, 0, 1, 0, 0, 0, 0, 0, 1]) (.b (.l [2, 0, 0, 0, 2, 0, 0, 0, 1, 0, 0, 0, 2, 0, 0, 1]) (.l [1, 0, 0, 0, 1, 0, 0, 0, 0, 0, 0, 0, 1]))))) rfl x0 x1 x2 x3 ((x0 + x1) / 2) ((x0 + x1) % 2) ((x0 + x1) / 2 - x0) (x2 - (x3 + 1)) (x1 - x0) (x2 - x3) (aK ((x0 + x1)) 2 rfl) (aS (((x0 + x1) / 2)) x0) (aS x2 ((x3 + 1))) (aS x1 x0) (aS x2 x3) h0
theorem ar631 {x0 x1 x2 : Nat} : x0 ≤ x0 + (x1 + x2) / 2 :=
  ar 4 0 (.l (.v 0) (.a (.v 0) (.v 3))) (.l [1]) rfl x0 x1 x2 ((x1 + x2) / 2)
theorem ar632 : ∀ {z0 z1 z2 : Int} (h : z0 < z2) (h : z2 ≤ z1), z0 < z1 := @ar 0 3 (.i (.t' (.v 0) (.v 2)) (.i (.L (.v 2) (.v 1)) (.t' (.v 0) (.v 1)))) (.l [1, 1, 1]) rfl
theorem ar633 : ∀ {x0 x1 x2 x3 x4 : Nat} (h : x0 + x3 ≤ x4) (h : x1 < x3) (h : x2 = x4), x0 + x1 < x2 := @ar 5 0 (.i (.l (.a (.v 0) (.v 3)) (.v 4)) (.i (.t (.v 1) (.v 3)) (.i (.e (.v 2) (.v 4)) (.t (.a (.v 0) (.v 1)) (.v 2))))) (.l [1, 0, 1, 1, 1]) rfl
theorem ar634 {x0 x1 x2 : Nat} : x0 + x1 - (x0 + x2) ≤ x0 + x1 :=
  ar 4 0 (.i (.S (.a (.v 0) (.v 1)) (.a (.v 0) (.v 2)) (.v 3)) (.l (.v 3) (.a (.v 0) (.v 1)))) (.b (.l [1, 0, 0, 1]) (.l [1, 0, 0, 1])) rfl x0 x1 x2 (x0 + x1 - (x0 + x2)) (aS ((x0 + x1)) ((x0 + x2)))
theorem ar635 {x0 x1 x2 x3 : Nat} (h0 : x0 < x1) : ¬ (x0 = x1 + x2 - (x1 + x2 - (x1 + x3))) :=
  ar 6 0 (.i (.S (.a (.v 1) (.v 2)) (.a (.v 1) (.v 3)) (.v 4)) (.i (.S (.a (.v 1) (.v 2)) (.v 4) (.v 5)) (.i (.t (.v 0) (.v 1)) (.n (.e (.v 0) (.v 5)))))) (.b (.b (.l [1, 0, 0, 0, 1, 0, 0, 1, 1]) (.l [1, 0, 0, 0, 1, 0, 0, 1, 1])) (.b (.l [1, 0, 0, 0, 1, 1, 0, 1, 1]) (.l [1, 0, 0, 0, 1, 1, 0, 1, 1]))) rfl x0 x1 x2 x3 (x1 + x2 - (x1 + x3)) (x1 + x2 - (x1 + x2 - (x1 + x3))) (aS ((x1 + x2)) ((x1 + x3))) (aS ((x1 + x2)) ((x1 + x2 - (x1 + x3)))) h0
theorem ar636 {x0 x1 x2 x3 : Nat} (h0 : x3 < x0) : ¬ (x0 + x1 - (x0 + x1 - (x0 + x2)) < x3 ∧ x3 ≤ x0 + x1) :=
  ar 6 0 (.i (.S (.a (.v 0) (.v 1)) (.a (.v 0) (.v 2)) (.v 4)) (.i (.S (.a (.v 0) (.v 1)) (.v 4) (.v 5)) (.i (.t (.v 3) (.v 0)) (.n (.a (.t (.v 5) (.v 3)) (.l (.v 3) (.a (.v 0) (.v 1)))))))) (.b (.b (.l [1, 0, 0, 0, 1, 0, 0, 1, 1]) (.l [1, 0, 0, 0, 1, 0, 1, 1])) (.b (.l [1, 0, 0, 0, 1, 1, 0, 1, 1]) (.l [1, 0, 0, 0, 1, 1, 1, 1]))) rfl x0 x1 x2 x3 (x0 + x1 - (x0 + x2)) (x0 + x1 - (x0 + x1 - (x0 + x2))) (aS ((x0 + x1)) ((x0 + x2))) (aS ((x0 + x1)) ((x0 + x1 - (x0 + x2)))) h0
theorem ar637 {x0 x1 x2 : Nat} (h0 : x2 ≤ x1) : x0 + x1 - (x0 + x1 - (x0 + x2)) = x0 + x2 :=
  ar 5 0 (.i (.S (.a (.v 0) (.v 1)) (.a (.v 0) (.v 2)) (.v 3)) (.i (.S (.a (.v 0) (.v 1)) (.v 3) (.v 4)) (.i (.l (.v 2) (.v 1)) (.e (.v 4) (.a (.v 0) (.v 2)))))) (.b (.b (.b (.l [0, 1, 0, 1, 0, 0, 1]) (.l [0, 1, 1, 1, 0, 0, 1])) (.l [1, 0, 0, 1])) (.b (.b (.l [1, 0, 0, 0, 1, 0, 1]) (.l [1, 0, 0, 0, 1, 0, 1, 1])) (.b (.l [1, 0, 0, 0, 1, 1, 1]) (.l [1, 0, 0, 0, 1, 1, 1, 1])))) rfl x0 x1 x2 (x0 + x1 - (x0 + x2)) (x0 + x1 - (x0 + x1 - (x0 + x2))) (aS ((x0 + x1)) ((x0 + x2))) (aS ((x0 + x1)) ((x0 + x1 - (x0 + x2)))) h0
theorem ar638 {x0 x1 x2 x3 : Nat} (h0 : x0 + x1 < x2 ∧ x2 ≤ x0 + x3) : x0 + x1 ≤ x2 - 1 :=
  ar 5 0 (.i (.S (.v 2) (.n 1) (.v 4)) (.i (.a (.t (.a (.v 0) (.v 1)) (.v 2)) (.l (.v 2) (.a (.v 0) (.v 3)))) (.l (.a (.v 0) (.v 1)) (.v 4)))) (.b (.l [0, 1, 0, 1, 0, 1]) (.l [0, 1, 1, 1, 0, 1])) rfl x0 x1 x2 x3 (x2 - 1) (aS x2 1) h0
theorem ar639 {x0 x1 x2 x3 : Nat} (h0 : x1 + x3 < x0 ∧ x0 ≤ x1 + x2) : x0 - 1 < x1 + x2 :=
  ar 5 0 (.i (.S (.v 0) (.n 1) (.v 4)) (.i (.a (.t (.a (.v 1) (.v 3)) (.v 0)) (.l (.v 0) (.a (.v 1) (.v 2)))) (.t (.v 4) (.a (.v 1) (.v 2))))) (.b (.l [1, 0, 0, 1, 1]) (.l [1, 0, 0, 1, 1, 1])) rfl x0 x1 x2 x3 (x0 - 1) (aS x0 1) h0
theorem ar640 : ∀ {x0 x1 x2 x3 x4 : Nat} (h : x0 ≤ x1) (h : x1 < x2 + (x3 + 1)) (h : x0 = x2 + x4) (h : ¬ (x1 = x2 + x4)) (h : ¬ (x2 + x4 < x1 ∧ x1 ≤ x2 + x3)), False := @ar 5 0 (.i (.l (.v 0) (.v 1)) (.i (.t (.v 1) (.a (.v 2) (.s (.v 3)))) (.i (.e (.v 0) (.a (.v 2) (.v 4))) (.i (.n (.e (.v 1) (.a (.v 2) (.v 4)))) (.i (.n (.a (.t (.a (.v 2) (.v 4)) (.v 1)) (.l (.v 1) (.a (.v 2) (.v 3))))) .f))))) (.b (.b (.l [1, 1]) (.l [1, 0, 0, 0, 1, 0, 1])) (.l [1, 0, 0, 0, 1])) rfl
theorem ar641 : ∀ {x0 x1 x2 x3 x4 : Nat} (h : x0 + x1 < x2 ∧ x2 ≤ x0 + x3) (h : x2 ≤ x4) (h : x4 = x0 + x1), False := @ar 5 0 (.i (.a (.t (.a (.v 0) (.v 1)) (.v 2)) (.l (.v 2) (.a (.v 0) (.v 3)))) (.i (.l (.v 2) (.v 4)) (.i (.e (.v 4) (.a (.v 0) (.v 1))) .f))) (.l [0, 1, 0, 1, 0, 1]) rfl
theorem ar642 {x0 x1 x2 x3 : Nat} (h0 : x0 + x2 < x1 ∧ x1 ≤ x0 + x3) : x0 ≤ x1 - 1 :=
  ar 5 0 (.i (.S (.v 1) (.n 1) (.v 4)) (.i (.a (.t (.a (.v 0) (.v 2)) (.v 1)) (.l (.v 1) (.a (.v 0) (.v 3)))) (.l (.v 0) (.v 4)))) (.b (.l [0, 1, 0, 1, 0, 1]) (.l [0, 1, 1, 1, 0, 1])) rfl x0 x1 x2 x3 (x1 - 1) (aS x1 1) h0
theorem ar643 {x0 x1 : Nat} (h0 : x0 ≤ x1) : x0 - 1 ≤ x1 - 1 :=
  ar 4 0 (.i (.S (.v 0) (.n 1) (.v 2)) (.i (.S (.v 1) (.n 1) (.v 3)) (.i (.l (.v 0) (.v 1)) (.l (.v 2) (.v 3))))) (.b (.b (.l [1, 0, 0, 0, 1, 0, 1, 1]) (.l [1, 0, 0, 0, 1, 1, 1])) (.b (.l [1, 0, 0, 0, 1, 1, 1, 1]) (.l [1, 0, 0, 0, 1, 0, 1]))) rfl x0 x1 (x0 - 1) (x1 - 1) (aS x0 1) (aS x1 1) h0
theorem ar644 : ∀ {x0 x1 x2 x3 x4 : Nat} (h : x0 + x1 < x2 ∧ x2 ≤ x0 + x3) (h : x2 ≤ x4) (h : x4 < x0 + (x3 + 1)) (h : ¬ (x0 + x1 < x4 ∧ x4 ≤ x0 + x3)), False := @ar 5 0 (.i (.a (.t (.a (.v 0) (.v 1)) (.v 2)) (.l (.v 2) (.a (.v 0) (.v 3)))) (.i (.l (.v 2) (.v 4)) (.i (.t (.v 4) (.a (.v 0) (.s (.v 3)))) (.i (.n (.a (.t (.a (.v 0) (.v 1)) (.v 4)) (.l (.v 4) (.a (.v 0) (.v 3))))) .f)))) (.b (.l [1, 0, 0, 1, 0, 1]) (.l [1, 0, 1])) rfl
theorem ar645 : ∀ {x0 x1 x2 x3 : Nat} (h : x0 ≤ x3) (h : x3 = x1 + x2) (h : ¬ (x0 = x1 + x2)), x0 < x1 + x2 := @ar 4 0 (.i (.l (.v 0) (.v 3)) (.i (.e (.v 3) (.a (.v 1) (.v 2))) (.i (.n (.e (.v 0) (.a (.v 1) (.v 2)))) (.t (.v 0) (.a (.v 1) (.v 2)))))) (.b (.l [1, 0, 1, 0, 1]) (.l [1, 1])) rfl
theorem ar647 {x0 x1 x2 x3 x4 : Nat} (h0 : x0 ≤ x1) (h1 : x2 + x3 < x1 ∧ x1 ≤ x2 + x4) (h2 : ¬ (x2 + x3 < x0 ∧ x0 ≤ x2 + x4)) : x0 ≤ x1 - 1 :=
  ar 6 0 (.i (.S (.v 1) (.n 1) (.v 5)) (.i (.l (.v 0) (.v 1)) (.i (.a (.t (.a (.v 2) (.v 3)) (.v 1)) (.l (.v 1) (.a (.v 2) (.v 4)))) (.i (.n (.a (.t (.a (.v 2) (.v 3)) (.v 0)) (.l (.v 0) (.a (.v 2) (.v 4))))) (.l (.v 0) (.v 5)))))) (.b (.b (.l [0, 1, 0, 1, 1, 0, 1]) (.l [0, 1, 1, 1, 1, 0, 1])) (.l [1, 0, 1, 0, 1])) rfl x0 x1 x2 x3 x4 (x1 - 1) (aS x1 1) h0 h1 h2
theorem ar649 : ∀ {x0 x1 x2 x3 : Nat} (h : x0 < x1 + (x2 + 1)) (h : x3 ≤ x2) (h : ¬ (x0 = x1 + x3)) (h : ¬ (x1 + x3 < x0 ∧ x0 ≤ x1 + x2)), x0 < x1 + x2 := @ar 4 0 (.i (.t (.v 0) (.a (.v 1) (.s (.v 2)))) (.i (.l (.v 3) (.v 2)) (.i (.n (.e (.v 0) (.a (.v 1) (.v 3)))) (.i (.n (.a (.t (.a (.v 1) (.v 3)) (.v 0)) (.l (.v 0) (.a (.v 1) (.v 2))))) (.t (.v 0) (.a (.v 1) (.v 2))))))) (.b (.b (.l [1, 1]) (.l [1, 0, 1, 1])) (.l [1, 0, 0, 1])) rfl
theorem ar650 : ∀ {z0 z1 z2 : Int} (h : z1 ≤ z2) (h : ¬ (z0 < z2)), ¬ (z0 < z1) := @ar 0 3 (.i (.L (.v 1) (.v 2)) (.i (.n (.t' (.v 0) (.v 2))) (.n (.t' (.v 0) (.v 1))))) (.l [1, 1, 1]) rfl
theorem ar651 : ∀ {z0 z1 z2 : Int} (h : z0 ≤ z2) (h : z2 < z1), z0 < z1 := @ar 0 3 (.i (.L (.v 0) (.v 2)) (.i (.t' (.v 2) (.v 1)) (.t' (.v 0) (.v 1)))) (.l [1, 1, 1]) rfl
theorem ar652 : ∀ {x0 x1 x2 : Nat} (h : x1 ≤ x2), x0 + x1 ≤ x0 + x2 := @ar 3 0 (.i (.l (.v 1) (.v 2)) (.l (.a (.v 0) (.v 1)) (.a (.v 0) (.v 2)))) (.l [1, 1]) rfl
theorem ar653 : ∀ {x0 x1 x2 : Nat} (h : x1 < x2), x0 + x1 < x0 + x2 := @ar 3 0 (.i (.t (.v 1) (.v 2)) (.t (.a (.v 0) (.v 1)) (.a (.v 0) (.v 2)))) (.l [1, 1]) rfl
theorem ar654 {x0 x1 x2 : Nat} (h0 : x0 < x2) : x0 - x1 < x2 :=
  ar 4 0 (.i (.S (.v 0) (.v 1) (.v 3)) (.i (.t (.v 0) (.v 2)) (.t (.v 3) (.v 2)))) (.b (.l [1, 0, 0, 1, 1]) (.l [1, 0, 0, 1, 1])) rfl x0 x1 x2 (x0 - x1) (aS x0 x1) h0
theorem ar655 : ∀ {x0 : Nat}, x0 < 2 * x0 + 1 := @ar 1 0 (.t (.v 0) (.s (.m 2 (.v 0)))) (.l [1]) rfl
theorem ar656 : ∀ {x0 x1 : Nat} (h : ¬ (x1 + 1 ≤ x0)), x0 ≤ x1 := @ar 2 0 (.i (.n (.l (.s (.v 1)) (.v 0))) (.l (.v 0) (.v 1))) (.l [1, 1]) rfl
theorem ar657 : ∀ {x0 x1 : Nat} (h : x0 < x1), x0 + 1 < 2 * x1 + 1 := @ar 2 0 (.i (.t (.v 0) (.v 1)) (.t (.s (.v 0)) (.s (.m 2 (.v 1))))) (.l [1, 2]) rfl
theorem ar658 {x0 x1 x2 : Nat} (h0 : max 0 x2 < x1) (h1 : x0 < x2) : x0 + 1 ≤ x1 :=
  ar 4 0 (.i (.X (.n 0) (.v 2) (.v 3)) (.i (.t (.v 3) (.v 1)) (.i (.t (.v 0) (.v 2)) (.l (.s (.v 0)) (.v 1))))) (.b (.l [0, 1, 0, 1, 1, 1]) (.l [0, 1, 1, 1, 1, 1])) rfl x0 x1 x2 (max 0 x2) (aX 0 x2) h0 h1
theorem ar659 {x0 x1 x2 : Nat} (h0 : x2 < x1) : x0 + 1 - min x1 (x0 + 1) ≤ x0 - x2 :=
  ar 6 0 (.i (.N (.v 1) (.s (.v 0)) (.v 3)) (.i (.S (.s (.v 0)) (.v 3) (.v 4)) (.i (.S (.v 0) (.v 2) (.v 5)) (.i (.t (.v 2) (.v 1)) (.l (.v 4) (.v 5)))))) (.b (.b (.b (.l [0, 1, 0, 1, 0, 0, 0, 1, 0, 1, 1]) (.l [0, 1, 0, 1, 0, 0, 0, 1, 1, 1])) (.l [1, 0, 0, 0, 1, 1, 1])) (.b (.b (.l [0, 1, 0, 1, 0, 0, 0, 1, 1, 1, 1]) (.l [0, 1, 0, 1, 0, 0, 0, 1, 0, 1])) (.l [1, 0, 0, 0, 1, 0, 1]))) rfl x0 x1 x2 (min x1 (x0 + 1)) (x0 + 1 - min x1 (x0 + 1)) (x0 - x2) (aN x1 ((x0 + 1))) (aS ((x0 + 1)) ((min x1 (x0 + 1)))) (aS x0 x2) h0
theorem ar660 {x0 x1 x2 : Nat} (h0 : x0 < x2) : x0 - x1 ≤ x2 :=
  ar 4 0 (.i (.S (.v 0) (.v 1) (.v 3)) (.i (.t (.v 0) (.v 2)) (.l (.v 3) (.v 2)))) (.b (.l [1, 0, 0, 1, 1]) (.l [1, 0, 0, 1, 1])) rfl x0 x1 x2 (x0 - x1) (aS x0 x1) h0
theorem ar661 {x0 x1 x2 : Nat} (h0 : x0 + 1 ≤ x1) (h1 : x2 < x0 + 1 - min x1 (x0 + 1)) : False :=
  ar 5 0 (.i (.N (.v 1) (.s (.v 0)) (.v 3)) (.i (.S (.s (.v 0)) (.v 3) (.v 4)) (.i (.l (.s (.v 0)) (.v 1)) (.i (.t (.v 2) (.v 4)) .f)))) (.b (.b (.l [0, 1, 0, 1, 0, 0, 0, 1, 1]) (.l [0, 1, 0, 1, 0, 0, 0, 1])) (.l [1, 0, 0, 0, 1])) rfl x0 x1 x2 (min x1 (x0 + 1)) (x0 + 1 - min x1 (x0 + 1)) (aN x1 ((x0 + 1))) (aS ((x0 + 1)) ((min x1 (x0 + 1)))) h0 h1
theorem ar662 {x0 x1 x2 : Nat} (h0 : x0 < x1 + 1 - min x2 (x1 + 1)) : x0 ≤ x1 - x2 :=
  ar 6 0 (.i (.S (.v 1) (.v 2) (.v 3)) (.i (.N (.v 2) (.s (.v 1)) (.v 4)) (.i (.S (.s (.v 1)) (.v 4) (.v 5)) (.i (.t (.v 0) (.v 5)) (.l (.v 0) (.v 3)))))) (.b (.b (.b (.l [0, 1, 0, 0, 1, 0, 1, 0, 0, 1, 1]) (.l [0, 1, 1, 0, 1, 0, 1, 0, 0, 1, 1])) (.l [0, 1, 0, 1, 0, 0, 0, 1])) (.l [1, 0, 0, 0, 1])) rfl x0 x1 x2 (x1 - x2) (min x2 (x1 + 1)) (x1 + 1 - min x2 (x1 + 1)) (aS x1 x2) (aN x2 ((x1 + 1))) (aS ((x1 + 1)) ((min x2 (x1 + 1)))) h0
theorem ar663 {x0 x1 x2 : Nat} (h0 : x0 ≤ x2) : x0 - x1 ≤ x2 - 0 :=
  ar 5 0 (.i (.S (.v 0) (.v 1) (.v 3)) (.i (.S (.v 2) (.n 0) (.v 4)) (.i (.l (.v 0) (.v 2)) (.l (.v 3) (.v 4))))) (.b (.b (.l [1, 0, 0, 0, 1, 0, 1, 1]) (.l [1, 0, 0, 0, 1, 1, 1])) (.b (.l [1, 0, 0, 0, 1, 1, 1, 1]) (.l [1, 0, 0, 0, 1, 0, 1]))) rfl x0 x1 x2 (x0 - x1) (x2 - 0) (aS x0 x1) (aS x2 0) h0
theorem ar664 {x0 x1 x2 : Nat} (h0 : x1 ≤ x2) (h1 : ¬ (x1 ≤ x0)) : x0 + (x1 - x0) / 2 < x2 :=
  ar 6 0 (.i (.S (.v 1) (.v 0) (.v 3)) (.i (.K 2 (.v 3) (.v 4) (.v 5)) (.i (.l (.v 1) (.v 2)) (.i (.n (.l (.v 1) (.v 0))) (.t (.a (.v 0) (.v 4)) (.v 2)))))) (.b (.l [1, 0, 0, 2, 1, 2, 0, 1]) (.l [0, 0, 1, 0, 1])) rfl x0 x1 x2 (x1 - x0) ((x1 - x0) / 2) ((x1 - x0) % 2) (aS x1 x0) (aK ((x1 - x0)) 2 rfl) h0 h1
theorem ar665 {x0 x1 : Nat} : x0 ≤ x0 + (x1 - x0) / 2 :=
  ar 3 0 (.l (.v 0) (.a (.v 0) (.v 2))) (.l [1]) rfl x0 x1 ((x1 - x0) / 2)
theorem ar666 {x0 x1 x2 : Nat} (h0 : x1 ≤ x2) (h1 : ¬ (x1 ≤ x0)) : x0 + (x1 - x0) / 2 ≤ x2 :=
  ar 6 0 (.i (.S (.v 1) (.v 0) (.v 3)) (.i (.K 2 (.v 3) (.v 4) (.v 5)) (.i (.l (.v 1) (.v 2)) (.i (.n (.l (.v 1) (.v 0))) (.l (.a (.v 0) (.v 4)) (.v 2)))))) (.b (.l [1, 0, 0, 2, 1, 2, 0, 1]) (.l [0, 0, 1, 0, 1])) rfl x0 x1 x2 (x1 - x0) ((x1 - x0) / 2) ((x1 - x0) % 2) (aS x1 x0) (aK ((x1 - x0)) 2 rfl) h0 h1
theorem ar667 {x0 x1 x2 x3 : Nat} (h0 : x1 - x0 ≤ x2 - x3) : x0 + (x1 - x0) / 2 - x0 ≤ x2 - (x3 + 1) :=
  ar 10 0 (.i (.K 2 (.v 4) (.v 5) (.v 6)) (.i (.S (.a (.v 0) (.v 5)) (.v 0) (.v 7)) (.i (.S (.v 2) (.s (.v 3)) (.v 8)) (.i (.S (.v 2) (.v 3) (.v 9)) (.i (.l (.v 4) (.v 9)) (.l (.v 7) (.v 8))))))) (.b (.b (.b (.l [2, 0, 0, 0, 2, 1, 1, 0, 0, 2, 1, 0, 1]) (.l [1, 0, 0, 0, 1, 1, 0, 0, 0, 1])) (.b (.l [2, 0, 0, 0, 2, 1, 1, 0, 0, 2, 1, 0, 1]) (.l [1, 0, 0, 0, 1, 0, 0, 0, 0, 1]))) (.b (.l [0, 0, 1, 0, 0, 1]) (.b (.l [2, 0, 0, 0, 2, 0, 1, 0, 0, 2, 1, 0, 1]) (.l [1, 0, 0, 0, 1, 0, 0, 0, 0, 1])))) rfl x0 x1 x2 x3 (x1 - x0) ((x1 - x0) / 2) ((x1 - x0) % 2) (x0 + (x1 - x0) / 2 - x0) (x2 - (x3 + 1)) (x2 - x3) (aK ((x1 - x0)) 2 rfl) (aS ((x0 + (x1 - x0) / 2)) x0) (aS x2 ((x3 + 1))) (aS x2 x3) h0
theorem ar668 {x0 x1 : Nat} (h0 : ¬ (x1 ≤ x0)) : x0 + (x1 - x0) / 2 + 1 ≤ x1 :=
  ar 5 0 (.i (.S (.v 1) (.v 0) (.v 2)) (.i (.K 2 (.v 2) (.v 3) (.v 4)) (.i (.n (.l (.v 1) (.v 0))) (.l (.s (.a (.v 0) (.v 3))) (.v 1))))) (.b (.l [1, 0, 0, 2, 1, 0, 1]) (.l [0, 0, 1, 0, 1])) rfl x0 x1 (x1 - x0) ((x1 - x0) / 2) ((x1 - x0) % 2) (aS x1 x0) (aK ((x1 - x0)) 2 rfl) h0
theorem ar669 {x0 x1 x2 x3 : Nat} (h0 : x0 - x1 ≤ x2 - x3) : x0 - (x1 + (x0 - x1) / 2 + 1) ≤ x2 - (x3 + 1) :=
  ar 9 0 (.i (.S (.v 0) (.v 1) (.v 4)) (.i (.S (.v 0) (.s (.a (.v 1) (.v 5))) (.v 6)) (.i (.S (.v 2) (.s (.v 3)) (.v 7)) (.i (.S (.v 2) (.v 3) (.v 8)) (.i (.l (.v 4) (.v 8)) (.l (.v 6) (.v 7))))))) (.b (.b (.b (.b (.l [0, 1, 0, 1, 0, 0, 0, 1, 0, 1, 0, 0, 1, 1]) (.l [0, 0, 1, 1, 0, 0, 0, 1, 1, 0, 0, 0, 1])) (.l [1, 0, 0, 0, 1, 1, 0, 0, 0, 1])) (.b (.b (.l [0, 1, 0, 1, 0, 0, 0, 1, 1, 1, 0, 0, 1, 1]) (.l [0, 0, 1, 1, 0, 0, 0, 1, 0, 0, 0, 0, 1])) (.l [1, 0, 0, 0, 1, 0, 0, 0, 0, 1]))) (.b (.l [0, 0, 1, 0, 0, 1]) (.b (.b (.l [0, 1, 0, 1, 0, 0, 0, 1, 0, 1, 0, 0, 1, 1]) (.l [0, 0, 1, 1, 0, 0, 0, 1, 0, 0, 0, 0, 1])) (.l [1, 0, 0, 0, 1, 0, 0, 0, 0, 1])))) rfl x0 x1 x2 x3 (x0 - x1) ((x0 - x1) / 2) (x0 - (x1 + (x0 - x1) / 2 + 1)) (x2 - (x3 + 1)) (x2 - x3) (aS x0 x1) (aS x0 ((x1 + (x0 - x1) / 2 + 1))) (aS x2 ((x3 + 1))) (aS x2 x3) h0
theorem ar670 {x0 x1 x2 : Nat} (h0 : x0 < x1 + (x2 - x1) / 2 + 1) : x0 ≤ x1 + (x2 - x1) / 2 :=
  ar 4 0 (.i (.t (.v 0) (.s (.a (.v 1) (.v 3)))) (.l (.v 0) (.a (.v 1) (.v 3)))) (.l [1, 1]) rfl x0 x1 x2 ((x2 - x1) / 2) h0
theorem ar671 : ∀ {x0 x1 : Nat} (h : x0 < x1), x0 + 0 < x1 := @ar 2 0 (.i (.t (.v 0) (.v 1)) (.t (.a (.v 0) (.n 0)) (.v 1))) (.l [1, 1]) rfl
theorem ar672 {x0 x1 x2 : Nat} (h0 : ¬ (x2 - x0 ≤ x1)) : x0 + x1 < x2 :=
  ar 4 0 (.i (.S (.v 2) (.v 0) (.v 3)) (.i (.n (.l (.v 3) (.v 1))) (.t (.a (.v 0) (.v 1)) (.v 2)))) (.b (.l [1, 0, 0, 1, 1]) (.l [1, 0, 0, 0, 1])) rfl x0 x1 x2 (x2 - x0) (aS x2 x0) h0
theorem ar673 {x0 x1 x2 : Nat} (h0 : max 0 x0 < x2) : x0 - x1 ≤ x2 :=
  ar 5 0 (.i (.S (.v 0) (.v 1) (.v 3)) (.i (.X (.n 0) (.v 0) (.v 4)) (.i (.t (.v 4) (.v 2)) (.l (.v 3) (.v 2))))) (.b (.b (.l [1, 0, 0, 0, 1, 0, 1, 1]) (.l [1, 0, 0, 0, 1, 1, 1, 1])) (.b (.l [1, 0, 0, 0, 1, 1, 1, 1]) (.l [1, 0, 0, 0, 1, 0, 1, 1]))) rfl x0 x1 x2 (x0 - x1) (max 0 x0) (aS x0 x1) (aX 0 x0) h0
theorem ar674 {x0 x1 x2 x3 : Nat} (h0 : x0 + x1 < x3) (h1 : x1 < x2) : x0 + x1 + 1 ≤ x0 + min x2 (x3 - x0) :=
  ar 6 0 (.i (.S (.v 3) (.v 0) (.v 4)) (.i (.N (.v 2) (.v 4) (.v 5)) (.i (.t (.a (.v 0) (.v 1)) (.v 3)) (.i (.t (.v 1) (.v 2)) (.l (.s (.a (.v 0) (.v 1))) (.a (.v 0) (.v 5))))))) (.b (.l [0, 1, 0, 1, 1]) (.b (.l [0, 1, 0, 0, 1, 0, 1, 0, 1]) (.l [0, 1, 1, 0, 1, 0, 1, 0, 1]))) rfl x0 x1 x2 x3 (x3 - x0) (min x2 (x3 - x0)) (aS x3 x0) (aN x2 ((x3 - x0))) h0 h1
theorem ar675 {x0 x1 x2 : Nat} (h0 : x0 < x2) : x0 + min x1 (x2 - x0) ≤ x2 :=
  ar 5 0 (.i (.S (.v 2) (.v 0) (.v 3)) (.i (.N (.v 1) (.v 3) (.v 4)) (.i (.t (.v 0) (.v 2)) (.l (.a (.v 0) (.v 4)) (.v 2))))) (.b (.b (.l [1, 0, 0, 1, 0, 1, 1]) (.l [0, 0, 1, 0, 0, 0, 0, 1])) (.b (.l [1, 0, 0, 1, 0, 0, 1]) (.l [1, 0, 0, 1, 0, 0, 1, 1]))) rfl x0 x1 x2 (x2 - x0) (min x1 (x2 - x0)) (aS x2 x0) (aN x1 ((x2 - x0))) h0
theorem ar676 : ∀ {x0 x1 x2 : Nat} (h : x0 < x1 + x2 + 1), x0 ≤ x1 + x2 := @ar 3 0 (.i (.t (.v 0) (.s (.a (.v 1) (.v 2)))) (.l (.v 0) (.a (.v 1) (.v 2)))) (.l [1, 1]) rfl
theorem ar677 {x0 x1 x2 x3 : Nat} (h0 : x0 + min x1 (x2 - x0) ≤ x3) (h1 : x2 - x0 ≤ x1) (h2 : x3 < x2) : False :=
  ar 6 0 (.i (.S (.v 2) (.v 0) (.v 4)) (.i (.N (.v 1) (.v 4) (.v 5)) (.i (.l (.a (.v 0) (.v 5)) (.v 3)) (.i (.l (.v 4) (.v 1)) (.i (.t (.v 3) (.v 2)) .f))))) (.b (.b (.l [0, 1, 0, 0, 1, 0, 0, 1, 1, 1]) (.l [0, 1, 1, 0, 1, 0, 0, 1, 1, 1])) (.b (.l [0, 1, 0, 0, 1, 0, 0, 1, 0, 1]) (.l [0, 1, 1, 0, 1, 0, 0, 1, 0, 1]))) rfl x0 x1 x2 x3 (x2 - x0) (min x1 (x2 - x0)) (aS x2 x0) (aN x1 ((x2 - x0))) h0 h1 h2
theorem ar678 {x0 x1 x2 x3 : Nat} (h0 : x0 + min x1 (x3 - x0) ≤ x2) (h1 : x2 < x3) : x0 + x1 ≤ x2 :=
  ar 6 0 (.i (.S (.v 3) (.v 0) (.v 4)) (.i (.N (.v 1) (.v 4) (.v 5)) (.i (.l (.a (.v 0) (.v 5)) (.v 2)) (.i (.t (.v 2) (.v 3)) (.l (.a (.v 0) (.v 1)) (.v 2)))))) (.b (.l [0, 1, 0, 1, 0, 1]) (.b (.l [0, 1, 0, 0, 1, 0, 0, 1, 1]) (.l [0, 1, 1, 0, 1, 0, 0, 1, 1]))) rfl x0 x1 x2 x3 (x3 - x0) (min x1 (x3 - x0)) (aS x3 x0) (aN x1 ((x3 - x0))) h0 h1
theorem ar679 : ∀ {x0 x1 : Nat} (h : ¬ (x1 < x0)), x0 ≤ x1 := @ar 2 0 (.i (.n (.t (.v 1) (.v 0))) (.l (.v 0) (.v 1))) (.l [1, 1]) rfl
theorem ar680 {x0 x1 : Nat} : x0 + x1 - x0 = x1 :=
  ar 3 0 (.i (.S (.a (.v 0) (.v 1)) (.v 0) (.v 2)) (.e (.v 2) (.v 1))) (.b (.b (.l [1, 0, 0, 1]) (.l [1, 0, 0, 1])) (.b (.l [0, 1, 0, 1]) (.l [0, 1, 1, 1]))) rfl x0 x1 (x0 + x1 - x0) (aS ((x0 + x1)) x0)
theorem ar681 {x0 : Nat} : x0 + 1 - x0 = 1 :=
  ar 2 0 (.i (.S (.s (.v 0)) (.v 0) (.v 1)) (.e (.v 1) (.n 1))) (.b (.b (.l [1, 0, 0, 1]) (.l [0, 0, 1])) (.b (.l [0, 1, 0, 1]) (.l [0, 0, 1]))) rfl x0 (x0 + 1 - x0) (aS ((x0 + 1)) x0)
theorem ar682 {x0 x1 x2 : Nat} (h0 : x1 < x0) (h1 : x2 + 1 = x0) (h2 : x2 ≤ x1) : x0 - 1 = x1 :=
  ar 4 0 (.i (.S (.v 0) (.n 1) (.v 3)) (.i (.t (.v 1) (.v 0)) (.i (.e (.s (.v 2)) (.v 0)) (.i (.l (.v 2) (.v 1)) (.e (.v 3) (.v 1)))))) (.b (.b (.l [1, 0, 0, 1, 1, 0, 1]) (.l [1, 0, 0, 1])) (.b (.l [0, 1, 0, 1, 0, 0, 0, 1]) (.l [0, 1, 1, 1, 0, 0, 0, 1]))) rfl x0 x1 x2 (x0 - 1) (aS x0 1) h0 h1 h2
theorem ar683 : ∀ {x0 : Nat} (h : 0 < x0) (h : ¬ (0 + 1 = x0)), 0 + 1 < x0 := @ar 1 0 (.i (.t (.n 0) (.v 0)) (.i (.n (.e (.s (.n 0)) (.v 0))) (.t (.s (.n 0)) (.v 0)))) (.b (.l [1, 0, 1]) (.l [1, 1])) rfl
theorem ar684 : ∀ {x0 : Nat} (h : 0 < x0) (h : ¬ (1 = x0)), 1 < x0 := @ar 1 0 (.i (.t (.n 0) (.v 0)) (.i (.n (.e (.n 1) (.v 0))) (.t (.n 1) (.v 0)))) (.b (.l [1, 0, 1]) (.l [1, 1])) rfl
theorem ar685 : (0 + 1 : Nat) ≤ 0 + 1 := ar 0 0 (.l (.s (.n 0)) (.s (.n 0))) (.l [1]) rfl
theorem ar686 : ∀ {x0 x1 x2 : Nat} (h : x0 + 1 ≤ x1 + x2), x0 + 1 + 0 ≤ x1 + x2 := @ar 3 0 (.i (.l (.s (.v 0)) (.a (.v 1) (.v 2))) (.l (.a (.s (.v 0)) (.n 0)) (.a (.v 1) (.v 2)))) (.l [1, 1]) rfl
theorem ar687 : ∀ {x0 x1 : Nat} (h : x0 + 1 < x1) (h : ¬ (x0 + 1 + 1 = x1)), x0 + 1 + 1 < x1 := @ar 2 0 (.i (.t (.s (.v 0)) (.v 1)) (.i (.n (.e (.s (.s (.v 0))) (.v 1))) (.t (.s (.s (.v 0))) (.v 1)))) (.b (.l [1, 0, 1]) (.l [1, 1])) rfl
theorem ar688 : ∀ {x0 x1 x2 x3 : Nat} (h : x0 + 1 + x3 ≤ x1 + x2), x0 + 1 ≤ x1 + 1 + x2 := @ar 4 0 (.i (.l (.a (.s (.v 0)) (.v 3)) (.a (.v 1) (.v 2))) (.l (.s (.v 0)) (.a (.s (.v 1)) (.v 2)))) (.l [1, 1]) rfl
theorem ar689 : ∀ {x0 x1 x2 x3 : Nat} (h : x0 + 1 + x1 ≤ x2 + x3), x0 + 1 + (x1 + 1) ≤ x2 + 1 + x3 := @ar 4 0 (.i (.l (.a (.s (.v 0)) (.v 1)) (.a (.v 2) (.v 3))) (.l (.a (.s (.v 0)) (.s (.v 1))) (.a (.s (.v 2)) (.v 3)))) (.l [1, 1]) rfl
theorem ar690 : ∀ {x0 x1 : Nat} (h : x0 < x1) (h : ¬ (x0 + 1 = x1)), x0 + 1 < x1 := @ar 2 0 (.i (.t (.v 0) (.v 1)) (.i (.n (.e (.s (.v 0)) (.v 1))) (.t (.s (.v 0)) (.v 1)))) (.b (.l [1, 0, 1]) (.l [1, 1])) rfl
theorem ar691 : ∀ {x0 x1 x2 x3 : Nat} (h : x0 + 1 + x3 ≤ x1 + x2), x0 + 1 ≤ x1 + (x2 + 1) := @ar 4 0 (.i (.l (.a (.s (.v 0)) (.v 3)) (.a (.v 1) (.v 2))) (.l (.s (.v 0)) (.a (.v 1) (.s (.v 2))))) (.l [1, 1]) rfl
theorem ar692 : ∀ {x0 x1 x2 x3 : Nat} (h : x0 + 1 + x1 ≤ x2 + x3), x0 + 1 + (x1 + 1) ≤ x2 + (x3 + 1) := @ar 4 0 (.i (.l (.a (.s (.v 0)) (.v 1)) (.a (.v 2) (.v 3))) (.l (.a (.s (.v 0)) (.s (.v 1))) (.a (.v 2) (.s (.v 3))))) (.l [1, 1]) rfl
theorem ar693 {x0 x1 x2 x3 x4 : Nat} (h0 : x0 + 1 + max 0 (x1 + x2) ≤ x3 + x4) (h1 : x3 + 1 < x1) (h2 : x4 < x2) : False :=
  ar 6 0 (.i (.X (.n 0) (.a (.v 1) (.v 2)) (.v 5)) (.i (.l (.a (.s (.v 0)) (.v 5)) (.a (.v 3) (.v 4))) (.i (.t (.s (.v 3)) (.v 1)) (.i (.t (.v 4) (.v 2)) .f)))) (.b (.l [0, 1, 0, 0, 1, 1, 1]) (.l [0, 1, 1, 0, 1, 1, 1])) rfl x0 x1 x2 x3 x4 (max 0 (x1 + x2)) (aX 0 ((x1 + x2))) h0 h1 h2
theorem ar694 {x0 x1 : Nat} (h0 : x0 + 1 < x1) : x0 + (x1 - x0) ≤ x1 :=
  ar 3 0 (.i (.S (.v 1) (.v 0) (.v 2)) (.i (.t (.s (.v 0)) (.v 1)) (.l (.a (.v 0) (.v 2)) (.v 1)))) (.b (.l [1, 0, 0, 1]) (.l [1, 0, 0, 1, 1])) rfl x0 x1 (x1 - x0) (aS x1 x0) h0
theorem ar695 {x0 x1 : Nat} (h0 : x1 + 1 < x0) : 0 < x0 - x1 :=
  ar 3 0 (.i (.S (.v 0) (.v 1) (.v 2)) (.i (.t (.s (.v 1)) (.v 0)) (.t (.n 0) (.v 2)))) (.b (.l [0, 1, 0, 1, 1]) (.l [0, 0, 1, 0, 1])) rfl x0 x1 (x0 - x1) (aS x0 x1) h0
theorem ar696 {x0 x1 x2 : Nat} (h0 : x2 + x0 < x1) : x0 < x1 - x2 :=
  ar 4 0 (.i (.S (.v 1) (.v 2) (.v 3)) (.i (.t (.a (.v 2) (.v 0)) (.v 1)) (.t (.v 0) (.v 3)))) (.b (.l [0, 1, 0, 1, 1]) (.l [0, 1, 1, 1, 1])) rfl x0 x1 x2 (x1 - x2) (aS x1 x2) h0
theorem ar697 {x0 x1 : Nat} (h0 : x0 < x1) : x0 + 1 + (x1 - (x0 + 1)) ≤ x1 :=
  ar 3 0 (.i (.S (.v 1) (.s (.v 0)) (.v 2)) (.i (.t (.v 0) (.v 1)) (.l (.a (.s (.v 0)) (.v 2)) (.v 1)))) (.b (.l [1, 0, 0, 1]) (.l [1, 0, 0, 1, 1])) rfl x0 x1 (x1 - (x0 + 1)) (aS x1 ((x0 + 1))) h0
theorem ar698 {x0 x1 : Nat} (h0 : x1 < x0) (h1 : ¬ (x1 + 1 = x0)) : 0 < x0 - (x1 + 1) :=
  ar 3 0 (.i (.S (.v 0) (.s (.v 1)) (.v 2)) (.i (.t (.v 1) (.v 0)) (.i (.n (.e (.s (.v 1)) (.v 0))) (.t (.n 0) (.v 2))))) (.b (.l [1, 0, 1]) (.b (.l [0, 1, 0, 1, 1]) (.l [0, 0, 1, 1]))) rfl x0 x1 (x0 - (x1 + 1)) (aS x0 ((x1 + 1))) h0 h1
theorem ar699 {x0 x1 x2 : Nat} (h0 : x2 + 1 + x0 < x1) : x0 < x1 - (x2 + 1) :=
  ar 4 0 (.i (.S (.v 1) (.s (.v 2)) (.v 3)) (.i (.t (.a (.s (.v 2)) (.v 0)) (.v 1)) (.t (.v 0) (.v 3)))) (.b (.l [0, 1, 0, 1, 1]) (.l [0, 1, 1, 1, 1])) rfl x0 x1 x2 (x1 - (x2 + 1)) (aS x1 ((x2 + 1))) h0
theorem ar700 : ∀ {x0 x1 x2 x3 x4 : Nat} (h : x0 + 1 + x3 ≤ x1 + x4) (h : x4 + 1 ≤ x2), x0 + 2 ≤ x1 + 1 + x2 := @ar 5 0 (.i (.l (.a (.s (.v 0)) (.v 3)) (.a (.v 1) (.v 4))) (.i (.l (.s (.v 4)) (.v 2)) (.l (.a (.v 0) (.n 2)) (.a (.s (.v 1)) (.v 2))))) (.l [1, 1, 1]) rfl
theorem ar701 : ∀ {x0 x1 x2 x3 x4 : Nat} (h : x0 + 1 + x1 ≤ x2 + x4) (h : x4 + 1 ≤ x3), x0 + 1 + (x1 + 1) ≤ x2 + 1 + x3 := @ar 5 0 (.i (.l (.a (.s (.v 0)) (.v 1)) (.a (.v 2) (.v 4))) (.i (.l (.s (.v 4)) (.v 3)) (.l (.a (.s (.v 0)) (.s (.v 1))) (.a (.s (.v 2)) (.v 3))))) (.l [1, 1, 1]) rfl
theorem ar702 {x0 x1 x2 : Nat} (h0 : x0 < x2) (h1 : x1 ≤ x2 - (x0 + 1)) (h2 : ¬ (x0 + 1 + x1 = x2)) : x0 + 1 + x1 < x2 :=
  ar 4 0 (.i (.S (.v 2) (.s (.v 0)) (.v 3)) (.i (.t (.v 0) (.v 2)) (.i (.l (.v 1) (.v 3)) (.i (.n (.e (.a (.s (.v 0)) (.v 1)) (.v 2))) (.t (.a (.s (.v 0)) (.v 1)) (.v 2)))))) (.b (.b (.l [1, 0, 0, 1, 0, 1]) (.l [1, 0, 0, 1, 0, 1, 1])) (.l [1, 1])) rfl x0 x1 x2 (x2 - (x0 + 1)) (aS x2 ((x0 + 1))) h0 h1 h2
theorem ar703 : ∀ {x0 x1 : Nat}, x0 + 1 ≤ x0 + 1 + x1 := @ar 2 0 (.l (.s (.v 0)) (.a (.s (.v 0)) (.v 1))) (.l [1]) rfl
theorem ar704 : ∀ {x0 : Nat} (h : ¬ (0 < x0)), x0 = 0 := @ar 1 0 (.i (.n (.t (.n 0) (.v 0))) (.e (.v 0) (.n 0))) (.b (.l [1, 1]) (.l [1])) rfl
theorem ar705 : ∀ {x0 x1 x2 : Nat} (h : x0 < x2) (h : ¬ (0 < x1)) (h : ¬ (x0 + 1 = x2)), x0 + 1 + x1 < x2 := @ar 3 0 (.i (.t (.v 0) (.v 2)) (.i (.n (.t (.n 0) (.v 1))) (.i (.n (.e (.s (.v 0)) (.v 2))) (.t (.a (.s (.v 0)) (.v 1)) (.v 2))))) (.b (.l [1, 0, 0, 1]) (.l [1, 1, 1])) rfl
theorem ar706 {x0 x1 x2 : Nat} (h0 : x0 + 1 < x2) (h1 : x1 ≤ x2 - x0) (h2 : ¬ (x0 + x1 + 1 = x2)) (h3 : ¬ (x0 + x1 = x2)) : x0 + x1 + 1 < x2 :=
  ar 4 0 (.i (.S (.v 2) (.v 0) (.v 3)) (.i (.t (.s (.v 0)) (.v 2)) (.i (.l (.v 1) (.v 3)) (.i (.n (.e (.s (.a (.v 0) (.v 1))) (.v 2))) (.i (.n (.e (.a (.v 0) (.v 1)) (.v 2))) (.t (.s (.a (.v 0) (.v 1))) (.v 2))))))) (.b (.b (.b (.l [1, 0, 0, 0, 1, 0, 1]) (.l [0, 0, 1, 0, 0, 0, 0, 1])) (.l [1, 1])) (.b (.l [1, 1]) (.l [1, 0, 1]))) rfl x0 x1 x2 (x2 - x0) (aS x2 x0) h0 h1 h2 h3
theorem ar707 {x0 x1 x2 : Nat} (h0 : x0 + 1 < x2) (h1 : x1 ≤ x2 - x0) (h2 : ¬ (x0 + x1 = x2)) : x0 + x1 < x2 :=
  ar 4 0 (.i (.S (.v 2) (.v 0) (.v 3)) (.i (.t (.s (.v 0)) (.v 2)) (.i (.l (.v 1) (.v 3)) (.i (.n (.e (.a (.v 0) (.v 1)) (.v 2))) (.t (.a (.v 0) (.v 1)) (.v 2)))))) (.b (.b (.l [1, 0, 0, 1, 0, 1]) (.l [0, 0, 1, 0, 0, 0, 1])) (.l [1, 1])) rfl x0 x1 x2 (x2 - x0) (aS x2 x0) h0 h1 h2
theorem ar708 : ∀ {x0 x1 x2 x3 x4 : Nat} (h : x0 + 1 + x1 ≤ x2 + x4), x0 + 1 + x1 ≤ x2 + x3 + x4 := @ar 5 0 (.i (.l (.a (.s (.v 0)) (.v 1)) (.a (.v 2) (.v 4))) (.l (.a (.s (.v 0)) (.v 1)) (.a (.a (.v 2) (.v 3)) (.v 4)))) (.l [1, 1]) rfl
theorem ar709 : ∀ {x0 x1 x2 : Nat} (h : x0 + 1 < x2) (h : ¬ (0 < x1)), x0 + x1 < x2 := @ar 3 0 (.i (.t (.s (.v 0)) (.v 2)) (.i (.n (.t (.n 0) (.v 1))) (.t (.a (.v 0) (.v 1)) (.v 2)))) (.l [1, 1, 1]) rfl
theorem ar710 : ∀ {x0 x1 x2 : Nat} (h : x0 + 2 ≤ x1 + x2), x0 + 1 + 1 ≤ x1 + x2 := @ar 3 0 (.i (.l (.a (.v 0) (.n 2)) (.a (.v 1) (.v 2))) (.l (.s (.s (.v 0))) (.a (.v 1) (.v 2)))) (.l [1, 1]) rfl
theorem ar711 {x0 x1 x2 x3 : Nat} (h0 : max 0 (x0 + x1) + 1 ≤ x2 + x3) (h1 : x2 + 1 < x0) (h2 : x3 < x1) : False :=
  ar 5 0 (.i (.X (.n 0) (.a (.v 0) (.v 1)) (.v 4)) (.i (.l (.s (.v 4)) (.a (.v 2) (.v 3))) (.i (.t (.s (.v 2)) (.v 0)) (.i (.t (.v 3) (.v 1)) .f)))) (.b (.l [0, 1, 0, 0, 1, 1, 1]) (.l [0, 1, 1, 0, 1, 1, 1])) rfl x0 x1 x2 x3 (max 0 (x0 + x1)) (aX 0 ((x0 + x1))) h0 h1 h2
theorem ar712 {x0 x1 x2 : Nat} (h0 : x0 < min x1 x2) : x0 < x1 :=
  ar 4 0 (.i (.N (.v 1) (.v 2) (.v 3)) (.i (.t (.v 0) (.v 3)) (.t (.v 0) (.v 1)))) (.b (.l [1, 0, 0, 1, 1]) (.l [1, 0, 1, 1, 1])) rfl x0 x1 x2 (min x1 x2) (aN x1 x2) h0
theorem ar713 {x0 x1 x2 : Nat} (h0 : x0 < min x2 x1) : x0 < x1 :=
  ar 4 0 (.i (.N (.v 2) (.v 1) (.v 3)) (.i (.t (.v 0) (.v 3)) (.t (.v 0) (.v 1)))) (.b (.l [1, 0, 1, 1, 1]) (.l [1, 0, 0, 1, 1])) rfl x0 x1 x2 (min x2 x1) (aN x2 x1) h0
theorem ar714 {x0 x1 x2 : Nat} (h0 : x0 ≤ x1) (h1 : x2 < x0) : x0 - 1 < x1 :=
  ar 4 0 (.i (.S (.v 0) (.n 1) (.v 3)) (.i (.l (.v 0) (.v 1)) (.i (.t (.v 2) (.v 0)) (.t (.v 3) (.v 1))))) (.b (.l [1, 0, 0, 1, 0, 1]) (.l [1, 0, 0, 1, 1, 1])) rfl x0 x1 x2 (x0 - 1) (aS x0 1) h0 h1
theorem ar715 {x0 : Nat} : x0 - 1 ≤ x0 :=
  ar 2 0 (.i (.S (.v 0) (.n 1) (.v 1)) (.l (.v 1) (.v 0))) (.b (.l [1, 0, 0, 1]) (.l [1, 0, 0, 1])) rfl x0 (x0 - 1) (aS x0 1)
theorem ar716 {x0 x1 : Nat} (h0 : x0 - 1 < x1) : x0 ≤ x1 :=
  ar 3 0 (.i (.S (.v 0) (.n 1) (.v 2)) (.i (.t (.v 2) (.v 1)) (.l (.v 0) (.v 1)))) (.b (.l [0, 1, 0, 1, 1]) (.l [0, 1, 1, 1, 1])) rfl x0 x1 (x0 - 1) (aS x0 1) h0
theorem ar717 {x0 x1 : Nat} (h0 : x0 < x1) (h1 : x1 - 1 ≤ x0) : x0 = x1 - 1 :=
  ar 3 0 (.i (.S (.v 1) (.n 1) (.v 2)) (.i (.t (.v 0) (.v 1)) (.i (.l (.v 2) (.v 0)) (.e (.v 0) (.v 2))))) (.b (.b (.l [0, 1, 0, 1, 0, 1]) (.l [0, 1, 1, 1, 0, 1])) (.l [1, 1])) rfl x0 x1 (x1 - 1) (aS x1 1) h0 h1
theorem ar718 {x0 : Nat} (h0 : 0 < x0) : x0 - (x0 - 1) = 1 :=
  ar 3 0 (.i (.S (.v 0) (.n 1) (.v 1)) (.i (.S (.v 0) (.v 1) (.v 2)) (.i (.t (.n 0) (.v 0)) (.e (.v 2) (.n 1))))) (.b (.b (.b (.l [0, 1, 0, 1, 0, 0, 1]) (.l [0, 1, 1, 1, 0, 0, 1])) (.l [1, 0, 0, 1])) (.b (.b (.l [1, 0, 0, 0, 1, 0, 1]) (.l [1, 0, 0, 0, 1, 0, 1, 1])) (.b (.l [1, 0, 0, 0, 0, 1]) (.l [1, 0, 0, 0, 0, 1, 0, 1])))) rfl x0 (x0 - 1) (x0 - (x0 - 1)) (aS x0 1) (aS x0 ((x0 - 1))) h0
theorem ar719 : ∀ {x0 x1 : Nat} (h : x0 < x1) (h : x1 = 1), x0 = 0 := @ar 2 0 (.i (.t (.v 0) (.v 1)) (.i (.e (.v 1) (.n 1)) (.e (.v 0) (.n 0)))) (.b (.l [1, 1, 0, 1]) (.l [1])) rfl
theorem ar720 {x0 : Nat} (h0 : ¬ (x0 - 1 = 0)) : 0 < x0 - 1 :=
  ar 2 0 (.i (.n (.e (.v 1) (.n 0))) (.t (.n 0) (.v 1))) (.b (.l [1, 1]) (.l [1])) rfl x0 (x0 - 1) h0
theorem ar721 : ∀ {x0 : Nat} (h : 0 < x0) (h : ¬ (x0 = 1)), 1 < x0 := @ar 1 0 (.i (.t (.n 0) (.v 0)) (.i (.n (.e (.v 0) (.n 1))) (.t (.n 1) (.v 0)))) (.b (.l [1, 1]) (.l [1, 0, 1])) rfl
theorem ar722 {x0 x1 : Nat} (h0 : x0 - 1 < x0) : 0 + 1 + (x0 - 1) + x1 ≤ x0 + x1 :=
  ar 3 0 (.i (.t (.v 2) (.v 0)) (.l (.a (.a (.s (.n 0)) (.v 2)) (.v 1)) (.a (.v 0) (.v 1)))) (.l [1, 1]) rfl x0 x1 (x0 - 1) h0
theorem ar723 : ∀ {x0 x1 x2 x3 x4 : Nat} (h : x0 + 1 + x1 + x2 ≤ x3 + x4), x0 + 1 + 0 + x1 + x2 ≤ x3 + x4 := @ar 5 0 (.i (.l (.a (.a (.s (.v 0)) (.v 1)) (.v 2)) (.a (.v 3) (.v 4))) (.l (.a (.a (.a (.s (.v 0)) (.n 0)) (.v 1)) (.v 2)) (.a (.v 3) (.v 4)))) (.l [1, 1]) rfl
theorem ar724 {x0 x1 : Nat} (h0 : 1 < x0) (h1 : x0 ≤ x1) : x0 - 1 < x1 :=
  ar 3 0 (.i (.S (.v 0) (.n 1) (.v 2)) (.i (.t (.n 1) (.v 0)) (.i (.l (.v 0) (.v 1)) (.t (.v 2) (.v 1))))) (.b (.l [1, 0, 0, 1, 1]) (.l [0, 0, 1, 0, 0, 1])) rfl x0 x1 (x0 - 1) (aS x0 1) h0 h1
theorem ar725 : ∀ {x0 : Nat} (h : 1 < x0), 0 < x0 := @ar 1 0 (.i (.t (.n 1) (.v 0)) (.t (.n 0) (.v 0))) (.l [1, 1]) rfl
theorem ar726 {x0 : Nat} (h0 : 1 < x0) (h1 : ¬ (x0 - 1 = 1)) : 1 < x0 - 1 :=
  ar 2 0 (.i (.S (.v 0) (.n 1) (.v 1)) (.i (.t (.n 1) (.v 0)) (.i (.n (.e (.v 1) (.n 1))) (.t (.n 1) (.v 1))))) (.b (.l [1, 1]) (.b (.l [0, 1, 0, 1, 0, 1]) (.l [0, 0, 1, 0, 0, 1]))) rfl x0 (x0 - 1) (aS x0 1) h0 h1
theorem ar727 {x0 x1 : Nat} (h0 : x0 - 1 < x1) : x0 - 1 ≤ x1 :=
  ar 3 0 (.i (.t (.v 2) (.v 1)) (.l (.v 2) (.v 1))) (.l [1, 1]) rfl x0 x1 (x0 - 1) h0
theorem ar728 {x0 x1 x2 x3 x4 x5 : Nat} (h0 : x0 + 1 + x5 + x1 + x2 ≤ x3 + x4) : x0 + 1 + x1 + (x2 - 1) ≤ x3 + x4 :=
  ar 7 0 (.i (.S (.v 2) (.n 1) (.v 6)) (.i (.l (.a (.a (.a (.s (.v 0)) (.v 5)) (.v 1)) (.v 2)) (.a (.v 3) (.v 4))) (.l (.a (.a (.s (.v 0)) (.v 1)) (.v 6)) (.a (.v 3) (.v 4))))) (.b (.l [1, 0, 0, 1, 1]) (.l [1, 0, 0, 1, 1])) rfl x0 x1 x2 x3 x4 x5 (x2 - 1) (aS x2 1) h0
theorem ar729 {x0 x1 x2 x3 x4 x5 : Nat} (h0 : 1 < x3) (h1 : x0 + 1 + x1 + x2 + x3 ≤ x4 + x5) : x0 + 1 + (x1 + 1) + x2 + (x3 - 1) ≤ x4 + x5 :=
  ar 7 0 (.i (.S (.v 3) (.n 1) (.v 6)) (.i (.t (.n 1) (.v 3)) (.i (.l (.a (.a (.a (.s (.v 0)) (.v 1)) (.v 2)) (.v 3)) (.a (.v 4) (.v 5))) (.l (.a (.a (.a (.s (.v 0)) (.s (.v 1))) (.v 2)) (.v 6)) (.a (.v 4) (.v 5)))))) (.b (.l [1, 0, 0, 1, 1]) (.l [0, 0, 1, 0, 0, 1])) rfl x0 x1 x2 x3 x4 x5 (x3 - 1) (aS x3 1) h0 h1
theorem ar730 {x0 x1 x2 x3 x4 x5 : Nat} (h0 : x0 + 1 + x5 + x1 + x2 ≤ x3 + x4) : x0 + 1 + (x1 - 1) + x2 ≤ x3 + x4 :=
  ar 7 0 (.i (.S (.v 1) (.n 1) (.v 6)) (.i (.l (.a (.a (.a (.s (.v 0)) (.v 5)) (.v 1)) (.v 2)) (.a (.v 3) (.v 4))) (.l (.a (.a (.s (.v 0)) (.v 6)) (.v 2)) (.a (.v 3) (.v 4))))) (.b (.l [1, 0, 0, 1, 1]) (.l [1, 0, 0, 1, 1])) rfl x0 x1 x2 x3 x4 x5 (x1 - 1) (aS x1 1) h0
theorem ar731 {x0 x1 x2 x3 x4 x5 : Nat} (h0 : x0 + 1 + x1 + x2 + x3 ≤ x4 + x5) (h1 : ¬ (x2 - 1 = 0)) : x0 + 1 + (x1 + 1) + (x2 - 1) + x3 ≤ x4 + x5 :=
  ar 7 0 (.i (.S (.v 2) (.n 1) (.v 6)) (.i (.l (.a (.a (.a (.s (.v 0)) (.v 1)) (.v 2)) (.v 3)) (.a (.v 4) (.v 5))) (.i (.n (.e (.v 6) (.n 0))) (.l (.a (.a (.a (.s (.v 0)) (.s (.v 1))) (.v 6)) (.v 3)) (.a (.v 4) (.v 5)))))) (.b (.b (.l [1, 0, 0, 0, 1, 1]) (.l [1, 0, 0, 1])) (.l [1])) rfl x0 x1 x2 x3 x4 x5 (x2 - 1) (aS x2 1) h0 h1
theorem ar732 {x0 x1 x2 x3 x4 : Nat} (h0 : x0 + 1 + max 0 (x1 + x2) + x3 + x4 ≤ x1 + x2) : False :=
  ar 6 0 (.i (.X (.n 0) (.a (.v 1) (.v 2)) (.v 5)) (.i (.l (.a (.a (.a (.s (.v 0)) (.v 5)) (.v 3)) (.v 4)) (.a (.v 1) (.v 2))) .f)) (.b (.l [0, 1, 0, 0, 1]) (.l [0, 1, 1, 0, 1])) rfl x0 x1 x2 x3 x4 (max 0 (x1 + x2)) (aX 0 ((x1 + x2))) h0
theorem ar733 : ∀ {x0 x1 : Nat} (h : x0 ≤ x1), 0 + x0 ≤ x1 := @ar 2 0 (.i (.l (.v 0) (.v 1)) (.l (.a (.n 0) (.v 0)) (.v 1))) (.l [1, 1]) rfl
theorem ar734 {x0 x1 x2 : Nat} (h0 : 0 < x0) (h1 : x0 ≤ x2) (h2 : x2 ≤ x1) : x0 - 1 < x1 :=
  ar 4 0 (.i (.S (.v 0) (.n 1) (.v 3)) (.i (.t (.n 0) (.v 0)) (.i (.l (.v 0) (.v 2)) (.i (.l (.v 2) (.v 1)) (.t (.v 3) (.v 1)))))) (.b (.l [1, 0, 0, 1, 1, 1]) (.l [1, 0, 0, 1, 1, 1, 1])) rfl x0 x1 x2 (x0 - 1) (aS x0 1) h0 h1 h2
theorem ar735 {x0 x1 : Nat} (h0 : x0 - 1 < x1) : 0 + (x0 - 1) ≤ x1 :=
  ar 3 0 (.i (.t (.v 2) (.v 1)) (.l (.a (.n 0) (.v 2)) (.v 1))) (.l [1, 1]) rfl x0 x1 (x0 - 1) h0
theorem ar736 {x0 : Nat} (h0 : 1 < x0) : x0 - 1 - 1 < x0 - 1 :=
  ar 3 0 (.i (.S (.v 0) (.n 1) (.v 1)) (.i (.S (.v 1) (.n 1) (.v 2)) (.i (.t (.n 1) (.v 0)) (.t (.v 2) (.v 1))))) (.b (.l [1, 0, 0, 1]) (.b (.l [0, 1, 0, 1, 0, 0, 1, 1]) (.l [0, 0, 1, 0, 0, 0, 0, 1]))) rfl x0 (x0 - 1) (x0 - 1 - 1) (aS x0 1) (aS ((x0 - 1)) 1) h0
theorem ar737 {x0 x1 x2 : Nat} (h0 : x0 ≤ x2 - 1) (h1 : x2 - 1 < x1) : x0 ≤ x1 :=
  ar 4 0 (.i (.l (.v 0) (.v 3)) (.i (.t (.v 3) (.v 1)) (.l (.v 0) (.v 1)))) (.l [1, 1, 1]) rfl x0 x1 x2 (x2 - 1) h0 h1
theorem ar738 {x0 x1 x2 x3 x4 x5 x6 x7 : Nat} (h0 : x0 + 1 + x5 + x6 + x7 ≤ x3 + x4) (h1 : x1 ≤ x6) (h2 : x2 ≤ x7 - 1) (h3 : ¬ (x1 - 1 = 0)) : x0 + 2 + (x1 - 1) + x2 ≤ x3 + x4 :=
  ar 10 0 (.i (.S (.v 1) (.n 1) (.v 8)) (.i (.S (.v 7) (.n 1) (.v 9)) (.i (.l (.a (.a (.a (.s (.v 0)) (.v 5)) (.v 6)) (.v 7)) (.a (.v 3) (.v 4))) (.i (.l (.v 1) (.v 6)) (.i (.l (.v 2) (.v 9)) (.i (.n (.e (.v 8) (.n 0))) (.l (.a (.a (.a (.v 0) (.n 2)) (.v 8)) (.v 2)) (.a (.v 3) (.v 4))))))))) (.b (.b (.b (.l [1, 0, 0, 1, 0, 0, 0, 1, 1, 1, 1]) (.l [1, 0, 0, 0, 0, 0, 1])) (.b (.l [1, 0, 0, 1, 0, 0, 0, 1, 1, 1, 1]) (.l [1, 0, 0, 0, 0, 0, 1]))) (.l [1])) rfl x0 x1 x2 x3 x4 x5 x6 x7 (x1 - 1) (x7 - 1) (aS x1 1) (aS x7 1) h0 h1 h2 h3
theorem ar739 {x0 x1 x2 x3 x4 x5 x6 x7 : Nat} (h0 : x0 + 1 + x1 + x6 + x7 ≤ x4 + x5) (h1 : x2 ≤ x6) (h2 : x3 ≤ x7 - 1) (h3 : ¬ (x2 - 1 = 0)) : x0 + 1 + (x1 + 1) + (x2 - 1) + x3 ≤ x4 + x5 :=
  ar 10 0 (.i (.S (.v 2) (.n 1) (.v 8)) (.i (.S (.v 7) (.n 1) (.v 9)) (.i (.l (.a (.a (.a (.s (.v 0)) (.v 1)) (.v 6)) (.v 7)) (.a (.v 4) (.v 5))) (.i (.l (.v 2) (.v 6)) (.i (.l (.v 3) (.v 9)) (.i (.n (.e (.v 8) (.n 0))) (.l (.a (.a (.a (.s (.v 0)) (.s (.v 1))) (.v 8)) (.v 3)) (.a (.v 4) (.v 5))))))))) (.b (.b (.b (.l [1, 0, 0, 1, 0, 0, 0, 1, 1, 1, 1]) (.l [1, 0, 0, 0, 0, 0, 1])) (.b (.l [1, 0, 0, 1, 0, 0, 0, 1, 1, 1, 1]) (.l [1, 0, 0, 0, 0, 0, 1]))) (.l [1])) rfl x0 x1 x2 x3 x4 x5 x6 x7 (x2 - 1) (x7 - 1) (aS x2 1) (aS x7 1) h0 h1 h2 h3
theorem ar740 : ∀ {x0 : Nat} (h : ¬ (x0 = 0)) (h : ¬ (x0 = 1)), 1 < x0 := @ar 1 0 (.i (.n (.e (.v 0) (.n 0))) (.i (.n (.e (.v 0) (.n 1))) (.t (.n 1) (.v 0)))) (.b (.l [1, 1]) (.b (.l [1, 1]) (.l [1]))) rfl
theorem ar741 {x0 x1 : Nat} (h0 : x0 ≤ x1 - 1) (h1 : ¬ (0 < x1 - 1 - x0)) : x0 = x1 - 1 :=
  ar 4 0 (.i (.S (.v 2) (.v 0) (.v 3)) (.i (.l (.v 0) (.v 2)) (.i (.n (.t (.n 0) (.v 3))) (.e (.v 0) (.v 2))))) (.b (.l [1, 0, 1]) (.b (.l [0, 1, 0, 1, 1]) (.l [0, 0, 1, 1]))) rfl x0 x1 (x1 - 1) (x1 - 1 - x0) (aS ((x1 - 1)) x0) h0 h1
theorem ar742 {x0 x1 : Nat} (h0 : 1 < x1) (h1 : ¬ (0 < x1 - 1 - x0)) : 0 < x0 :=
  ar 4 0 (.i (.S (.v 1) (.n 1) (.v 2)) (.i (.S (.v 2) (.v 0) (.v 3)) (.i (.t (.n 1) (.v 1)) (.i (.n (.t (.n 0) (.v 3))) (.t (.n 0) (.v 0)))))) (.b (.b (.l [0, 1, 0, 0, 1, 0, 1, 1, 1]) (.l [0, 0, 1, 0, 0, 0, 0, 0, 1])) (.b (.l [0, 1, 0, 0, 0, 1, 1, 0, 1]) (.l [0, 0, 1, 0, 0, 0, 0, 0, 1]))) rfl x0 x1 (x1 - 1) (x1 - 1 - x0) (aS x1 1) (aS ((x1 - 1)) x0) h0 h1
theorem ar743 {x0 x1 : Nat} (h0 : x0 ≤ x1) (h1 : ¬ (0 < x1 - x0)) : x0 = x1 :=
  ar 3 0 (.i (.S (.v 1) (.v 0) (.v 2)) (.i (.l (.v 0) (.v 1)) (.i (.n (.t (.n 0) (.v 2))) (.e (.v 0) (.v 1))))) (.b (.l [1, 0, 1]) (.b (.l [0, 1, 0, 1, 1]) (.l [0, 0, 1, 1]))) rfl x0 x1 (x1 - x0) (aS x1 x0) h0 h1
theorem ar744 : ∀ {x0 x1 : Nat} (h : 0 < x1) (h : x0 = x1), 0 < x0 := @ar 2 0 (.i (.t (.n 0) (.v 1)) (.i (.e (.v 0) (.v 1)) (.t (.n 0) (.v 0)))) (.l [1, 0, 1, 1]) rfl
theorem ar745 : ∀ {x0 x1 x2 x3 x4 : Nat} (h : x0 + 2 + x1 + x2 ≤ x3 + x4), x0 + 1 + 1 + x1 + x2 ≤ x3 + x4 := @ar 5 0 (.i (.l (.a (.a (.a (.v 0) (.n 2)) (.v 1)) (.v 2)) (.a (.v 3) (.v 4))) (.l (.a (.a (.s (.s (.v 0))) (.v 1)) (.v 2)) (.a (.v 3) (.v 4)))) (.l [1, 1]) rfl
theorem ar746 {x0 x1 x2 x3 : Nat} (h0 : max 0 (x0 + x1) + 1 + x2 + x3 ≤ x0 + x1) : False :=
  ar 5 0 (.i (.X (.n 0) (.a (.v 0) (.v 1)) (.v 4)) (.i (.l (.a (.a (.s (.v 4)) (.v 2)) (.v 3)) (.a (.v 0) (.v 1))) .f)) (.b (.l [0, 1, 0, 0, 1]) (.l [0, 1, 1, 0, 1])) rfl x0 x1 x2 x3 (max 0 (x0 + x1)) (aX 0 ((x0 + x1))) h0
theorem ar747 : ∀ {x0 x1 x2 x3 : Nat} (h : x0 + x1 + (x2 + 1) ≤ x3), x0 + (x1 + 1) + x2 ≤ x3 := @ar 4 0 (.i (.l (.a (.a (.v 0) (.v 1)) (.s (.v 2))) (.v 3)) (.l (.a (.a (.v 0) (.s (.v 1))) (.v 2)) (.v 3))) (.l [1, 1]) rfl
theorem ar748 : ∀ {x0 x1 x2 x3 : Nat} (h : x0 + (x1 + 1) ≤ x2 ∧ x2 < x0 + (x1 + 1) + x3), x0 + x1 ≤ x2 ∧ x2 < x0 + x1 + (x3 + 1) := @ar 4 0 (.i (.a (.l (.a (.v 0) (.s (.v 1))) (.v 2)) (.t (.v 2) (.a (.a (.v 0) (.s (.v 1))) (.v 3)))) (.a (.l (.a (.v 0) (.v 1)) (.v 2)) (.t (.v 2) (.a (.a (.v 0) (.v 1)) (.s (.v 3)))))) (.b (.l [1, 0, 1]) (.l [1, 1])) rfl
theorem ar749 {x0 x1 x2 x3 : Nat} (h0 : x1 + (x2 + 1) ≤ x0 ∧ x0 < x1 + (x2 + 1) + x3) : x0 - (x1 + x2) = x0 - (x1 + (x2 + 1)) + 1 :=
  ar 6 0 (.i (.S (.v 0) (.a (.v 1) (.v 2)) (.v 4)) (.i (.S (.v 0) (.a (.v 1) (.s (.v 2))) (.v 5)) (.i (.a (.l (.a (.v 1) (.s (.v 2))) (.v 0)) (.t (.v 0) (.a (.a (.v 1) (.s (.v 2))) (.v 3)))) (.e (.v 4) (.s (.v 5)))))) (.b (.b (.b (.l [1, 0, 0, 0, 1, 0, 1]) (.l [0, 0, 1, 0, 0, 1])) (.b (.l [1, 0, 0, 0, 1, 1, 1]) (.l [1, 0, 0, 0, 1, 0, 1]))) (.b (.b (.l [0, 1, 0, 1, 0, 0, 1]) (.l [0, 0, 1, 0, 0, 1])) (.b (.l [0, 1, 0, 1, 0, 0, 1, 0, 1]) (.l [0, 0, 1, 0, 0, 0, 0, 0, 1])))) rfl x0 x1 x2 x3 (x0 - (x1 + x2)) (x0 - (x1 + (x2 + 1))) (aS x0 ((x1 + x2))) (aS x0 ((x1 + (x2 + 1)))) h0
theorem ar750 : ∀ {x0 x1 x2 x3 : Nat} (h : x0 + x1 + (x3 + 1) ≤ x2), x0 + x1 < x2 := @ar 4 0 (.i (.l (.a (.a (.v 0) (.v 1)) (.s (.v 3))) (.v 2)) (.t (.a (.v 0) (.v 1)) (.v 2))) (.l [1, 1]) rfl
theorem ar751 : ∀ {x0 x1 x2 x3 : Nat} (h : x0 + x1 = x2), x0 + x1 ≤ x2 ∧ x2 < x0 + x1 + (x3 + 1) := @ar 4 0 (.i (.e (.a (.v 0) (.v 1)) (.v 2)) (.a (.l (.a (.v 0) (.v 1)) (.v 2)) (.t (.v 2) (.a (.a (.v 0) (.v 1)) (.s (.v 3)))))) (.b (.l [1, 1]) (.l [1, 0, 1])) rfl
theorem ar752 {x0 x1 x2 : Nat} (h0 : x1 + x2 = x0) : x0 - (x1 + x2) = 0 :=
  ar 4 0 (.i (.S (.v 0) (.a (.v 1) (.v 2)) (.v 3)) (.i (.e (.a (.v 1) (.v 2)) (.v 0)) (.e (.v 3) (.n 0)))) (.b (.b (.l [1, 0, 0, 1, 0, 1]) (.l [1, 0, 0, 1])) (.l [1])) rfl x0 x1 x2 (x0 - (x1 + x2)) (aS x0 ((x1 + x2))) h0
theorem ar753 : ∀ {x0 x1 x2 x3 : Nat} (h : ¬ (x0 + (x1 + 1) ≤ x2 ∧ x2 < x0 + (x1 + 1) + x3)) (h : ¬ (x0 + x1 = x2)), ¬ (x0 + x1 ≤ x2 ∧ x2 < x0 + x1 + (x3 + 1)) := @ar 4 0 (.i (.n (.a (.l (.a (.v 0) (.s (.v 1))) (.v 2)) (.t (.v 2) (.a (.a (.v 0) (.s (.v 1))) (.v 3))))) (.i (.n (.e (.a (.v 0) (.v 1)) (.v 2))) (.n (.a (.l (.a (.v 0) (.v 1)) (.v 2)) (.t (.v 2) (.a (.a (.v 0) (.v 1)) (.s (.v 3)))))))) (.b (.l [1, 0, 1]) (.b (.l [1, 1]) (.l [1, 0, 1]))) rfl
theorem ar754 : ∀ {x0 x1 x2 : Nat} (h : x0 + x1 ≤ x2), x0 + 0 + x1 ≤ x2 := @ar 3 0 (.i (.l (.a (.v 0) (.v 1)) (.v 2)) (.l (.a (.a (.v 0) (.n 0)) (.v 1)) (.v 2))) (.l [1, 1]) rfl
theorem ar755 {x0 x1 x2 : Nat} (h0 : x0 + x2 ≤ x1) : min x0 x1 = x0 :=
  ar 4 0 (.i (.N (.v 0) (.v 1) (.v 3)) (.i (.l (.a (.v 0) (.v 2)) (.v 1)) (.e (.v 3) (.v 0)))) (.b (.b (.l [1, 0, 0, 1]) (.l [1, 0, 1, 1])) (.b (.l [0, 1, 0, 1]) (.l [0, 1, 0, 1, 1]))) rfl x0 x1 x2 (min x0 x1) (aN x0 x1) h0
theorem ar756 : ∀ {x0 x1 x2 : Nat} (h : x1 < x0), ¬ (x0 + 0 ≤ x1 ∧ x1 < x0 + 0 + x2) := @ar 3 0 (.i (.t (.v 1) (.v 0)) (.n (.a (.l (.a (.v 0) (.n 0)) (.v 1)) (.t (.v 1) (.a (.a (.v 0) (.n 0)) (.v 2)))))) (.l [0, 1, 1]) rfl
theorem ar757 : ∀ {x0 x1 x2 : Nat} (h : x0 < x2) (h : x1 = x2), x0 < x1 := @ar 3 0 (.i (.t (.v 0) (.v 2)) (.i (.e (.v 1) (.v 2)) (.t (.v 0) (.v 1)))) (.l [1, 0, 1, 1]) rfl
theorem ar758 : ∀ {x0 x1 x2 : Nat} (h : x0 = x2) (h : x2 ≤ x1), x0 ≤ x1 := @ar 3 0 (.i (.e (.v 0) (.v 2)) (.i (.l (.v 2) (.v 1)) (.l (.v 0) (.v 1)))) (.l [1, 1, 1]) rfl
theorem ar759 : ∀ {x0 x1 x2 : Nat} (h : x0 ≤ x1) (h : x1 < x0 + x2), x0 + 0 ≤ x1 ∧ x1 < x0 + 0 + x2 := @ar 3 0 (.i (.l (.v 0) (.v 1)) (.i (.t (.v 1) (.a (.v 0) (.v 2))) (.a (.l (.a (.v 0) (.n 0)) (.v 1)) (.t (.v 1) (.a (.a (.v 0) (.n 0)) (.v 2)))))) (.b (.l [1, 0, 1]) (.l [1, 1])) rfl
theorem ar760 : ∀ {x0 x1 x2 : Nat} (h : x0 + x2 ≤ x1), ¬ (x0 + 0 ≤ x1 ∧ x1 < x0 + 0 + x2) := @ar 3 0 (.i (.l (.a (.v 0) (.v 2)) (.v 1)) (.n (.a (.l (.a (.v 0) (.n 0)) (.v 1)) (.t (.v 1) (.a (.a (.v 0) (.n 0)) (.v 2)))))) (.l [1, 0, 1]) rfl
theorem ar761 {x0 x1 x2 : Nat} (h0 : x1 + x2 ≤ x0) : x0 = x1 + x2 + (x0 - x1 - x2) :=
  ar 5 0 (.i (.S (.v 0) (.v 1) (.v 3)) (.i (.S (.v 3) (.v 2) (.v 4)) (.i (.l (.a (.v 1) (.v 2)) (.v 0)) (.e (.v 0) (.a (.a (.v 1) (.v 2)) (.v 4)))))) (.b (.b (.b (.l [0, 1, 0, 0, 1, 0, 1]) (.l [0, 1, 1, 0, 1, 0, 1])) (.b (.l [0, 1, 0, 0, 1, 1, 1]) (.l [0, 1, 1, 0, 1, 1, 1]))) (.b (.b (.l [1, 0, 0, 1, 0, 0, 1]) (.l [1, 0, 0, 1, 0, 0, 1, 1])) (.l [1, 0, 0, 1, 1]))) rfl x0 x1 x2 (x0 - x1) (x0 - x1 - x2) (aS x0 x1) (aS ((x0 - x1)) x2) h0
theorem ar762 : ∀ {z0 z1 z2 z3 : Int} (h : z0 ≤ z2) (h : z2 ≤ z3) (h : z3 ≤ z1), z0 ≤ z1 := @ar 0 4 (.i (.L (.v 0) (.v 2)) (.i (.L (.v 2) (.v 3)) (.i (.L (.v 3) (.v 1)) (.L (.v 0) (.v 1))))) (.l [1, 1, 1, 1]) rfl
theorem ar763 : ∀ {x0 x1 x2 : Nat} (h : x1 < x2), x0 + x1 ≤ x0 + x2 := @ar 3 0 (.i (.t (.v 1) (.v 2)) (.l (.a (.v 0) (.v 1)) (.a (.v 0) (.v 2)))) (.l [1, 1]) rfl
theorem ar764 {x0 x1 x2 : Nat} (h0 : x1 < x2 - x0) : x0 + x1 < x2 :=
  ar 4 0 (.i (.S (.v 2) (.v 0) (.v 3)) (.i (.t (.v 1) (.v 3)) (.t (.a (.v 0) (.v 1)) (.v 2)))) (.b (.l [1, 0, 0, 1, 1]) (.l [1, 0, 0, 0, 1])) rfl x0 x1 x2 (x2 - x0) (aS x2 x0) h0
theorem ar765 : ∀ {x0 x1 x2 : Nat} (h : x0 + x2 ≤ x1), x0 ≤ x1 := @ar 3 0 (.i (.l (.a (.v 0) (.v 2)) (.v 1)) (.l (.v 0) (.v 1))) (.l [1, 1]) rfl
theorem ar766 {x0 x1 x2 x3 : Nat} (h0 : x0 < x1 - x3) (h1 : x1 ≤ x2) : x0 < min x1 x2 - x3 :=
  ar 7 0 (.i (.N (.v 1) (.v 2) (.v 4)) (.i (.S (.v 4) (.v 3) (.v 5)) (.i (.S (.v 1) (.v 3) (.v 6)) (.i (.t (.v 0) (.v 6)) (.i (.l (.v 1) (.v 2)) (.t (.v 0) (.v 5))))))) (.b (.b (.b (.l [0, 1, 0, 0, 1, 0, 1, 0, 0, 1, 0, 1]) (.l [0, 1, 0, 0, 1, 0, 1, 0, 0, 1, 1, 1])) (.b (.l [0, 1, 0, 0, 1, 1, 1, 0, 0, 1, 0, 1]) (.l [0, 1, 0, 0, 1, 1, 1, 0, 0, 1, 1, 1]))) (.l [1, 0, 0, 0, 0, 1])) rfl x0 x1 x2 x3 (min x1 x2) (min x1 x2 - x3) (x1 - x3) (aN x1 x2) (aS ((min x1 x2)) x3) (aS x1 x3) h0 h1
theorem ar767 {x0 x1 x2 x3 x4 : Nat} (h0 : x0 ≤ x3) (h1 : x3 < min x1 x4 - x2) : x0 < x1 - x2 :=
  ar 8 0 (.i (.S (.v 1) (.v 2) (.v 5)) (.i (.N (.v 1) (.v 4) (.v 6)) (.i (.S (.v 6) (.v 2) (.v 7)) (.i (.l (.v 0) (.v 3)) (.i (.t (.v 3) (.v 7)) (.t (.v 0) (.v 5))))))) (.b (.b (.b (.l [0, 1, 0, 1, 0, 0, 1, 0, 0, 1, 1, 1]) (.l [0, 1, 1, 1, 0, 0, 1, 0, 0, 1, 1, 1])) (.b (.l [0, 1, 0, 1, 0, 1, 1, 0, 0, 1, 1, 1]) (.l [0, 1, 1, 1, 0, 1, 1, 0, 0, 1, 1, 1]))) (.l [1, 0, 0, 0, 1, 1])) rfl x0 x1 x2 x3 x4 (x1 - x2) (min x1 x4) (min x1 x4 - x2) (aS x1 x2) (aN x1 x4) (aS ((min x1 x4)) x2) h0 h1
theorem ar768 {x0 x1 x2 x3 : Nat} (h0 : x0 < min x1 x3 - x2) : x0 < x1 - x2 :=
  ar 7 0 (.i (.S (.v 1) (.v 2) (.v 4)) (.i (.N (.v 1) (.v 3) (.v 5)) (.i (.S (.v 5) (.v 2) (.v 6)) (.i (.t (.v 0) (.v 6)) (.t (.v 0) (.v 4)))))) (.b (.b (.b (.l [0, 1, 0, 1, 0, 0, 1, 0, 0, 1, 1]) (.l [0, 1, 1, 1, 0, 0, 1, 0, 0, 1, 1])) (.b (.l [0, 1, 0, 1, 0, 1, 1, 0, 0, 1, 1]) (.l [0, 1, 1, 1, 0, 1, 1, 0, 0, 1, 1]))) (.l [1, 0, 0, 0, 1])) rfl x0 x1 x2 x3 (x1 - x2) (min x1 x3) (min x1 x3 - x2) (aS x1 x2) (aN x1 x3) (aS ((min x1 x3)) x2) h0
theorem ar769 {x0 x1 x2 x3 : Nat} (h0 : x1 < min x2 x3 - x0) : x0 + x1 < x2 :=
  ar 6 0 (.i (.N (.v 2) (.v 3) (.v 4)) (.i (.S (.v 4) (.v 0) (.v 5)) (.i (.t (.v 1) (.v 5)) (.t (.a (.v 0) (.v 1)) (.v 2))))) (.b (.b (.l [1, 0, 0, 1, 0, 0, 1, 1]) (.l [1, 0, 1, 1, 0, 0, 1, 1])) (.l [1, 0, 0, 0, 1])) rfl x0 x1 x2 x3 (min x2 x3) (min x2 x3 - x0) (aN x2 x3) (aS ((min x2 x3)) x0) h0
theorem ar770 : ∀ {x0 x1 x2 x3 : Nat} (h : 0 < x2) (h : x0 + x2 = x3) (h : x1 = x3), x0 < x1 := @ar 4 0 (.i (.t (.n 0) (.v 2)) (.i (.e (.a (.v 0) (.v 2)) (.v 3)) (.i (.e (.v 1) (.v 3)) (.t (.v 0) (.v 1))))) (.l [1, 0, 1, 1, 0, 1]) rfl
theorem ar771 : ∀ {x0 x1 x2 x3 : Nat} (h : x0 + x2 = x3) (h : x1 = x3), 0 + x0 ≤ x1 := @ar 4 0 (.i (.e (.a (.v 0) (.v 2)) (.v 3)) (.i (.e (.v 1) (.v 3)) (.l (.a (.n 0) (.v 0)) (.v 1)))) (.l [1, 0, 1, 1]) rfl
theorem ar772 {x0 x1 : Nat} (h0 : 0 < x0) (h1 : x0 - x1 = 0) : x0 - 1 < x1 :=
  ar 4 0 (.i (.S (.v 0) (.n 1) (.v 2)) (.i (.S (.v 0) (.v 1) (.v 3)) (.i (.t (.n 0) (.v 0)) (.i (.e (.v 3) (.n 0)) (.t (.v 2) (.v 1)))))) (.b (.b (.l [1, 0, 0, 0, 1, 0, 1, 1]) (.l [1, 0, 0, 0, 1, 0, 1, 1, 0, 1])) (.b (.l [1, 0, 0, 0, 0, 1, 1]) (.l [1, 0, 0, 0, 0, 1, 1, 0, 0, 1]))) rfl x0 x1 (x0 - 1) (x0 - x1) (aS x0 1) (aS x0 x1) h0 h1
theorem ar773 {x0 x1 : Nat} (h0 : ¬ (x1 - x0 = 0)) : x0 < x1 :=
  ar 3 0 (.i (.S (.v 1) (.v 0) (.v 2)) (.i (.n (.e (.v 2) (.n 0))) (.t (.v 0) (.v 1)))) (.b (.b (.l [1, 0, 0, 1, 1]) (.l [1, 0, 0, 1])) (.l [1])) rfl x0 x1 (x1 - x0) (aS x1 x0) h0
theorem ar774 {x0 x1 x2 x3 x4 : Nat} (h0 : x0 < x1) (h1 : x1 + x3 = x4) (h2 : x2 = x4) : 0 + x0 + (x1 - x0) - 1 < x2 :=
  ar 7 0 (.i (.S (.v 1) (.v 0) (.v 5)) (.i (.S (.a (.a (.n 0) (.v 0)) (.v 5)) (.n 1) (.v 6)) (.i (.t (.v 0) (.v 1)) (.i (.e (.a (.v 1) (.v 3)) (.v 4)) (.i (.e (.v 2) (.v 4)) (.t (.v 6) (.v 2))))))) (.b (.b (.l [1, 0, 0, 1, 0, 0, 1, 0, 1, 1]) (.l [0, 0, 1, 0, 0, 0, 0, 0, 0, 0, 0, 1])) (.l [1, 0, 0, 1, 0, 1, 1, 0, 1])) rfl x0 x1 x2 x3 x4 (x1 - x0) (0 + x0 + (x1 - x0) - 1) (aS x1 x0) (aS ((0 + x0 + (x1 - x0))) 1) h0 h1 h2
theorem ar775 : ∀ {x0 x1 x2 x3 : Nat} (h : x0 + x1 = x3) (h : x2 = x3), x0 + x1 ≤ x2 := @ar 4 0 (.i (.e (.a (.v 0) (.v 1)) (.v 3)) (.i (.e (.v 2) (.v 3)) (.l (.a (.v 0) (.v 1)) (.v 2)))) (.l [1, 0, 1, 1]) rfl
theorem ar776 {x0 x1 : Nat} (h0 : x0 < x1) : 0 + x0 + (x1 - x0) - 1 = x1 - 1 :=
  ar 5 0 (.i (.S (.v 1) (.v 0) (.v 2)) (.i (.S (.a (.a (.n 0) (.v 0)) (.v 2)) (.n 1) (.v 3)) (.i (.S (.v 1) (.n 1) (.v 4)) (.i (.t (.v 0) (.v 1)) (.e (.v 3) (.v 4)))))) (.b (.b (.b (.b (.l [1, 0, 0, 1, 0, 0, 0, 1, 0, 1]) (.l [1, 0, 0, 1, 0, 0, 0, 1, 0, 1, 1])) (.l [1, 0, 0, 0, 1, 1, 1])) (.b (.b (.l [1, 0, 0, 1, 0, 0, 0, 1, 1, 1]) (.l [0, 0, 1, 0, 0, 0, 0, 0, 0, 0, 1])) (.l [1, 0, 0, 0, 1, 0, 1]))) (.b (.b (.b (.l [0, 1, 0, 0, 1, 0, 1, 0, 0, 1]) (.l [0, 1, 1, 0, 1, 0, 1, 0, 0, 1])) (.b (.l [0, 1, 0, 0, 1, 1, 1, 0, 0, 1]) (.l [0, 1, 1, 0, 1, 1, 1, 0, 0, 1]))) (.l [1, 0, 0, 1]))) rfl x0 x1 (x1 - x0) (0 + x0 + (x1 - x0) - 1) (x1 - 1) (aS x1 x0) (aS ((0 + x0 + (x1 - x0))) 1) (aS x1 1) h0
theorem ar777 : ∀ {x0 : Nat} (h : x0 = 0), x0 ≤ 0 := @ar 1 0 (.i (.e (.v 0) (.n 0)) (.l (.v 0) (.n 0))) (.l [1, 1]) rfl
theorem ar778 {x0 x1 x2 x3 x4 : Nat} (h0 : x0 + x3 = x4) (h1 : x1 = x4) : min x0 x1 - (0 + x2) = x0 - x2 :=
  ar 8 0 (.i (.N (.v 0) (.v 1) (.v 5)) (.i (.S (.v 5) (.a (.n 0) (.v 2)) (.v 6)) (.i (.S (.v 0) (.v 2) (.v 7)) (.i (.e (.a (.v 0) (.v 3)) (.v 4)) (.i (.e (.v 1) (.v 4)) (.e (.v 6) (.v 7))))))) (.b (.b (.b (.b (.l [1, 0, 0, 1, 0, 0, 0, 1, 0, 1]) (.l [1, 0, 1, 1, 0, 0, 0, 1, 0, 1])) (.l [1, 0, 0, 0, 1, 1, 1])) (.b (.b (.l [1, 0, 0, 1, 0, 0, 0, 1, 1, 1]) (.l [1, 0, 1, 1, 0, 0, 0, 1, 1, 1])) (.l [1, 0, 0, 0, 1, 0, 1]))) (.b (.b (.b (.l [0, 1, 0, 0, 1, 0, 1, 0, 0, 1]) (.l [0, 1, 0, 0, 1, 0, 1, 0, 0, 1, 0, 1, 1])) (.b (.l [0, 1, 0, 0, 1, 1, 1, 0, 0, 1]) (.l [0, 1, 0, 0, 1, 1, 1, 0, 0, 1, 0, 1, 1]))) (.l [1, 0, 0, 1]))) rfl x0 x1 x2 x3 x4 (min x0 x1) (min x0 x1 - (0 + x2)) (x0 - x2) (aN x0 x1) (aS ((min x0 x1)) ((0 + x2))) (aS x0 x2) h0 h1
theorem ar779 {x0 x1 x2 x3 x4 : Nat} (h0 : x0 + x3 = x4) (h1 : x1 ≤ x3) (h2 : x2 = x4) : min (x0 + x1) x2 - x0 = x1 :=
  ar 7 0 (.i (.N (.a (.v 0) (.v 1)) (.v 2) (.v 5)) (.i (.S (.v 5) (.v 0) (.v 6)) (.i (.e (.a (.v 0) (.v 3)) (.v 4)) (.i (.l (.v 1) (.v 3)) (.i (.e (.v 2) (.v 4)) (.e (.v 6) (.v 1))))))) (.b (.b (.b (.l [1, 0, 0, 1, 0, 0, 1]) (.l [1, 0, 1, 1, 0, 0, 1])) (.l [1, 0, 0, 1])) (.b (.b (.l [0, 1, 0, 0, 1, 0, 1]) (.l [0, 1, 0, 0, 1, 0, 1, 0, 1, 1, 1])) (.b (.l [0, 1, 0, 0, 1, 1, 1]) (.l [0, 1, 0, 0, 1, 1, 1, 0, 1, 1, 1])))) rfl x0 x1 x2 x3 x4 (min (x0 + x1) x2) (min (x0 + x1) x2 - x0) (aN ((x0 + x1)) x2) (aS ((min (x0 + x1) x2)) x0) h0 h1 h2
theorem ar780 {x0 x1 x2 x3 x4 x5 : Nat} (h0 : x0 < x1 - x3) (h1 : x1 + x4 = x5) (h2 : x2 = x5) : x0 < min x1 x2 - (0 + x3) :=
  ar 9 0 (.i (.N (.v 1) (.v 2) (.v 6)) (.i (.S (.v 6) (.a (.n 0) (.v 3)) (.v 7)) (.i (.S (.v 1) (.v 3) (.v 8)) (.i (.t (.v 0) (.v 8)) (.i (.e (.a (.v 1) (.v 4)) (.v 5)) (.i (.e (.v 2) (.v 5)) (.t (.v 0) (.v 7)))))))) (.b (.b (.b (.l [0, 1, 0, 0, 1, 0, 1, 0, 0, 1, 0, 0, 0, 0, 1]) (.l [0, 1, 0, 0, 1, 0, 1, 0, 0, 1, 0, 1, 1, 0, 1])) (.b (.l [0, 1, 0, 0, 1, 1, 1, 0, 0, 1, 0, 0, 0, 0, 1]) (.l [0, 1, 0, 0, 1, 1, 1, 0, 0, 1, 0, 1, 1, 0, 1]))) (.l [1, 0, 0, 0, 0, 0, 0, 0, 1])) rfl x0 x1 x2 x3 x4 x5 (min x1 x2) (min x1 x2 - (0 + x3)) (x1 - x3) (aN x1 x2) (aS ((min x1 x2)) ((0 + x3))) (aS x1 x3) h0 h1 h2
theorem ar781 {x0 x1 x2 x3 x4 x5 : Nat} (h0 : x0 < x2) (h1 : x1 + x4 = x5) (h2 : x2 ≤ x4) (h3 : x3 = x5) : x0 < min (x1 + x2) x3 - x1 :=
  ar 8 0 (.i (.N (.a (.v 1) (.v 2)) (.v 3) (.v 6)) (.i (.S (.v 6) (.v 1) (.v 7)) (.i (.t (.v 0) (.v 2)) (.i (.e (.a (.v 1) (.v 4)) (.v 5)) (.i (.l (.v 2) (.v 4)) (.i (.e (.v 3) (.v 5)) (.t (.v 0) (.v 7)))))))) (.b (.b (.l [0, 1, 0, 0, 1, 0, 1, 0, 0, 0, 0, 0, 1]) (.l [0, 1, 0, 0, 1, 0, 1, 0, 1, 1, 1, 0, 1])) (.b (.l [0, 1, 0, 0, 1, 1, 1, 0, 0, 0, 0, 0, 1]) (.l [0, 1, 0, 0, 1, 1, 1, 0, 1, 1, 1, 0, 1]))) rfl x0 x1 x2 x3 x4 x5 (min (x1 + x2) x3) (min (x1 + x2) x3 - x1) (aN ((x1 + x2)) x3) (aS ((min (x1 + x2) x3)) x1) h0 h1 h2 h3
theorem ar782 : ∀ {x0 x1 x2 x3 : Nat} (h : x0 + x2 = x3) (h : x1 = x3), x0 ≤ x1 := @ar 4 0 (.i (.e (.a (.v 0) (.v 2)) (.v 3)) (.i (.e (.v 1) (.v 3)) (.l (.v 0) (.v 1)))) (.l [1, 0, 1, 1]) rfl
theorem ar783 : ∀ {x0 : Nat}, 0 ≤ 0 + x0 := @ar 1 0 (.l (.n 0) (.a (.n 0) (.v 0))) (.l [1]) rfl
theorem ar784 : ∀ {x0 x1 x2 x3 x4 : Nat} (h : x0 + x3 = x4) (h : x1 ≤ x3) (h : x2 = x4), x0 + x1 ≤ x2 := @ar 5 0 (.i (.e (.a (.v 0) (.v 3)) (.v 4)) (.i (.l (.v 1) (.v 3)) (.i (.e (.v 2) (.v 4)) (.l (.a (.v 0) (.v 1)) (.v 2))))) (.l [1, 0, 1, 1, 1]) rfl
theorem ar785 {x0 x1 x2 x3 x4 x5 : Nat} (h0 : x0 + x4 = x5) (h1 : x1 = x5) (h2 : x3 ≤ x4) : min x0 x1 - x2 + min x3 (x1 - x0) = x0 - x2 + x3 :=
  ar 11 0 (.i (.N (.v 0) (.v 1) (.v 6)) (.i (.S (.v 6) (.v 2) (.v 7)) (.i (.S (.v 1) (.v 0) (.v 8)) (.i (.N (.v 3) (.v 8) (.v 9)) (.i (.S (.v 0) (.v 2) (.v 10)) (.i (.e (.a (.v 0) (.v 4)) (.v 5)) (.i (.e (.v 1) (.v 5)) (.i (.l (.v 3) (.v 4)) (.e (.a (.v 7) (.v 9)) (.a (.v 10) (.v 3))))))))))) (.b (.b (.b (.s (.b (.b (.l [1, 0, 0, 1, 0, 0, 1, 0, 0, 0, 1, 0, 1]) (.l [1, 0, 1, 1, 0, 0, 1, 0, 0, 0, 1, 0, 1])) (.l [1, 0, 0, 1, 0, 0, 0, 1, 1, 1]))) (.s (.b (.b (.l [1, 0, 0, 1, 0, 0, 1, 0, 1, 0, 1, 0, 1]) (.l [1, 0, 1, 1, 0, 0, 1, 0, 1, 0, 1, 0, 1])) (.l [1, 0, 0, 1, 0, 1, 0, 1, 1, 1])))) (.b (.s (.b (.b (.l [1, 0, 0, 1, 0, 0, 1, 0, 0, 0, 1, 1, 1]) (.l [1, 0, 1, 1, 0, 0, 1, 0, 0, 0, 1, 1, 1])) (.l [1, 0, 0, 1, 0, 0, 0, 1, 0, 1]))) (.s (.b (.b (.l [1, 0, 0, 1, 0, 0, 1, 0, 1, 0, 1, 1, 1]) (.l [1, 0, 1, 1, 0, 0, 1, 0, 1, 0, 1, 1, 1])) (.l [1, 0, 0, 1, 0, 1, 0, 1, 0, 1]))))) (.b (.b (.s (.b (.b (.l [0, 1, 0, 0, 1, 0, 0, 1, 0, 1, 0, 0, 1]) (.l [0, 1, 0, 0, 1, 0, 0, 1, 0, 1, 0, 0, 1, 1, 0, 1, 1])) (.b (.l [0, 1, 0, 0, 1, 1, 0, 1, 0, 1, 0, 0, 1]) (.l [0, 1, 0, 0, 1, 1, 0, 1, 0, 1, 0, 0, 1, 1, 0, 1, 1])))) (.b (.b (.b (.l [0, 1, 0, 0, 1, 0, 0, 1, 0, 0, 1, 0, 1, 0, 0, 1, 1, 0, 1, 1]) (.l [0, 1, 0, 0, 1, 0, 0, 1, 1, 0, 1, 0, 1, 0, 0, 1, 1, 0, 1, 1])) (.b (.l [0, 1, 0, 0, 1, 1, 0, 1, 0, 0, 1, 0, 1, 0, 0, 1, 1, 0, 1, 1]) (.l [0, 1, 0, 0, 1, 1, 0, 1, 1, 0, 1, 0, 1, 0, 0, 1, 1, 0, 1, 1]))) (.b (.b (.l [0, 1, 0, 0, 1, 0, 0, 1, 1, 0, 1, 0, 1, 0, 0, 1, 1, 0, 1, 1]) (.l [0, 1, 0, 0, 1, 0, 0, 1, 0, 0, 1, 0, 1, 0, 0, 1, 1, 0, 1, 1])) (.b (.l [0, 1, 0, 0, 1, 1, 0, 1, 1, 0, 1, 0, 1, 0, 0, 1, 1, 0, 1, 1]) (.l [0, 1, 0, 0, 1, 1, 0, 1, 0, 0, 1, 0, 1, 0, 0, 1, 1, 0, 1, 1]))))) (.b (.l [0, 1, 0, 1, 0, 0, 1]) (.b (.l [0, 1, 0, 0, 1, 0, 1, 0, 0, 1, 1, 0, 1, 1]) (.l [0, 1, 1, 0, 1, 0, 1, 0, 0, 1, 1, 0, 1, 1]))))) rfl x0 x1 x2 x3 x4 x5 (min x0 x1) (min x0 x1 - x2) (x1 - x0) (min x3 (x1 - x0)) (x0 - x2) (aN x0 x1) (aS ((min x0 x1)) x2) (aS x1 x0) (aN x3 ((x1 - x0))) (aS x0 x2) h0 h1 h2
theorem ar786 {x0 x1 x2 x3 x4 x5 : Nat} (h0 : x0 < x3) (h1 : x1 + x2 = x4) (h2 : x1 + x5 ≤ x0) (h3 : x3 = x4) : x0 - x1 < x2 :=
  ar 7 0 (.i (.S (.v 0) (.v 1) (.v 6)) (.i (.t (.v 0) (.v 3)) (.i (.e (.a (.v 1) (.v 2)) (.v 4)) (.i (.l (.a (.v 1) (.v 5)) (.v 0)) (.i (.e (.v 3) (.v 4)) (.t (.v 6) (.v 2))))))) (.b (.l [1, 0, 0, 1, 1, 0, 0, 0, 1, 1]) (.l [1, 0, 0, 1, 1, 0, 1, 0, 1, 1])) rfl x0 x1 x2 x3 x4 x5 (x0 - x1) (aS x0 x1) h0 h1 h2 h3
theorem ar787 {x0 x1 x2 : Nat} (h0 : x0 + x2 ≤ x1) : x0 + (x1 - x0) = x1 :=
  ar 4 0 (.i (.S (.v 1) (.v 0) (.v 3)) (.i (.l (.a (.v 0) (.v 2)) (.v 1)) (.e (.a (.v 0) (.v 3)) (.v 1)))) (.b (.b (.l [1, 0, 0, 1]) (.l [1, 0, 0, 1, 1])) (.b (.l [0, 1, 0, 1]) (.l [0, 1, 1, 1]))) rfl x0 x1 x2 (x1 - x0) (aS x1 x0) h0
theorem ar788 {x0 x1 x2 x3 x4 x5 : Nat} (h0 : x0 < x1) (h1 : x1 + x4 = x5) (h2 : x2 ≤ x4) (h3 : x3 = x5) : 0 + x0 + (x1 - x0 + x2) ≤ x3 :=
  ar 7 0 (.i (.S (.v 1) (.v 0) (.v 6)) (.i (.t (.v 0) (.v 1)) (.i (.e (.a (.v 1) (.v 4)) (.v 5)) (.i (.l (.v 2) (.v 4)) (.i (.e (.v 3) (.v 5)) (.l (.a (.a (.n 0) (.v 0)) (.a (.v 6) (.v 2))) (.v 3))))))) (.b (.l [1, 0, 0, 1, 0, 1, 1, 1]) (.l [0, 0, 1, 0, 0, 0, 0, 0, 0, 1])) rfl x0 x1 x2 x3 x4 x5 (x1 - x0) (aS x1 x0) h0 h1 h2 h3
theorem ar789 {x0 x1 x2 : Nat} (h0 : x0 < x1) : x0 + (x1 - x0 + x2) = x1 + x2 :=
  ar 4 0 (.i (.S (.v 1) (.v 0) (.v 3)) (.i (.t (.v 0) (.v 1)) (.e (.a (.v 0) (.a (.v 3) (.v 2))) (.a (.v 1) (.v 2))))) (.b (.b (.l [1, 0, 0, 1]) (.l [1, 0, 0, 1, 1])) (.b (.l [0, 1, 0, 1]) (.l [0, 1, 1, 1]))) rfl x0 x1 x2 (x1 - x0) (aS x1 x0) h0
theorem ar790 {x0 x1 x2 : Nat} (h0 : x0 = x1 - x2) (h1 : x2 < x1) : 0 < x0 :=
  ar 4 0 (.i (.S (.v 1) (.v 2) (.v 3)) (.i (.e (.v 0) (.v 3)) (.i (.t (.v 2) (.v 1)) (.t (.n 0) (.v 0))))) (.b (.l [0, 1, 0, 1, 1, 0, 1]) (.l [0, 0, 1, 0, 1])) rfl x0 x1 x2 (x1 - x2) (aS x1 x2) h0 h1
theorem ar791 {x0 x1 x2 x3 : Nat} (h0 : x0 = x1) (h1 : x2 - x3 ≤ x1) (h2 : x3 < x2) : 0 < x0 :=
  ar 5 0 (.i (.S (.v 2) (.v 3) (.v 4)) (.i (.e (.v 0) (.v 1)) (.i (.l (.v 4) (.v 1)) (.i (.t (.v 3) (.v 2)) (.t (.n 0) (.v 0)))))) (.b (.l [0, 1, 0, 1, 1, 1, 0, 1]) (.l [0, 0, 1, 0, 1])) rfl x0 x1 x2 x3 (x2 - x3) (aS x2 x3) h0 h1 h2
theorem ar792 {x0 x1 x2 : Nat} (h0 : x1 - x2 ≤ x0) (h1 : x2 < x1) : 0 < x0 :=
  ar 4 0 (.i (.S (.v 1) (.v 2) (.v 3)) (.i (.l (.v 3) (.v 0)) (.i (.t (.v 2) (.v 1)) (.t (.n 0) (.v 0))))) (.b (.l [0, 1, 0, 1, 1, 1]) (.l [0, 0, 1, 0, 1])) rfl x0 x1 x2 (x1 - x2) (aS x1 x2) h0 h1
theorem ar793 {x0 x1 : Nat} (h0 : x1 < x0) : x0 - x1 - 1 < x0 - x1 :=
  ar 4 0 (.i (.S (.v 0) (.v 1) (.v 2)) (.i (.S (.v 2) (.n 1) (.v 3)) (.i (.t (.v 1) (.v 0)) (.t (.v 3) (.v 2))))) (.b (.l [1, 0, 0, 1]) (.b (.l [0, 1, 0, 1, 0, 0, 1, 1]) (.l [0, 0, 1, 0, 0, 0, 0, 1]))) rfl x0 x1 (x0 - x1) (x0 - x1 - 1) (aS x0 x1) (aS ((x0 - x1)) 1) h0
theorem ar794 {x0 x1 : Nat} (h0 : x0 < x1) : x0 + (x1 - x0 - 1) = x1 - 1 :=
  ar 5 0 (.i (.S (.v 1) (.v 0) (.v 2)) (.i (.S (.v 2) (.n 1) (.v 3)) (.i (.S (.v 1) (.n 1) (.v 4)) (.i (.t (.v 0) (.v 1)) (.e (.a (.v 0) (.v 3)) (.v 4)))))) (.b (.b (.b (.b (.l [1, 0, 0, 1, 0, 0, 0, 1, 0, 1]) (.l [1, 0, 0, 0, 0, 1])) (.l [1, 0, 0, 0, 1, 0, 1, 1])) (.b (.b (.l [1, 0, 0, 1, 0, 0, 0, 1, 1, 1]) (.l [1, 0, 0, 0, 0, 1])) (.l [1, 0, 0, 0, 1, 1, 1, 1]))) (.b (.b (.b (.l [0, 1, 0, 0, 1, 0, 1, 0, 0, 1]) (.l [1, 0, 0, 0, 0, 1])) (.b (.l [0, 1, 0, 0, 1, 1, 1, 0, 0, 1]) (.l [0, 0, 1, 0, 1, 0, 1, 0, 0, 1]))) (.l [1, 0, 0, 1]))) rfl x0 x1 (x1 - x0) (x1 - x0 - 1) (x1 - 1) (aS x1 x0) (aS ((x1 - x0)) 1) (aS x1 1) h0
theorem ar795 {x0 x1 x2 x3 : Nat} (h0 : x0 = x1 - x2) (h1 : ¬ (x1 - x2 ≤ x3)) : 0 < x0 :=
  ar 5 0 (.i (.e (.v 0) (.v 4)) (.i (.n (.l (.v 4) (.v 3))) (.t (.n 0) (.v 0)))) (.l [1, 1, 0, 1]) rfl x0 x1 x2 x3 (x1 - x2) h0 h1
theorem ar796 : ∀ {x0 x1 : Nat} (h : x0 = x1) (h : ¬ (x1 = 0)), 0 < x0 := @ar 2 0 (.i (.e (.v 0) (.v 1)) (.i (.n (.e (.v 1) (.n 0))) (.t (.n 0) (.v 0)))) (.b (.l [1, 1, 0, 1]) (.l [1])) rfl
theorem ar797 {x0 : Nat} (h0 : ¬ (x0 = 0)) : x0 - 1 < x0 :=
  ar 2 0 (.i (.S (.v 0) (.n 1) (.v 1)) (.i (.n (.e (.v 0) (.n 0))) (.t (.v 1) (.v 0)))) (.b (.b (.l [1, 0, 0, 0, 1]) (.l [1, 0, 0, 1, 1])) (.l [1])) rfl x0 (x0 - 1) (aS x0 1) h0
theorem ar798 : ∀ {z0 z1 z2 : Int} (h : z0 < z2) (h : z2 ≤ z1), z0 ≤ z1 := @ar 0 3 (.i (.t' (.v 0) (.v 2)) (.i (.L (.v 2) (.v 1)) (.L (.v 0) (.v 1)))) (.l [1, 1, 1]) rfl
theorem ar799 {x0 : Nat} (h0 : 2 ≤ x0) : x0 = x0 - 1 + 1 :=
  ar 2 0 (.i (.S (.v 0) (.n 1) (.v 1)) (.i (.l (.n 2) (.v 0)) (.e (.v 0) (.s (.v 1))))) (.b (.b (.l [0, 1, 0, 1]) (.l [0, 1, 1, 1])) (.b (.l [1, 0, 0, 1]) (.l [0, 0, 1, 0, 1]))) rfl x0 (x0 - 1) (aS x0 1) h0
theorem ar800 : ∀ {x0 x1 : Nat} (h : x0 = x1 + 1), 1 ≤ x0 + 0 ∧ x0 + 0 ≤ x0 ∧ x0 ≤ 2 * (x0 + 0) := @ar 2 0 (.i (.e (.v 0) (.s (.v 1))) (.a (.l (.n 1) (.a (.v 0) (.n 0))) (.a (.l (.a (.v 0) (.n 0)) (.v 0)) (.l (.v 0) (.m 2 (.a (.v 0) (.n 0))))))) (.b (.l [1, 0, 1]) (.b (.l [1]) (.l [1]))) rfl
theorem ar801 {x0 x1 : Nat} (h0 : x1 = x0 + 1) (h1 : ¬ (x1 < 64)) : x0 = x0 - 1 + 1 :=
  ar 3 0 (.i (.S (.v 0) (.n 1) (.v 2)) (.i (.e (.v 1) (.s (.v 0))) (.i (.n (.t (.v 1) (.n 64))) (.e (.v 0) (.s (.v 2)))))) (.b (.b (.l [0, 1, 0, 1]) (.l [0, 1, 1, 1])) (.b (.l [1, 0, 0, 1]) (.l [0, 0, 1, 0, 1, 1]))) rfl x0 x1 (x0 - 1) (aS x0 1) h0 h1
theorem ar802 {x0 : Nat} (h0 : x0 < 128) : x0 / 2 < 64 :=
  ar 3 0 (.i (.K 2 (.v 0) (.v 1) (.v 2)) (.i (.t (.v 0) (.n 128)) (.t (.v 1) (.n 64)))) (.l [2, 1, 0, 1]) rfl x0 (x0 / 2) (x0 % 2) (aK x0 2 rfl) h0
theorem ar803 {x0 : Nat} (h0 : ¬ (x0 < 64)) : 1 ≤ x0 / 2 + max 0 (x0 % 2) ∧ x0 / 2 + max 0 (x0 % 2) ≤ x0 ∧ x0 ≤ 2 * (x0 / 2 + max 0 (x0 % 2)) :=
  ar 4 0 (.i (.K 2 (.v 0) (.v 1) (.v 2)) (.i (.X (.n 0) (.v 2) (.v 3)) (.i (.n (.t (.v 0) (.n 64))) (.a (.l (.n 1) (.a (.v 1) (.v 3))) (.a (.l (.a (.v 1) (.v 3)) (.v 0)) (.l (.v 0) (.m 2 (.a (.v 1) (.v 3))))))))) (.b (.l [2, 1, 1, 0, 1]) (.b (.b (.l [2, 0, 0, 2, 1, 1, 1]) (.l [2, 0, 0, 2, 1, 0, 1])) (.b (.l [0, 2, 1, 1, 0, 0, 0, 1]) (.l [0, 2, 1, 1, 0, 0, 0, 1])))) rfl x0 (x0 / 2) (x0 % 2) (max 0 (x0 % 2)) (aK x0 2 rfl) (aX 0 ((x0 % 2))) h0
theorem ar804 {x0 : Nat} (h0 : 2 ≤ x0) (h1 : max 0 x0 = 0) : False :=
  ar 2 0 (.i (.X (.n 0) (.v 0) (.v 1)) (.i (.l (.n 2) (.v 0)) (.i (.e (.v 1) (.n 0)) .f))) (.b (.l [0, 1, 0, 0, 1, 0, 1]) (.l [0, 0, 1, 0, 0, 0, 1])) rfl x0 (max 0 x0) (aX 0 x0) h0 h1
theorem ar805 {x0 : Nat} (h0 : 2 ≤ x0) (h1 : max 0 x0 = 1) : False :=
  ar 2 0 (.i (.X (.n 0) (.v 0) (.v 1)) (.i (.l (.n 2) (.v 0)) (.i (.e (.v 1) (.n 1)) .f))) (.b (.l [0, 1, 0, 0, 1, 0, 1]) (.l [1, 0, 0, 0, 0, 1])) rfl x0 (max 0 x0) (aX 0 x0) h0 h1
theorem ar806 : ∀ {x0 : Nat} (h : 2 ≤ x0), ¬ (x0 ≤ 0) := @ar 1 0 (.i (.l (.n 2) (.v 0)) (.n (.l (.v 0) (.n 0)))) (.l [1, 1]) rfl
theorem ar807 {x0 : Nat} : 0 + (x0 - 0) ≤ x0 :=
  ar 2 0 (.i (.S (.v 0) (.n 0) (.v 1)) (.l (.a (.n 0) (.v 1)) (.v 0))) (.b (.l [1, 0, 0, 1]) (.l [1, 0, 0, 1])) rfl x0 (x0 - 0) (aS x0 0)
theorem ar808 {x0 : Nat} (h0 : 2 ≤ x0) : 1 ≤ x0 - 0 :=
  ar 2 0 (.i (.S (.v 0) (.n 0) (.v 1)) (.i (.l (.n 2) (.v 0)) (.l (.n 1) (.v 1)))) (.b (.l [0, 1, 0, 1, 1]) (.l [0, 0, 1, 0, 1])) rfl x0 (x0 - 0) (aS x0 0) h0
theorem ar809 {x0 x1 : Nat} : 0 + min (x0 - 0) x1 ≤ x0 :=
  ar 4 0 (.i (.S (.v 0) (.n 0) (.v 2)) (.i (.N (.v 2) (.v 1) (.v 3)) (.l (.a (.n 0) (.v 3)) (.v 0)))) (.b (.b (.l [1, 0, 0, 1, 0, 0, 1]) (.l [1, 0, 0, 1, 0, 0, 1])) (.b (.l [1, 0, 0, 1, 0, 1, 1]) (.l [1, 0, 0, 1, 0, 1, 1]))) rfl x0 x1 (x0 - 0) (min (x0 - 0) x1) (aS x0 0) (aN ((x0 - 0)) x1)
theorem ar810 {x0 x1 x2 : Nat} (h0 : x0 < x2) (h1 : x0 ≤ x1 - 0) : x0 ≤ min (x1 - 0) x2 :=
  ar 5 0 (.i (.N (.v 3) (.v 2) (.v 4)) (.i (.t (.v 0) (.v 2)) (.i (.l (.v 0) (.v 3)) (.l (.v 0) (.v 4))))) (.b (.l [0, 1, 0, 1, 1]) (.l [0, 1, 0, 1, 0, 1])) rfl x0 x1 x2 (x1 - 0) (min (x1 - 0) x2) (aN ((x1 - 0)) x2) h0 h1
theorem ar811 {x0 x1 x2 : Nat} (h0 : 1 ≤ x1) (h1 : 1 ≤ x2) (h2 : x2 ≤ x0 - 0) : 1 ≤ min (x0 - 0) x1 :=
  ar 5 0 (.i (.N (.v 3) (.v 1) (.v 4)) (.i (.l (.n 1) (.v 1)) (.i (.l (.n 1) (.v 2)) (.i (.l (.v 2) (.v 3)) (.l (.n 1) (.v 4)))))) (.b (.l [0, 1, 0, 1, 1, 1]) (.l [0, 1, 0, 1, 0, 0, 1])) rfl x0 x1 x2 (x0 - 0) (min (x0 - 0) x1) (aN ((x0 - 0)) x1) h0 h1 h2
theorem ar812 {x0 x1 : Nat} : min (x0 - 0) x1 ≤ x0 :=
  ar 4 0 (.i (.S (.v 0) (.n 0) (.v 2)) (.i (.N (.v 2) (.v 1) (.v 3)) (.l (.v 3) (.v 0)))) (.b (.b (.l [1, 0, 0, 1, 0, 0, 1]) (.l [1, 0, 0, 1, 0, 0, 1])) (.b (.l [1, 0, 0, 1, 0, 1, 1]) (.l [1, 0, 0, 1, 0, 1, 1]))) rfl x0 x1 (x0 - 0) (min (x0 - 0) x1) (aS x0 0) (aN ((x0 - 0)) x1)
theorem ar813 {x0 x1 : Nat} : min (x0 - 0) x1 = x0 ∨ x1 ≤ min (x0 - 0) x1 :=
  ar 4 0 (.i (.S (.v 0) (.n 0) (.v 2)) (.i (.N (.v 2) (.v 1) (.v 3)) (.o (.e (.v 3) (.v 0)) (.l (.v 1) (.v 3))))) (.b (.b (.b (.l [1, 0, 0, 1, 0, 0, 1]) (.l [1, 0, 0, 1, 0, 0, 1])) (.l [0, 1, 0, 0, 1])) (.b (.b (.l [0, 1, 0, 0, 1, 0, 1]) (.l [0, 1, 1, 0, 1, 0, 1])) (.l [0, 1, 0, 0, 1]))) rfl x0 x1 (x0 - 0) (min (x0 - 0) x1) (aS x0 0) (aN ((x0 - 0)) x1)
theorem ar814 {x0 x1 : Nat} (h0 : x0 ≤ x1 - 0) : x0 ≤ x1 :=
  ar 3 0 (.i (.S (.v 1) (.n 0) (.v 2)) (.i (.l (.v 0) (.v 2)) (.l (.v 0) (.v 1)))) (.b (.l [1, 0, 0, 1, 1]) (.l [1, 0, 0, 1, 1])) rfl x0 x1 (x1 - 0) (aS x1 0) h0
theorem ar815 : ∀ {x0 x1 x2 : Nat} (h : ¬ (x0 < x2)), x0 = x1 ∨ x2 ≤ x0 := @ar 3 0 (.i (.n (.t (.v 0) (.v 2))) (.o (.e (.v 0) (.v 1)) (.l (.v 2) (.v 0)))) (.l [1, 1]) rfl
theorem ar816 : ∀ {x0 x1 : Nat} (h : x1 ≤ x0) (h : ¬ (x1 = x0)), ¬ (x0 ≤ x1) := @ar 2 0 (.i (.l (.v 1) (.v 0)) (.i (.n (.e (.v 1) (.v 0))) (.n (.l (.v 0) (.v 1))))) (.b (.l [1, 0, 1]) (.l [1, 1])) rfl
theorem ar817 {x0 x1 : Nat} (h0 : x0 ≤ x1) : x0 + (x1 - x0) ≤ x1 :=
  ar 3 0 (.i (.S (.v 1) (.v 0) (.v 2)) (.i (.l (.v 0) (.v 1)) (.l (.a (.v 0) (.v 2)) (.v 1)))) (.b (.l [1, 0, 0, 1]) (.l [1, 0, 0, 1, 1])) rfl x0 x1 (x1 - x0) (aS x1 x0) h0
theorem ar818 {x0 x1 : Nat} (h0 : x1 ≤ x0) (h1 : ¬ (x1 = x0)) : 1 ≤ x0 - x1 :=
  ar 3 0 (.i (.S (.v 0) (.v 1) (.v 2)) (.i (.l (.v 1) (.v 0)) (.i (.n (.e (.v 1) (.v 0))) (.l (.n 1) (.v 2))))) (.b (.l [1, 0, 1]) (.b (.l [0, 1, 0, 1, 1]) (.l [0, 0, 1, 1]))) rfl x0 x1 (x0 - x1) (aS x0 x1) h0 h1
theorem ar819 {x0 x1 x2 : Nat} (h0 : x0 ≤ x1) : x0 + min (x1 - x0) x2 ≤ x1 :=
  ar 5 0 (.i (.S (.v 1) (.v 0) (.v 3)) (.i (.N (.v 3) (.v 2) (.v 4)) (.i (.l (.v 0) (.v 1)) (.l (.a (.v 0) (.v 4)) (.v 1))))) (.b (.b (.l [1, 0, 0, 1, 0, 0, 1]) (.l [1, 0, 0, 1, 0, 0, 1, 1])) (.b (.l [1, 0, 0, 1, 0, 1, 1]) (.l [1, 0, 0, 1, 0, 1, 1, 1]))) rfl x0 x1 x2 (x1 - x0) (min (x1 - x0) x2) (aS x1 x0) (aN ((x1 - x0)) x2) h0
theorem ar820 {x0 x1 x2 x3 : Nat} (h0 : x0 < x3) (h1 : x0 ≤ x1 - x2) : x0 ≤ min (x1 - x2) x3 :=
  ar 6 0 (.i (.N (.v 4) (.v 3) (.v 5)) (.i (.t (.v 0) (.v 3)) (.i (.l (.v 0) (.v 4)) (.l (.v 0) (.v 5))))) (.b (.l [0, 1, 0, 1, 1]) (.l [0, 1, 0, 1, 0, 1])) rfl x0 x1 x2 x3 (x1 - x2) (min (x1 - x2) x3) (aN ((x1 - x2)) x3) h0 h1
theorem ar821 : (2 : Nat) ≤ 1 + 1 := ar 0 0 (.l (.n 2) (.s (.n 1))) (.l [1]) rfl
theorem ar822 {x0 x1 x2 : Nat} (h0 : x0 = x1 ∨ x2 ≤ x0) (h1 : x0 ≤ x1) (h2 : x1 ≤ 2 * x2) : x0 + min (x1 - x0) x2 = x1 :=
  ar 5 0 (.i (.S (.v 1) (.v 0) (.v 3)) (.i (.N (.v 3) (.v 2) (.v 4)) (.i (.o (.e (.v 0) (.v 1)) (.l (.v 2) (.v 0))) (.i (.l (.v 0) (.v 1)) (.i (.l (.v 1) (.m 2 (.v 2))) (.e (.a (.v 0) (.v 4)) (.v 1))))))) (.b (.s (.b (.b (.l [1, 0, 0, 1, 0, 0, 1]) (.l [1, 0, 0, 1, 0, 0, 1, 0, 1])) (.b (.l [1, 0, 0, 1, 0, 1, 1]) (.l [1, 0, 0, 1, 0, 1, 1, 0, 1])))) (.b (.l [0, 1, 1]) (.b (.b (.l [0, 1, 0, 0, 1, 0, 0, 1]) (.l [0, 1, 1, 0, 1, 0, 0, 1])) (.l [0, 1, 0, 1, 1, 1])))) rfl x0 x1 x2 (x1 - x0) (min (x1 - x0) x2) (aS x1 x0) (aN ((x1 - x0)) x2) h0 h1 h2
theorem ar823 {x0 x1 x2 : Nat} (h0 : 1 ≤ x2) (h1 : x2 ≤ x1 - x0) : x0 < x1 :=
  ar 4 0 (.i (.S (.v 1) (.v 0) (.v 3)) (.i (.l (.n 1) (.v 2)) (.i (.l (.v 2) (.v 3)) (.t (.v 0) (.v 1))))) (.b (.l [1, 0, 0, 1, 1, 1]) (.l [1, 0, 0, 0, 1, 1])) rfl x0 x1 x2 (x1 - x0) (aS x1 x0) h0 h1
theorem ar824 {x0 x1 x2 : Nat} (h0 : x0 ≤ 2 * x2) (h1 : x1 = x0 ∨ x2 ≤ x1) : x0 - x1 = min (x0 - x1) x2 :=
  ar 5 0 (.i (.S (.v 0) (.v 1) (.v 3)) (.i (.N (.v 3) (.v 2) (.v 4)) (.i (.l (.v 0) (.m 2 (.v 2))) (.i (.o (.e (.v 1) (.v 0)) (.l (.v 2) (.v 1))) (.e (.v 3) (.v 4)))))) (.b (.b (.b (.l [0, 1, 0, 0, 0, 1]) (.b (.l [2, 0, 0, 0, 2, 0, 0, 2, 2, 1]) (.l [2, 0, 0, 0, 2, 0, 0, 0, 2, 1]))) (.b (.l [0, 1, 0, 0, 1]) (.b (.l [1, 0, 0, 0, 1, 0, 1, 1, 1]) (.l [2, 0, 0, 0, 2, 0, 0, 2, 1])))) (.s (.b (.l [1, 0, 0, 1]) (.l [1, 0, 1, 1])))) rfl x0 x1 x2 (x0 - x1) (min (x0 - x1) x2) (aS x0 x1) (aN ((x0 - x1)) x2) h0 h1
theorem ar825 {x0 x1 x2 x3 : Nat} (h0 : x2 ≤ 2 * x3) (h1 : x0 ≤ x2) (h2 : x0 = x2 ∨ x3 ≤ x0) (h3 : x1 ≤ x2 - x0) (h4 : ¬ (x1 < x3)) : x0 + x1 = x2 :=
  ar 5 0 (.i (.S (.v 2) (.v 0) (.v 4)) (.i (.l (.v 2) (.m 2 (.v 3))) (.i (.l (.v 0) (.v 2)) (.i (.o (.e (.v 0) (.v 2)) (.l (.v 3) (.v 0))) (.i (.l (.v 1) (.v 4)) (.i (.n (.t (.v 1) (.v 3))) (.e (.a (.v 0) (.v 1)) (.v 2)))))))) (.b (.s (.b (.l [1, 0, 0, 1, 0, 1]) (.l [1, 0, 0, 1, 0, 1, 1]))) (.b (.l [0, 1, 2, 2, 0, 0, 1]) (.l [1, 1, 1, 0, 0, 1]))) rfl x0 x1 x2 x3 (x2 - x0) (aS x2 x0) h0 h1 h2 h3 h4
theorem ar826 {x0 x1 x2 x3 : Nat} (h0 : x0 ≤ 2 * x3) (h1 : x1 = x0 ∨ x3 ≤ x1) (h2 : x2 ≤ x0 - x1) (h3 : ¬ (x2 < x3)) : x0 - x1 = x2 :=
  ar 5 0 (.i (.S (.v 0) (.v 1) (.v 4)) (.i (.l (.v 0) (.m 2 (.v 3))) (.i (.o (.e (.v 1) (.v 0)) (.l (.v 3) (.v 1))) (.i (.l (.v 2) (.v 4)) (.i (.n (.t (.v 2) (.v 3))) (.e (.v 4) (.v 2))))))) (.b (.b (.b (.l [2, 0, 0, 0, 2, 2, 2, 0, 1]) (.l [2, 0, 0, 0, 0, 2, 2, 0, 1])) (.b (.l [1, 0, 0, 1, 1, 1, 0, 1]) (.l [2, 0, 0, 0, 2, 2, 0, 1]))) (.l [1, 0, 1])) rfl x0 x1 x2 x3 (x0 - x1) (aS x0 x1) h0 h1 h2 h3
theorem ar827 : ∀ {z0 z1 : Int}, ¬ (z0 * 1000 + z1 < z0 * 1000 + z1) := @ar 0 2 (.n (.t' (.a (.r (.v 0) (1000)) (.v 1)) (.a (.r (.v 0) (1000)) (.v 1)))) (.l [1]) rfl
theorem ar828 : ∀ {z0 z1 z2 : Int}, z0 * 1000 + z1 < z0 * 1000 + z2 → z1 < z2 := @ar 0 3 (.i (.t' (.a (.r (.v 0) (1000)) (.v 1)) (.a (.r (.v 0) (1000)) (.v 2))) (.t' (.v 1) (.v 2))) (.l [1, 1]) rfl
theorem ar829 : ∀ {z0 z1 z2 : Int}, z0 < z1 → z2 * 1000 + z0 < z2 * 1000 + z1 := @ar 0 3 (.i (.t' (.v 0) (.v 1)) (.t' (.a (.r (.v 2) (1000)) (.v 0)) (.a (.r (.v 2) (1000)) (.v 1)))) (.l [1, 1]) rfl
theorem ar830 : ∀ {z0 z1 z2 z3 : Int} (h : (0 : Int) ≤ z1) (h : z3 < 1000) (h : ¬ (z0 = z2)), z0 * 1000 + z1 < z2 * 1000 + z3 → z0 < z2 := @ar 0 4 (.i (.L (.n 0) (.v 1)) (.i (.t' (.v 3) (.n 1000)) (.i (.n (.E (.v 0) (.v 2))) (.i (.t' (.a (.r (.v 0) (1000)) (.v 1)) (.a (.r (.v 2) (1000)) (.v 3))) (.t' (.v 0) (.v 2)))))) (.b (.l [1000, 0, 1, 1, 1]) (.l [1, 1])) rfl
theorem ar831 : ∀ {z0 z1 z2 z3 : Int} (h : (0 : Int) ≤ z3) (h : z2 < 1000), z0 < z1 → z0 * 1000 + z2 < z1 * 1000 + z3 := @ar 0 4 (.i (.L (.n 0) (.v 3)) (.i (.t' (.v 2) (.n 1000)) (.i (.t' (.v 0) (.v 1)) (.t' (.a (.r (.v 0) (1000)) (.v 2)) (.a (.r (.v 1) (1000)) (.v 3)))))) (.l [1, 1000, 1, 1]) rfl
end Mine
end

section
open PySem PyProof.Rows
set_option Elab.async false
set_option linter.unusedVariables false
namespace Mine
theorem lenS {α : Type} {l : List α} {n : Nat} (h : l.length = n + 1) : ∃ a t, l = a :: t ∧ t.length = n := by
  cases l with
  | nil => exact absurd h.symm (Nat.succ_ne_zero n)
  | cons a t => exact ⟨a, t, rfl, Nat.succ.inj h⟩
theorem len1 {α : Type} {l : List α} (h : l.length = 1) : ∃ a, l = [a] := by
  obtain ⟨a, t, rfl, e⟩ := lenS h
  rw [List.eq_nil_of_length_eq_zero e]; exact ⟨a, rfl⟩
theorem len2 {α : Type} {l : List α} (h : l.length = 2) : ∃ a b, l = [a, b] := by
  obtain ⟨a, t, rfl, e⟩ := lenS h
  obtain ⟨b, rfl⟩ := len1 e
  exact ⟨a, b, rfl⟩
theorem len3 {α : Type} {l : List α} (h : l.length = 3) : ∃ a b c, l = [a, b, c] := by
  obtain ⟨a, t, rfl, e⟩ := lenS h
  obtain ⟨b, c, rfl⟩ := len2 e
  exact ⟨a, b, c, rfl⟩

inductive V where
  | none
  | bool (b : Bool)
  | int (i : Int)
  | str (s : Str)
  | bytes (b : List UInt8)
  | ty (n : String)
  | list (l : List V)
  | tup (l : List V)

noncomputable abbrev lobj (vs : List Value) (n : Nat) : Obj := { cls := .type "list", data := .seq vs.toArray n }
noncomputable abbrev tobj (vs : List Value) (n : Nat) : Obj := { cls := .type "tuple", data := .seq vs.toArray n }
noncomputable abbrev bobj (b : List UInt8) : Obj := { cls := .type "bytearray", data := .bytearray b.toArray }

mutual
noncomputable def Den (X : Addr → Prop) (h : Heap) : V → Value → Prop
  | .none, v => v = .none
  | .bool b, v => v = .bool b
  | .int i, v => ∃ t, v = .int i t
  | .str x, v => ∃ t, v = .str x t
  | .bytes b, v => b.length ≤ sizeLine ∧ ∃ t, v = .bytes b.toArray t
  | .ty n, v => v = .type n
  | .list ds, v => ds.length ≤ sizeLine ∧ ∃ a vs n, v = .ref a ∧ ¬ X a ∧ h.get? a = some (lobj vs n) ∧ DenL X h ds vs
  | .tup ds, v => ds.length ≤ sizeLine ∧ ∃ a vs n, v = .ref a ∧ ¬ X a ∧ h.get? a = some (tobj vs n) ∧ DenL X h ds vs
noncomputable def DenL (X : Addr → Prop) (h : Heap) : List V → List Value → Prop
  | [], vs => vs = []
  | d :: ds, vs => ∃ v vs', vs = v :: vs' ∧ Den X h d v ∧ DenL X h ds vs'
end

mutual
theorem Den.imp {X X' : Addr → Prop} {h h' : Heap} (hx : ∀ a o, X' a → h.get? a = some o → X a) (hk : ∀ b o, ¬ X b → h.get? b = some o → h'.get? b = some o) :
    ∀ (d : V) (v : Value), Den X h d v → Den X' h' d v
  | .none, v => by simp only [Den]; exact id
  | .bool b, v => by simp only [Den]; exact id
  | .int i, v => by simp only [Den]; exact id
  | .str x, v => by simp only [Den]; exact id
  | .bytes b, v => by simp only [Den]; exact id
  | .ty n, v => by simp only [Den]; exact id
  | .list ds, v => by
    simp only [Den]
    rintro ⟨hl, a, vs, n, e, hX, hg, hd⟩
    exact ⟨hl, a, vs, n, e, fun q => hX (hx a _ q hg), hk a _ hX hg, DenL.imp hx hk ds vs hd⟩
  | .tup ds, v => by
    simp only [Den]
    rintro ⟨hl, a, vs, n, e, hX, hg, hd⟩
    exact ⟨hl, a, vs, n, e, fun q => hX (hx a _ q hg), hk a _ hX hg, DenL.imp hx hk ds vs hd⟩
theorem DenL.imp {X X' : Addr → Prop} {h h' : Heap} (hx : ∀ a o, X' a → h.get? a = some o → X a) (hk : ∀ b o, ¬ X b → h.get? b = some o → h'.get? b = some o) :
    ∀ (ds : List V) (vs : List Value), DenL X h ds vs → DenL X' h' ds vs
  | [], vs => by simp only [DenL]; exact id
  | d :: ds, vs => by
    simp only [DenL]
    rintro ⟨v, vs', e, h1, h2⟩
    exact ⟨v, vs', e, Den.imp hx hk d v h1, DenL.imp hx hk ds vs' h2⟩
end

noncomputable abbrev HK (h h' : Heap) : Prop := ∀ b o, h.get? b = some o → h'.get? b = some o

theorem Den.keeps {X : Addr → Prop} {h h' : Heap} {d : V} {v : Value} (hk : HK h h') (x : Den X h d v) : Den X h' d v :=
  Den.imp (fun _ _ q _ => q) (fun b o _ e => hk b o e) d v x
theorem DenL.keeps {X : Addr → Prop} {h h' : Heap} {ds : List V} {vs : List Value} (hk : HK h h') (x : DenL X h ds vs) : DenL X h' ds vs :=
  DenL.imp (fun _ _ q _ => q) (fun b o _ e => hk b o e) ds vs x
theorem Den.less {X X' : Addr → Prop} {h : Heap} {d : V} {v : Value} (hx : ∀ a, X' a → X a) (x : Den X h d v) : Den X' h d v :=
  Den.imp (fun a _ q _ => hx a q) (fun _ _ _ e => e) d v x
theorem DenL.less {X X' : Addr → Prop} {h : Heap} {ds : List V} {vs : List Value} (hx : ∀ a, X' a → X a) (x : DenL X h ds vs) : DenL X' h ds vs :=
  DenL.imp (fun a _ q _ => hx a q) (fun _ _ _ e => e) ds vs x

theorem DenL.length {X : Addr → Prop} {h : Heap} : ∀ {ds : List V} {vs : List Value}, DenL X h ds vs → vs.length = ds.length
  | [], vs, x => by simp only [DenL] at x; subst x; rfl
  | d :: ds, vs, x => by
    simp only [DenL] at x
    obtain ⟨v, vs', rfl, _, h2⟩ := x
    simp [DenL.length h2]
theorem DenL.append {X : Addr → Prop} {h : Heap} {es : List V} {ws : List Value} (y : DenL X h es ws) : ∀ {ds : List V} {vs : List Value}, DenL X h ds vs → DenL X h (ds ++ es) (vs ++ ws)
  | [], vs, x => by simp only [DenL] at x; subst x; exact y
  | d :: ds, vs, x => by
    simp only [DenL] at x
    obtain ⟨v, vs', rfl, h1, h2⟩ := x
    show DenL X h (d :: (ds ++ es)) (v :: (vs' ++ ws))
    simp only [DenL]
    exact ⟨v, _, rfl, h1, DenL.append y h2⟩
theorem DenL.nil {X : Addr → Prop} {h : Heap} : DenL X h [] [] := by simp only [DenL]
theorem DenL.cons {X : Addr → Prop} {h : Heap} {d : V} {v : Value} {ds : List V} {vs : List Value} (x : Den X h d v) (y : DenL X h ds vs) : DenL X h (d :: ds) (v :: vs) := by
  simp only [DenL]; exact ⟨v, vs, rfl, x, y⟩
theorem DenL.snoc {X : Addr → Prop} {h : Heap} {d : V} {v : Value} {ds : List V} {vs : List Value} (y : DenL X h ds vs) (x : Den X h d v) : DenL X h (ds ++ [d]) (vs ++ [v]) :=
  DenL.append (DenL.cons x DenL.nil) y
theorem DenL.get {X : Addr → Prop} {h : Heap} : ∀ {ds : List V} {vs : List Value} (_ : DenL X h ds vs) {k : Nat} {d : V}, ds[k]? = some d → ∃ v, vs[k]? = some v ∧ Den X h d v
  | [], _, _, k, d, e => by simp at e
  | d₀ :: ds, vs, x, k, d, e => by
    simp only [DenL] at x
    obtain ⟨v, vs', rfl, h1, h2⟩ := x
    cases k with
    | zero => simp at e; subst e; exact ⟨v, rfl, h1⟩
    | succ k => simp at e; simpa using DenL.get h2 e
theorem DenL.get' {X : Addr → Prop} {h : Heap} {ds : List V} {vs : List Value} (x : DenL X h ds vs) {k : Nat} {v : Value} (e : vs[k]? = some v) : ∃ d, ds[k]? = some d ∧ Den X h d v := by
  have hk : k < vs.length := (List.getElem?_eq_some_iff.mp e).1
  rw [x.length] at hk
  obtain ⟨w, hw, hd⟩ := x.get (List.getElem?_eq_getElem hk)
  rw [e] at hw; cases hw
  exact ⟨_, List.getElem?_eq_getElem hk, hd⟩
theorem DenL.take {X : Addr → Prop} {h : Heap} : ∀ {ds : List V} {vs : List Value} (_ : DenL X h ds vs) (k : Nat), DenL X h (ds.take k) (vs.take k)
  | [], vs, x, k => by simp only [DenL] at x; subst x; simp only [List.take_nil, DenL]
  | d :: ds, vs, x, k => by
    simp only [DenL] at x
    obtain ⟨v, vs', rfl, h1, h2⟩ := x
    cases k with
    | zero => simp only [List.take_zero, DenL]
    | succ k => simp only [List.take_succ_cons]; exact .cons h1 (h2.take k)
theorem DenL.drop {X : Addr → Prop} {h : Heap} : ∀ {ds : List V} {vs : List Value} (_ : DenL X h ds vs) (k : Nat), DenL X h (ds.drop k) (vs.drop k)
  | [], vs, x, k => by simp only [DenL] at x; subst x; simp only [List.drop_nil, DenL]
  | d :: ds, vs, x, k => by
    have x' := x
    simp only [DenL] at x
    obtain ⟨v, vs', rfl, h1, h2⟩ := x
    cases k with
    | zero => simpa using x'
    | succ k => simp only [List.drop_succ_cons]; exact h2.drop k
theorem DenL.reverse {X : Addr → Prop} {h : Heap} : ∀ {ds : List V} {vs : List Value} (_ : DenL X h ds vs), DenL X h ds.reverse vs.reverse
  | [], vs, x => by simp only [DenL] at x; subst x; simp only [List.reverse_nil, DenL]
  | d :: ds, vs, x => by
    simp only [DenL] at x
    obtain ⟨v, vs', rfl, h1, h2⟩ := x
    simp only [List.reverse_cons]
    exact h2.reverse.snoc h1
theorem DenL.set {X : Addr → Prop} {h : Heap} {d : V} {v : Value} (y : Den X h d v) : ∀ {ds : List V} {vs : List Value} (_ : DenL X h ds vs) (k : Nat), DenL X h (ds.set k d) (vs.set k v)
  | [], vs, x, k => by simp only [DenL] at x; subst x; simp only [List.set_nil, DenL]
  | d₀ :: ds, vs, x, k => by
    simp only [DenL] at x
    obtain ⟨v₀, vs', rfl, h1, h2⟩ := x
    cases k with
    | zero => simp only [List.set_cons_zero]; exact .cons y h2
    | succ k => simp only [List.set_cons_succ]; exact .cons h1 (h2.set y k)
theorem DenL.replicate {X : Addr → Prop} {h : Heap} {d : V} {v : Value} (y : Den X h d v) : ∀ n, DenL X h (List.replicate n d) (List.replicate n v)
  | 0 => by simp only [List.replicate_zero, DenL]
  | n + 1 => by simp only [List.replicate_succ]; exact .cons y (DenL.replicate y n)

inductive Slot where
  | un
  | val (d : V)
  | own (a : Addr) (ds : List V)
  | ownB (a : Addr) (b : List UInt8)

noncomputable def VarIs (env : Env) (h : Heap) (x : Str) (v : Value) : Prop :=
  (env.kindOf x = some .local ∧ ∃ m, h.Ns env.locals m ∧ m x = some v) ∨ (env.kindOf x = some .cell ∧ ∃ c, env.cells.lookup x = some c ∧ h.IsCell c (some v))

noncomputable def SlotIs (env : Env) (X : Addr → Prop) (h : Heap) (x : Str) : Slot → Prop
  | .un => True
  | .val d => ∃ v, VarIs env h x v ∧ Den X h d v
  | .own a ds => VarIs env h x (.ref a) ∧ X a ∧ ds.length ≤ sizeLine ∧ ∃ vs n, h.get? a = some (lobj vs n) ∧ DenL X h ds vs
  | .ownB a b => VarIs env h x (.ref a) ∧ X a ∧ b.length ≤ sizeLine ∧ h.get? a = some (bobj b)

theorem VarIs.keeps {env : Env} {h h' : Heap} {x : Str} {v : Value} (hk : HK h h') (y : VarIs env h x v) : VarIs env h' x v := by
  rcases y with ⟨a, m, hn, hm⟩ | ⟨a, c, hc, hv⟩
  · exact .inl ⟨a, m, hn.keeps hk, hm⟩
  · exact .inr ⟨a, c, hc, hv.keeps hk⟩
theorem SlotIs.keeps {env : Env} {X : Addr → Prop} {h h' : Heap} {x : Str} (hk : HK h h') : ∀ {sl : Slot}, SlotIs env X h x sl → SlotIs env X h' x sl
  | .un, y => y
  | .val d, ⟨v, a, b⟩ => ⟨v, a.keeps hk, b.keeps hk⟩
  | .own a ds, ⟨p, q, r, vs, n, g, b⟩ => ⟨p.keeps hk, q, r, vs, n, hk _ _ g, b.keeps hk⟩
  | .ownB a bs, ⟨p, q, r, g⟩ => ⟨p.keeps hk, q, r, hk _ _ g⟩

noncomputable def bnames : List (Str × Value) := [
  (Str.ofString "len", .builtin "len"), (Str.ofString "range", .type "range"), (Str.ofString "sum", .builtin "sum"), (Str.ofString "zip", .type "zip"),
  (Str.ofString "bytes", .type "bytes"), (Str.ofString "bytearray", .type "bytearray"), (Str.ofString "list", .type "list"), (Str.ofString "type", .type "type"),
  (Str.ofString "int", .type "int"), (Str.ofString "max", .builtin "max"), (Str.ofString "sorted", .builtin "sorted"),
  (Str.ofString "IndexError", .type "IndexError"), (Str.ofString "ValueError", .type "ValueError")]

structure Glo where
  P : Heap → Prop
  keeps : ∀ h h', P h → HK h h' → P h'
  nolimit : ∀ h, P h → h.NoLimit
  top : Str → Value → Prop
  gname : ∀ x v, top x v → ∀ h, P h → ∃ mg, h.Ns mainGlobals mg ∧ mg x = some v
  bname : ∀ x v, (x, v) ∈ bnames → ∀ h, P h → ∃ mg mb, h.Ns mainGlobals mg ∧ mg x = none ∧ h.Ns builtinsNs mb ∧ mb x = some v

structure RelE (G : Glo) (env : Env) (X : Addr → Prop) (GN : List (Str × NameKind)) (st : List (Str × Slot)) (h : Heap) : Prop where
  g : G.P h
  kd : env.scope.kind = .function
  gl : env.globals = mainGlobals
  bl : env.builtins = builtinsNs
  gn : ∀ p ∈ GN, env.kindOf p.1 = some p.2
  cn : ∀ x, (x, NameKind.cell) ∈ GN → ∃ c, env.cells.lookup x = some c
  nd : (Str.ofString "__debug__") ∉ GN.map (·.1) ∧ (Str.ofString "__debug__") ∉ st.map (·.1)
  xo : ∀ a, X a → ∃ o, h.get? a = some o
  vars : ∀ p ∈ st, SlotIs env X h p.1 p.2

theorem RelE.keeps {G : Glo} {env : Env} {X : Addr → Prop} {GN : List (Str × NameKind)} {st : List (Str × Slot)} {h h' : Heap} (r : RelE G env X GN st h) (hk : HK h h') : RelE G env X GN st h' :=
  ⟨G.keeps _ _ r.g hk, r.kd, r.gl, r.bl, r.gn, r.cn, r.nd, fun a ha => let ⟨o, e⟩ := r.xo a ha; ⟨o, hk _ _ e⟩, fun p hp => (r.vars p hp).keeps hk⟩

noncomputable def Kp (s s' : Shared) : Prop := ∃ h' tk, s' = { s with heap := h', toks := tk } ∧ HK s.heap h'
theorem Kp.refl (s : Shared) : Kp s s := ⟨s.heap, s.toks, rfl, fun _ _ e => e⟩
theorem Kp.trans {s s' s'' : Shared} (a : Kp s s') (b : Kp s' s'') : Kp s s'' := by
  obtain ⟨h1, t1, rfl, k1⟩ := a
  obtain ⟨h2, t2, rfl, k2⟩ := b
  exact ⟨h2, t2, rfl, fun b o e => k2 b o (k1 b o e)⟩
theorem Kp.hk {s s' : Shared} (a : Kp s s') : HK s.heap s'.heap := by obtain ⟨h1, t1, rfl, k1⟩ := a; exact k1
theorem Kp.toks (s : Shared) (n : Nat) : Kp s { s with toks := n } := ⟨s.heap, n, rfl, fun _ _ e => e⟩
theorem Kp.push (s : Shared) (o : Obj) (n : Nat) : Kp s { s with heap := s.heap.push o, toks := n } := ⟨_, n, rfl, fun _ _ e => Heap.get?_push_of_some o e⟩
theorem fresh_none {h : Heap} : h.get? h.objs.size = none := by
  cases e : h.get? h.objs.size with
  | none => rfl
  | some o => exact absurd (Heap.lt_size e) (Nat.lt_irrefl _)
theorem none_of_ge {h : Heap} {a : Addr} (ha : h.objs.size ≤ a) : h.get? a = none := by
  cases e : h.get? a with
  | none => rfl
  | some o => exact absurd (Heap.lt_size e) (Nat.not_lt.mpr ha)

noncomputable def Room (k : Nat) (A : Around) : Prop := A.handled = none ∧ A.depth + k < recursionLimit ∧ A.units + 8 * k + 64 < cLine

section
variable (prog : Program) (w : World)
noncomputable def Ev (G : Glo) (env : Env) (X : Addr → Prop) (GN : List (Str × NameKind)) (st : List (Str × Slot)) (A : Around) (e : Expr) (d : V) : Prop :=
  ∀ (s : Shared) (E : Value → Shared → Prop), RelE G env X GN st s.heap → wpAny (model prog w) A (eval e env) (fun v s' => Kp s s' ∧ Den X s'.heap d v) E s
noncomputable def Tst (G : Glo) (env : Env) (X : Addr → Prop) (GN : List (Str × NameKind)) (st : List (Str × Slot)) (A : Around) (e : Expr) (b : Bool) : Prop :=
  ∀ (s : Shared) (E : Value → Shared → Prop), RelE G env X GN st s.heap → wpAny (model prog w) A (isTrue e env (eval e env)) (fun v s' => Kp s s' ∧ v = b) E s
end
end Mine
end

section
open PySem PyProof.Rows
set_option Elab.async false
set_option linter.unusedVariables false
namespace Mine

section
variable {prog : Program} {w : World} {G : Glo} {env : Env} {X : Addr → Prop} {GN : List (Str × NameKind)} {st : List (Str × Slot)} {A : Around}

theorem RelE.notDebug {x : Str} {sl : Slot} {h : Heap} (r : RelE G env X GN st h) (hm : (x, sl) ∈ st) : (x == ("__debug__" : Str)) = false := by
  refine beq_eq_false_iff_ne.mpr fun e => r.nd.2 ?_
  subst e
  exact List.mem_map.mpr ⟨_, hm, rfl⟩
theorem RelE.notDebugG {x : Str} {h : Heap} (r : RelE G env X GN st h) (hm : (x, NameKind.globalImplicit) ∈ GN) : (x == ("__debug__" : Str)) = false :=
  beq_eq_false_iff_ne.mpr fun e => r.nd.1 (by subst e; exact List.mem_map.mpr ⟨_, hm, rfl⟩)

theorem var_load {x : Str} {v : Value} {sl : Slot} {s : Shared} {pos : Pos} {E : Value → Shared → Prop} {Q : Value → Shared → Prop} (r : RelE G env X GN st s.heap) (hm : (x, sl) ∈ st) (hv : VarIs env s.heap x v) (h : Q v s) :
    wpAny (model prog w) A (eval (.Name x pos) env) Q E s := by
  rcases hv with ⟨hk, m, hn, hmx⟩ | ⟨hk, c, hc, hv⟩
  · exact wpAny_Name (wpAny_loadName_local r.kd hk hn hmx h) (r.notDebug hm)
  · exact wpAny_Name (wpAny_loadName_cell r.kd hk hc hv h) (r.notDebug hm)

theorem ev_name {x : Str} {pos : Pos} {d : V} (hm : (x, Slot.val d) ∈ st) : Ev prog w G env X GN st A (.Name x pos) d := by
  intro s E r
  obtain ⟨v, hv, hd⟩ := r.vars _ hm
  exact var_load r hm hv ⟨.refl s, hd⟩

theorem global_load {x : Str} {v : Value} {s : Shared} {pos : Pos} {E : Value → Shared → Prop} {Q : Value → Shared → Prop} (r : RelE G env X GN st s.heap) (hm : (x, NameKind.globalImplicit) ∈ GN) (ht : G.top x v) (h : Q v s) :
    wpAny (model prog w) A (eval (.Name x pos) env) Q E s := by
  obtain ⟨mg, h1, h2⟩ := G.gname x v ht _ r.g
  exact Calls.Name_function_global r.kd (r.gn _ hm) (Calls.loadGlobal_global (by rw [r.gl]; exact h1) h2 h) (r.notDebugG hm)
theorem builtin_load {x : Str} {v : Value} {s : Shared} {pos : Pos} {E : Value → Shared → Prop} {Q : Value → Shared → Prop} (r : RelE G env X GN st s.heap) (hm : (x, NameKind.globalImplicit) ∈ GN) (ht : (x, v) ∈ bnames) (h : Q v s) :
    wpAny (model prog w) A (eval (.Name x pos) env) Q E s := by
  obtain ⟨mg, mb, h1, h2, h3, h4⟩ := G.bname x v ht _ r.g
  exact Calls.Name_function_global r.kd (r.gn _ hm) (Calls.loadGlobal_builtin (by rw [r.gl]; exact h1) h2 (by rw [r.bl]; exact h3) h4 h) (r.notDebugG hm)

theorem ev_tyname {x : Str} {n : String} {pos : Pos} (hm : (x, NameKind.globalImplicit) ∈ GN) (ht : (x, Value.type n) ∈ bnames) : Ev prog w G env X GN st A (.Name x pos) (.ty n) := by
  intro s E r
  exact builtin_load r hm ht ⟨.refl s, by simp only [Den]⟩

theorem ev_int {i : Int} {k : Nat} {pos : Pos} : Ev prog w G env X GN st A (.Constant (.int i) k pos) (.int i) := by
  intro s E r
  exact wpAny_Constant_int ⟨.toks s _, by simp only [Den]; exact ⟨_, rfl⟩⟩
noncomputable def Bin (prog : Program) (w : World) (A : Around) (op : Operator) (d1 d2 d : V) : Prop :=
  ∀ (X : Addr → Prop) (s : Shared) (E : Value → Shared → Prop) (v1 v2 : Value), (∀ a, X a → ∃ o, s.heap.get? a = some o) → Den X s.heap d1 v1 → Den X s.heap d2 v2 →
    wpAny (model prog w) A (binaryOp op v1 v2) (fun v s' => Kp s s' ∧ Den X s'.heap d v) E s
noncomputable def Cmp (prog : Program) (w : World) (A : Around) (op : CmpOp) (d1 d2 : V) (b : Bool) : Prop :=
  ∀ (X : Addr → Prop) (s : Shared) (E : Value → Shared → Prop) (v1 v2 : Value), Den X s.heap d1 v1 → Den X s.heap d2 v2 →
    wpAny (model prog w) A (compareOp op v1 v2) (fun v s' => Kp s s' ∧ v = .bool b) E s

theorem ev_bin {e1 e2 : Expr} {op : Operator} {pos : Pos} {d1 d2 d : V} (h1 : Ev prog w G env X GN st A e1 d1) (h2 : Ev prog w G env X GN st A e2 d2) (hb : Bin prog w A op d1 d2 d) :
    Ev prog w G env X GN st A (.BinOp e1 op e2 pos) d := by
  intro s E r
  refine wpAny_BinOp (wpAny_mono (h1 s E r) (fun v1 s1 q1 => ?_) fun _ _ e => e)
  obtain ⟨k1, D1⟩ := q1
  refine wpAny_mono (h2 s1 E (r.keeps k1.hk)) (fun v2 s2 q2 => ?_) fun _ _ e => e
  obtain ⟨k2, D2⟩ := q2
  have r2 := (r.keeps k1.hk).keeps k2.hk
  exact wpAny_mono (hb X s2 E v1 v2 r2.xo (D1.keeps k2.hk) D2) (fun v s3 q3 => ⟨(k1.trans k2).trans q3.1, q3.2⟩) fun _ _ e => e

theorem ev_cmp {e1 e2 : Expr} {op : CmpOp} {pos : Pos} {d1 d2 : V} {b : Bool} (h1 : Ev prog w G env X GN st A e1 d1) (h2 : Ev prog w G env X GN st A e2 d2) (hb : Cmp prog w A op d1 d2 b)
    (hm : behindInMarks op e2 = false := by with_unfolding_all rfl) :
    Ev prog w G env X GN st A (.Compare e1 [op] [e2] pos) (.bool b) := by
  intro s E r
  refine wpAny_Compare1 (wpAny_mono (h1 s E r) (fun v1 s1 q1 => ?_) fun _ _ e => e) hm
  obtain ⟨k1, D1⟩ := q1
  refine wpAny_mono (h2 s1 E (r.keeps k1.hk)) (fun v2 s2 q2 => ?_) fun _ _ e => e
  obtain ⟨k2, D2⟩ := q2
  exact wpAny_mono (hb X s2 E v1 v2 (D1.keeps k2.hk) D2) (fun v s3 q3 => ⟨(k1.trans k2).trans q3.1, by simp only [Den]; exact q3.2⟩) fun _ _ e => e

theorem tst_cmp {e1 e2 : Expr} {op : CmpOp} {pos : Pos} {d1 d2 : V} {b : Bool} (h1 : Ev prog w G env X GN st A e1 d1) (h2 : Ev prog w G env X GN st A e2 d2) (hb : Cmp prog w A op d1 d2 b)
    (hm : behindInMarks op e2 = false := by with_unfolding_all rfl) :
    Tst prog w G env X GN st A (.Compare e1 [op] [e2] pos) b := by
  intro s E r
  refine wpAny_isTrue_Compare1 (wpAny_mono (h1 s E r) (fun v1 s1 q1 => ?_) fun _ _ e => e) hm
  obtain ⟨k1, D1⟩ := q1
  refine wpAny_mono (h2 s1 E (r.keeps k1.hk)) (fun v2 s2 q2 => ?_) fun _ _ e => e
  obtain ⟨k2, D2⟩ := q2
  refine wpAny_mono (hb X s2 E v1 v2 (D1.keeps k2.hk) D2) (fun v s3 q3 => ?_) fun _ _ e => e
  obtain ⟨k3, rfl⟩ := q3
  exact wpAny_truthy_bool ⟨(k1.trans k2).trans k3, rfl⟩
noncomputable def Tsts (prog : Program) (w : World) (G : Glo) (env : Env) (X : Addr → Prop) (GN : List (Str × NameKind)) (st : List (Str × Slot)) (A : Around) (op : BoolOp) (es : List Expr) (b : Bool) : Prop :=
  ∀ (s : Shared) (E : Value → Shared → Prop), RelE G env X GN st s.heap → wpAny (model prog w) A (allTrue op es env) (fun v s' => Kp s s' ∧ v = b) E s

theorem tsts_and_nil : Tsts prog w G env X GN st A .And [] true := fun s E r => wpAny_pure ⟨.refl s, rfl⟩
theorem tsts_or_nil : Tsts prog w G env X GN st A .Or [] false := fun s E r => wpAny_pure ⟨.refl s, rfl⟩
theorem allTrue_cons (op : BoolOp) (x : Expr) (rest : List Expr) : allTrue op (x :: rest) env = (do
    match op, ← isTrue x env (eval x env) with
    | .And, false => pure false
    | .Or, true => pure true
    | _, _ => allTrue op rest env) := rfl
theorem tsts_and {e : Expr} {es : List Expr} {b c : Bool} (h1 : Tst prog w G env X GN st A e b) (h2 : b = true → Tsts prog w G env X GN st A .And es c) : Tsts prog w G env X GN st A .And (e :: es) (b && c) := by
  intro s E r
  rw [allTrue_cons]
  refine wpAny_bind (wpAny_mono (h1 s E r) (fun v s1 q => ?_) fun _ _ e => e)
  obtain ⟨k, rfl⟩ := q
  cases v with
  | false => exact wpAny_pure ⟨k, rfl⟩
  | true => exact wpAny_mono (h2 rfl s1 E (r.keeps k.hk)) (fun v s2 q => ⟨k.trans q.1, by simpa using q.2⟩) fun _ _ e => e
theorem tsts_or {e : Expr} {es : List Expr} {b c : Bool} (h1 : Tst prog w G env X GN st A e b) (h2 : b = false → Tsts prog w G env X GN st A .Or es c) : Tsts prog w G env X GN st A .Or (e :: es) (b || c) := by
  intro s E r
  rw [allTrue_cons]
  refine wpAny_bind (wpAny_mono (h1 s E r) (fun v s1 q => ?_) fun _ _ e => e)
  obtain ⟨k, rfl⟩ := q
  cases v with
  | true => exact wpAny_pure ⟨k, rfl⟩
  | false => exact wpAny_mono (h2 rfl s1 E (r.keeps k.hk)) (fun v s2 q => ⟨k.trans q.1, by simpa using q.2⟩) fun _ _ e => e
theorem tst_bool {op : BoolOp} {es : List Expr} {pos : Pos} {b : Bool} (h : Tsts prog w G env X GN st A op es b) : Tst prog w G env X GN st A (.BoolOp op es pos) b := fun s E r => h s E r
theorem tst_eq {e : Expr} {b c : Bool} (h : Tst prog w G env X GN st A e b) (e' : b = c) : Tst prog w G env X GN st A e c := e' ▸ h
theorem ev_eq {e : Expr} {b c : V} (h : Ev prog w G env X GN st A e b) (e' : b = c) : Ev prog w G env X GN st A e c := e' ▸ h

theorem ev_ifexp {t a b : Expr} {pos : Pos} {c : Bool} {d : V} (ht : Tst prog w G env X GN st A t c) (h1 : c = true → Ev prog w G env X GN st A a d) (h2 : c = false → Ev prog w G env X GN st A b d) :
    Ev prog w G env X GN st A (.IfExp t a b pos) d := by
  intro s E r
  show wpAny _ A (do if ← isTrue t env (eval t env) then eval a env else eval b env) _ E s
  refine wpAny_bind (wpAny_mono (ht s E r) (fun v s1 q => ?_) fun _ _ e => e)
  obtain ⟨k, rfl⟩ := q
  cases v with
  | true => exact wpAny_mono (h1 rfl s1 E (r.keeps k.hk)) (fun v s2 q => ⟨k.trans q.1, q.2⟩) fun _ _ e => e
  | false => exact wpAny_mono (h2 rfl s1 E (r.keeps k.hk)) (fun v s2 q => ⟨k.trans q.1, q.2⟩) fun _ _ e => e

noncomputable def EvL (prog : Program) (w : World) (G : Glo) (env : Env) (X : Addr → Prop) (GN : List (Str × NameKind)) (st : List (Str × Slot)) (A : Around) (es : List Expr) (ds : List V) : Prop :=
  (∀ pos, (backTo pos (starEach es env)).any (·.1) = false) ∧
  ∀ (s : Shared) (E : Value → Shared → Prop) (pos : Pos), RelE G env X GN st s.heap → wpAny (model prog w) A (spliced (backTo pos (starEach es env))) (fun vs s' => Kp s s' ∧ DenL X s'.heap ds vs) E s
theorem evl_nil : EvL prog w G env X GN st A [] [] := ⟨fun _ => rfl, fun s E pos r => spliced_none ⟨.refl s, by simp only [DenL]⟩⟩
theorem evl_cons {e : Expr} {es : List Expr} {d : V} {ds : List V} (h1 : Ev prog w G env X GN st A e d) (h2 : EvL prog w G env X GN st A es ds)
    (he : starEach (e :: es) env = (false, eval e env) :: starEach es env := by rfl) : EvL prog w G env X GN st A (e :: es) (d :: ds) := by
  refine ⟨fun pos => ?_, fun s E pos r => ?_⟩
  · rw [he]
    show (false || (backTo pos (starEach es env)).any (·.1)) = false
    rw [h2.1]; rfl
  refine spliced_more (wpAny_mono (h1 s E r) (fun v s1 q => ?_) fun _ _ e => e) he
  obtain ⟨k1, D1⟩ := q
  refine wpAny_mono (h2.2 s1 E pos (r.keeps k1.hk)) (fun vs s2 q => ?_) fun _ _ e => e
  exact ⟨k1.trans q.1, .cons (D1.keeps q.1.hk) q.2⟩

theorem evalArgs_all {M : Model} {A : Around} {E : Value → Shared → Prop} {s : Shared} {f : Value} {args : List (Bool × Sem Value)} {Q : Args → Shared → Prop} (hp : args.any (·.1) = false)
    (h : wpAny M A (spliced args) (fun vs s' => Q ⟨vs, []⟩ s') E s) : wpAny M A (evalArgs f true args []) Q E s := by
  cases args with
  | nil =>
    unfold evalArgs
    show wpAny M A (spliced [] >>= _) Q E s
    refine wpAny_bind (wpAny_mono h (fun vs s' h' => ?_) fun _ _ x => x)
    refine wpAny_holding ?_
    exact wpAny_bind (wpAny_pure (wpAny_bind (wpAny_pure (wpAny_pure h'))))
  | cons a rest =>
    obtain ⟨b, x⟩ := a
    cases b with
    | true => simp at hp
    | false => exact Calls.evalArgs_plain h

noncomputable def Fun (prog : Program) (w : World) (G : Glo) (A : Around) (f : Value) (ds : List V) (d : V) : Prop :=
  ∀ (X : Addr → Prop) (s : Shared) (E : Value → Shared → Prop) (vs : List Value), (∀ a, X a → ∃ o, s.heap.get? a = some o) → G.P s.heap → DenL X s.heap ds vs →
    wpAny (model prog w) A (call f vs) (fun r s' => Kp s s' ∧ Den X s'.heap d r) E s

theorem ev_callB {x : Str} {id : String} {p pos : Pos} {es : List Expr} {ds : List V} {d : V} (hm : (x, NameKind.globalImplicit) ∈ GN) (hb : (x, Value.builtin id) ∈ bnames) (h : EvL prog w G env X GN st A es ds) (hf : Fun prog w G A (.builtin id) ds d) :
    Ev prog w G env X GN st A (.Call (.Name x p) es [] pos) d := by
  intro s E r
  refine wpAny_Call_NameR (builtin_load r hm hb ?_)
  refine Calls.callWith_builtin (h.1 pos) (evalArgs_all (h.1 pos) ?_)
  refine wpAny_mono (h.2 s E pos r) (fun vs s1 q => ?_) fun _ _ e => e
  exact wpAny_mono (hf X s1 E vs (r.keeps q.1.hk).xo (r.keeps q.1.hk).g q.2) (fun v s2 q2 => ⟨q.1.trans q2.1, q2.2⟩) fun _ _ e => e
theorem ev_callT {x : Str} {T : String} {p pos : Pos} {es : List Expr} {ds : List V} {d : V} (hm : (x, NameKind.globalImplicit) ∈ GN) (hb : (x, Value.type T) ∈ bnames) (h : EvL prog w G env X GN st A es ds) (hf : Fun prog w G A (.type T) ds d) :
    Ev prog w G env X GN st A (.Call (.Name x p) es [] pos) d := by
  intro s E r
  refine wpAny_Call_NameR (builtin_load r hm hb ?_)
  refine PyProof.Rows.callWith_type (h.1 pos) (evalArgs_all (h.1 pos) ?_)
  refine wpAny_mono (h.2 s E pos r) (fun vs s1 q => ?_) fun _ _ e => e
  exact wpAny_mono (hf X s1 E vs (r.keeps q.1.hk).xo (r.keeps q.1.hk).g q.2) (fun v s2 q2 => ⟨q.1.trans q2.1, q2.2⟩) fun _ _ e => e
noncomputable def Def (G : Glo) (f : Addr) : Prop := ∃ o fd, o.data = .func fd ∧ ∀ h, G.P h → h.get? f = some o
theorem ev_call {x : Str} {f : Addr} {p pos : Pos} {es : List Expr} {ds : List V} {d : V} (hm : (x, NameKind.globalImplicit) ∈ GN) (hb : G.top x (.ref f)) (hd : Def G f) (h : EvL prog w G env X GN st A es ds) (hf : Fun prog w G A (.ref f) ds d) :
    Ev prog w G env X GN st A (.Call (.Name x p) es [] pos) d := by
  intro s E r
  obtain ⟨o, fd, ho, hg⟩ := hd
  refine wpAny_Call_NameR (global_load r hm hb ?_)
  refine Calls.callWith_function (o := o) (fd := fd) (evalArgs_all (h.1 pos) ?_)
  refine wpAny_mono (h.2 s E pos r) (fun vs s1 q => ?_) fun _ _ e => e
  refine ⟨⟨hg _ (r.keeps q.1.hk).g, ho⟩, ?_⟩
  exact wpAny_mono (hf X s1 E vs (r.keeps q.1.hk).xo (r.keeps q.1.hk).g q.2) (fun v s2 q2 => ⟨q.1.trans q2.1, q2.2⟩) fun _ _ e => e

theorem not_X_fresh {h : Heap} {o : Obj} (hx : ∀ a, X a → ∃ o, h.get? a = some o) : ¬ X h.objs.size := fun q => by
  obtain ⟨o, e⟩ := hx _ q
  rw [fresh_none] at e; cases e
theorem ev_list {es : List Expr} {pos : Pos} {ds : List V} (h : EvL prog w G env X GN st A es ds) (hl : ds.length ≤ sizeLine) : Ev prog w G env X GN st A (.List es pos) (.list ds) := by
  intro s E r
  refine List_ (wpAny_mono (h.2 s E pos r) (fun vs s1 q => ?_) fun _ _ e => e)
  obtain ⟨k, D⟩ := q
  have hlen := D.length
  refine wpAny_newObj_type ?_ (by show vs.toArray.size ≤ sizeLine; rw [List.size_toArray, hlen]; exact hl)
  refine ⟨k.trans (.push s1 _ _), ?_⟩
  simp only [Den]
  exact ⟨hl, _, vs, 0, rfl, not_X_fresh (o := lobj vs 0) (r.keeps k.hk).xo, Heap.get?_push_size _ rfl, D.keeps fun _ _ e => Heap.get?_push_of_some _ e⟩
theorem ev_tuple {es : List Expr} {n : Nat} {pos : Pos} {ds : List V} (h : EvL prog w G env X GN st A es ds) (hl : ds.length ≤ sizeLine) : Ev prog w G env X GN st A (.Tuple es n pos) (.tup ds) := by
  intro s E r
  refine Tuple_ (wpAny_mono (h.2 s E pos r) (fun vs s1 q => ?_) fun _ _ e => e)
  obtain ⟨k, D⟩ := q
  have hlen := D.length
  refine wpAny_newObj_type ?_ (by show vs.toArray.size ≤ sizeLine; rw [List.size_toArray, hlen]; exact hl)
  refine ⟨k.trans (.push s1 _ _), ?_⟩
  simp only [Den]
  exact ⟨hl, _, vs, 0, rfl, not_X_fresh (o := lobj vs 0) (r.keeps k.hk).xo, Heap.get?_push_size _ rfl, D.keeps fun _ _ e => Heap.get?_push_of_some _ e⟩
end
end Mine
end

section
open PySem PyProof.Rows
set_option Elab.async false
set_option linter.unusedVariables false
namespace Mine

section
variable {prog : Program} {w : World} {A : Around}

theorem den_int {X : Addr → Prop} {h : Heap} {i : Int} {t : Tok} : Den X h (.int i) (.int i t) := by simp only [Den]; exact ⟨t, rfl⟩
theorem Kp.tok (s : Shared) (n : Nat) : Kp s { s with toks := n } := .toks s n

theorem bin_addI {a b : Int} : Bin prog w A .Add (.int a) (.int b) (.int (a + b)) := by
  intro X s E v1 v2 hx h1 h2
  simp only [Den] at h1 h2
  obtain ⟨t, rfl⟩ := h1
  obtain ⟨u, rfl⟩ := h2
  exact wpAny_add_int ⟨.tok s _, den_int⟩
theorem bin_subI {a b : Int} : Bin prog w A .Sub (.int a) (.int b) (.int (a - b)) := by
  intro X s E v1 v2 hx h1 h2
  simp only [Den] at h1 h2
  obtain ⟨t, rfl⟩ := h1
  obtain ⟨u, rfl⟩ := h2
  exact PyProof.Rows.sub_int ⟨.tok s _, den_int⟩
theorem bin_mulI {a b : Int} (hm : IntMulOk a b) : Bin prog w A .Mult (.int a) (.int b) (.int (a * b)) := by
  intro X s E v1 v2 hx h1 h2
  simp only [Den] at h1 h2
  obtain ⟨t, rfl⟩ := h1
  obtain ⟨u, rfl⟩ := h2
  exact PyProof.Rows.mul_int ⟨.tok s _, den_int⟩ hm
theorem mulOk_small {a b : Int} (h : Builtin.Int.intBits a ≤ shortFactorBits) : IntMulOk a b := by
  unfold IntMulOk
  intro q
  simp only [Bool.and_eq_true, decide_eq_true_eq] at q
  omega
theorem bin_modI {a b : Int} (hb : 0 < b) : Bin prog w A .Mod (.int a) (.int b) (.int (a % b)) := by
  intro X s E v1 v2 hx h1 h2
  simp only [Den] at h1 h2
  obtain ⟨t, rfl⟩ := h1
  obtain ⟨u, rfl⟩ := h2
  refine PyProof.Rows.mod_int (by exact ar86 hb) ⟨.tok s _, ?_⟩
  rw [Int.fmod_eq_emod_of_nonneg a (by exact ar87 hb)]
  exact den_int
theorem bin_divI {a b : Int} (hb : 0 < b) (hs : b < 1000000) : Bin prog w A .FloorDiv (.int a) (.int b) (.int (a / b)) := by
  intro X s E v1 v2 hx h1 h2
  simp only [Den] at h1 h2
  obtain ⟨t, rfl⟩ := h1
  obtain ⟨u, rfl⟩ := h2
  refine PyProof.Rows.floordiv_int (by exact ar86 hb) ⟨.tok s _, ?_⟩ (Or.inl (PyProof.noPylong_small (by omega)))
  rw [Int.fdiv_eq_ediv_of_nonneg a (by exact ar87 hb)]
  exact den_int
theorem bin_addB {a b : List UInt8} (hl : (a ++ b).length ≤ sizeLine) : Bin prog w A .Add (.bytes a) (.bytes b) (.bytes (a ++ b)) := by
  intro X s E v1 v2 hx h1 h2
  simp only [Den] at h1 h2
  obtain ⟨_, t, rfl⟩ := h1
  obtain ⟨_, u, rfl⟩ := h2
  refine PySem.W.bytes_add_K (d := a ++ b) (by simp only [List.length_append, sizeLine] at hl; simp; exact ar88 hl) rfl fun t' k => ⟨.tok s _, ?_⟩
  simp only [Den]; exact ⟨hl, _, rfl⟩
theorem bin_addL {a b : List V} (hl : (a ++ b).length ≤ sizeLine) : Bin prog w A .Add (.list a) (.list b) (.list (a ++ b)) := by
  intro X s E v1 v2 hx h1 h2
  simp only [Den] at h1 h2
  obtain ⟨_, p, vs, n, rfl, hX, hg, hd⟩ := h1
  obtain ⟨_, q, us, m, rfl, hY, hk, he⟩ := h2
  have l1 := hd.length
  have l2 := he.length
  refine PySem.P.add_list hg hk ⟨.push s _ _, ?_⟩ (by simp only [List.length_append] at hl; simp; exact ar89 l1 l2 hl)
  simp only [Den]
  refine ⟨hl, _, vs ++ us, 0, rfl, not_X_fresh (o := lobj [] 0) hx, ?_, ?_⟩
  · rw [Heap.get?_push_size _ rfl]; simp [lobj]
  · exact DenL.keeps (fun _ _ e => Heap.get?_push_of_some _ e) (.append he hd)

theorem foldl_rep (v : Value) : ∀ (k : Nat) (acc : Array Value), List.foldl (fun x1 x2 => x1 ++ x2) acc (List.replicate k #[v]) = acc ++ (List.replicate k v).toArray
  | 0, acc => by simp
  | k + 1, acc => by
    rw [List.replicate_succ, List.foldl_cons, foldl_rep v k, List.replicate_succ]
    apply Array.toList_inj.mp
    simp
theorem cmp_eqI {a b : Int} : Cmp prog w A .Eq (.int a) (.int b) (a == b) := by
  intro X s E v1 v2 h1 h2
  simp only [Den] at h1 h2
  obtain ⟨t, rfl⟩ := h1
  obtain ⟨u, rfl⟩ := h2
  exact PyProof.Rows.eq_int ⟨.refl s, rfl⟩
theorem cmp_neI {a b : Int} : Cmp prog w A .NotEq (.int a) (.int b) (a != b) := by
  intro X s E v1 v2 h1 h2
  simp only [Den] at h1 h2
  obtain ⟨t, rfl⟩ := h1
  obtain ⟨u, rfl⟩ := h2
  exact PyProof.Rows.ne_int ⟨.refl s, rfl⟩
theorem cmp_gtI {a b : Int} : Cmp prog w A .Gt (.int a) (.int b) (decide (b < a)) := by
  intro X s E v1 v2 h1 h2
  simp only [Den] at h1 h2
  obtain ⟨t, rfl⟩ := h1
  obtain ⟨u, rfl⟩ := h2
  exact PyProof.Rows.gt_int ⟨.refl s, rfl⟩
theorem cmp_isNotT {a b : String} : Cmp prog w A .IsNot (.ty a) (.ty b) (a != b) := by
  intro X s E v1 v2 h1 h2
  simp only [Den] at h1 h2
  subst h1; subst h2
  show wpAny _ A (isSame (.type a) (.type b) >>= fun r => pure (Value.bool (!r))) _ E s
  refine wpAny_bind (m := isSame (.type a) (.type b)) (wpAny_of_eq (a := (Value.type a == Value.type b)) rfl (wpAny_pure ⟨.refl s, ?_⟩))
  have e : (Value.type a == Value.type b) = (a == b) := by
    by_cases h : a = b
    · subst h; simp
    · rw [beq_eq_false_iff_ne.mpr h, beq_eq_false_iff_ne.mpr (fun q => h (Value.type.inj q))]
  rw [e]; rfl

noncomputable abbrev V.ints (l : List Int) : V := .list (l.map .int)
theorem denL_ints {X : Addr → Prop} {h : Heap} : ∀ {ns : List Int} {vs : List Value}, DenL X h (ns.map .int) vs → IntsAre vs ns
  | [], vs, x => by simp only [List.map_nil, DenL] at x; subst x; exact .nil
  | n :: ns, vs, x => by
    simp only [List.map_cons, DenL, Den] at x
    obtain ⟨v, vs', rfl, ⟨t, rfl⟩, h2⟩ := x
    exact .cons n t (denL_ints h2)
theorem denL_of_ints {X : Addr → Prop} {h : Heap} : ∀ {ns : List Int} {vs : List Value}, IntsAre vs ns → DenL X h (ns.map .int) vs
  | _, _, .nil => .nil
  | _, _, .cons n t r => .cons den_int (denL_of_ints r)

variable {G : Glo}
theorem one_arg {X : Addr → Prop} {h : Heap} {d : V} {vs : List Value} (x : DenL X h [d] vs) : ∃ v, vs = [v] ∧ Den X h d v := by
  simp only [DenL] at x
  obtain ⟨v, vs', rfl, hd, rfl⟩ := x
  exact ⟨v, rfl, hd⟩
theorem two_args {X : Addr → Prop} {h : Heap} {d e : V} {vs : List Value} (x : DenL X h [d, e] vs) : ∃ v u, vs = [v, u] ∧ Den X h d v ∧ Den X h e u := by
  simp only [DenL] at x
  obtain ⟨v, vs', rfl, hd, u, us, rfl, he, rfl⟩ := x
  exact ⟨v, u, rfl, hd, he⟩
theorem fun_lenL {ds : List V} : Fun prog w G A (.builtin "len") [.list ds] (.int ds.length) := by
  intro X s E vs hx hg hd₀
  obtain ⟨v, rfl, hd⟩ := one_arg hd₀
  simp only [Den] at hd
  obtain ⟨hl, a, us, n, rfl, _, hga, hdl⟩ := hd
  have e := hdl.length
  refine PyProof.Rows.len_list (items := us.toArray) ⟨_, hga, rfl, n, rfl⟩ (by simp only [sizeLine] at hl; simp; exact ar90 e hl) ⟨.tok s _, ?_⟩
  rw [show (us.toArray.size : Int) = (ds.length : Int) from by simp [e]]
  exact den_int
theorem fun_lenB {b : List UInt8} : Fun prog w G A (.builtin "len") [.bytes b] (.int b.length) := by
  intro X s E vs hx hg hd₀
  obtain ⟨v, rfl, hd⟩ := one_arg hd₀
  simp only [Den] at hd
  obtain ⟨hl, t, rfl⟩ := hd
  refine PySem.W.len_bytes (by simp only [sizeLine] at hl; simp; exact ar91 hl) ⟨.tok s _, ?_⟩
  rw [show (b.toArray.size : Int) = (b.length : Int) from by simp]
  exact den_int
theorem fun_typeB {b : List UInt8} : Fun prog w G A (.type "type") [.bytes b] (.ty "bytes") := by
  intro X s E vs hx hg hd₀
  obtain ⟨v, rfl, hd⟩ := one_arg hd₀
  simp only [Den] at hd
  obtain ⟨hl, t, rfl⟩ := hd
  exact call_type_of (Tx := "bytes") rfl (by decide) ⟨.refl s, by simp only [Den]⟩
theorem fun_typeL {ds : List V} : Fun prog w G A (.type "type") [.list ds] (.ty "list") := by
  intro X s E vs hx hg hd₀
  obtain ⟨v, rfl, hd⟩ := one_arg hd₀
  simp only [Den] at hd
  obtain ⟨hl, a, us, n, rfl, _, hga, hdl⟩ := hd
  exact call_type_of (Tx := "list") ⟨_, hga, rfl⟩ (by decide) ⟨.refl s, by simp only [Den]⟩
theorem fun_typeI {i : Int} : Fun prog w G A (.type "type") [.int i] (.ty "int") := by
  intro X s E vs hx hg hd₀
  obtain ⟨v, rfl, hd⟩ := one_arg hd₀
  simp only [Den] at hd
  obtain ⟨t, rfl⟩ := hd
  exact call_type_of (Tx := "int") rfl (by decide) ⟨.refl s, by simp only [Den]⟩
theorem preSum_take (ns : List Int) : ∀ k, k ≤ ns.length → preSum (fun i => ns.getD i 0) k = (ns.take k).sum
  | 0, _ => by simp [preSum]
  | k + 1, h => by
    rw [preSum, preSum_take ns k (by exact ar92 h), List.take_add_one]
    rw [List.getElem?_eq_getElem (by exact ar93 h : k < ns.length), List.sum_append]
    simp [List.getD, List.getElem?_eq_getElem (by exact ar93 h : k < ns.length)]
theorem fun_sum {ns : List Int} (hh : A.handled = none) : Fun prog w G A (.builtin "sum") [.ints ns] (.int ns.sum) := by
  intro X s E vs hx hg hd₀
  obtain ⟨v, rfl, hd⟩ := one_arg hd₀
  simp only [Den] at hd
  obtain ⟨hl, a, us, n, rfl, _, hga, hdl⟩ := hd
  have hi := denL_ints hdl
  have hlen := hdl.length
  have hL : s.heap.IsList a us.toArray := ⟨_, hga, rfl, n, rfl⟩
  refine call_sum_walkG (wpAny_pyIter_list hL ?_)
  have hlt : a < s.heap.objs.size := Heap.lt_size hga
  refine ⟨_, _, _, _, _, _, fun i => ns.getD i 0, rfl, Walks.list (A := A.in1) hh _ a (Nat.ne_of_lt hlt) us.toArray, ⟨⟨_, Heap.get?_push_size _ rfl, rfl, rfl⟩, hL.push _⟩, ?_, ?_, ?_⟩
  · intro b hb
    simp only [List.mem_cons, List.not_mem_nil, or_false] at hb
    rw [Heap.size_push]
    rcases hb with rfl | rfl
    · exact Nat.lt_succ_self _
    · exact Nat.lt_succ_of_lt hlt
  · intro i v hv
    have hv' : us[i]? = some v := by simpa using hv
    obtain ⟨d, hd1, hd2⟩ := hdl.get' hv'
    rw [List.getElem?_map] at hd1
    cases hn : ns[i]? with
    | none => rw [hn] at hd1; simp at hd1
    | some k =>
      rw [hn] at hd1
      simp at hd1; subst hd1
      simp only [Den] at hd2
      obtain ⟨t, rfl⟩ := hd2
      exact ⟨t, by simp [List.getD, hn]⟩
  · intro h' tk t' hk
    have hsum : preSum (fun i => ns.getD i 0) us.toArray.size = ns.sum := by
      rw [preSum_take ns _ (by simp at hlen ⊢; exact ar94 hlen)]
      simp at hlen
      simp [hlen]
    rw [hsum]
    refine ⟨⟨h', tk, rfl, fun b o e => hk b o ?_ (Heap.get?_push_of_some _ e)⟩, den_int⟩
    simp only [List.mem_cons, List.not_mem_nil, or_false]
    exact Nat.ne_of_lt (Heap.lt_size e)
theorem fun_bytes {ns : List Int} (hh : A.handled = none) (hr : ∀ n ∈ ns, 0 ≤ n ∧ n < 256) : Fun prog w G A (.type "bytes") [.ints ns] (.bytes (ns.map fun n => n.toNat.toUInt8)) := by
  intro X s E vs hx hg hd₀
  obtain ⟨v, rfl, hd⟩ := one_arg hd₀
  simp only [Den] at hd
  obtain ⟨hl, a, us, n, rfl, _, hga, hdl⟩ := hd
  have hi := denL_ints hdl
  have hlen := hdl.length
  refine call_bytes_ints (l := a) (vs := us) ⟨_, hga, rfl, n, rfl⟩ hi hr (by rw [hlen]; exact hl) hh fun h' t k hk => ⟨⟨h', k, rfl, hk⟩, ?_⟩
  simp only [Den]
  refine ⟨by simpa using hl, t, ?_⟩
  unfold byteArr
  simp
end
end Mine
end

section
open PySem PyProof.Rows
set_option Elab.async false
set_option linter.unusedVariables false
namespace Mine

noncomputable def slc {α : Type} (lo hi : Option Int) (l : List α) : List α := (l.drop (lo.elim 0 (clipAt l.length))).take (hi.elim l.length (clipAt l.length) - lo.elim 0 (clipAt l.length))
theorem slc_len {α : Type} (lo hi : Option Int) (l : List α) : (slc lo hi l).length ≤ l.length := by
  unfold slc; rw [List.length_take, List.length_drop]; exact ar95
theorem slc_upto {α : Type} {b : Int} (h : 0 ≤ b) (l : List α) : slc none (some b) l = l.take b.toNat := by
  obtain ⟨n, rfl⟩ := Int.eq_ofNat_of_zero_le h
  unfold slc
  simp only [Option.elim, clipAt_nat, List.drop_zero, Nat.sub_zero, Int.toNat_natCast]
  rcases Nat.le_total n l.length with q | q
  · rw [Nat.min_eq_left q]
  · rw [Nat.min_eq_right q, List.take_of_length_le (Nat.le_refl _), List.take_of_length_le q]
theorem slc_from {α : Type} {a : Int} (h : 0 ≤ a) (l : List α) : slc (some a) none l = l.drop a.toNat := by
  obtain ⟨n, rfl⟩ := Int.eq_ofNat_of_zero_le h
  unfold slc
  simp only [Option.elim, clipAt_nat, Int.toNat_natCast]
  rcases Nat.le_total n l.length with q | q
  · rw [Nat.min_eq_left q, List.take_of_length_le (by rw [List.length_drop]; exact Nat.le_refl _)]
  · rw [Nat.min_eq_right q, List.drop_of_length_le (Nat.le_refl _), List.drop_of_length_le q]; simp
theorem slc_run {α : Type} {a b : Int} (h : 0 ≤ a) (h' : 0 ≤ b) (l : List α) : slc (some a) (some b) l = (l.drop a.toNat).take (b.toNat - a.toNat) := by
  obtain ⟨n, rfl⟩ := Int.eq_ofNat_of_zero_le h
  obtain ⟨m, rfl⟩ := Int.eq_ofNat_of_zero_le h'
  unfold slc
  simp only [Option.elim, clipAt_nat, Int.toNat_natCast]
  rcases Nat.le_total n l.length with q | q
  · rw [Nat.min_eq_left q]
    rcases Nat.le_total m l.length with p | p
    · rw [Nat.min_eq_left p]
    · rw [Nat.min_eq_right p, List.take_of_length_le (by rw [List.length_drop]; exact Nat.le_refl _), List.take_of_length_le (by rw [List.length_drop]; exact ar96 p)]
  · rw [Nat.min_eq_right q, List.drop_of_length_le (Nat.le_refl _), List.drop_of_length_le q]; simp
theorem slc_last {α : Type} (l : List α) : slc (some (-1)) none l = l.drop (l.length - 1) := by
  unfold slc
  simp only [Option.elim, show (-1 : Int) = -((1 : Nat) : Int) from rfl, clipAt_neg _ _ (Nat.le_refl 1)]
  rw [List.take_of_length_le (by rw [List.length_drop]; exact Nat.le_refl _)]
theorem slc_map {α β : Type} (f : α → β) (lo hi : Option Int) (l : List α) : slc lo hi (l.map f) = (slc lo hi l).map f := by
  unfold slc; rw [List.length_map, List.map_take, List.map_drop]

section
variable {prog : Program} {w : World} {G : Glo} {env : Env} {X : Addr → Prop} {GN : List (Str × NameKind)} {st : List (Str × Slot)} {A : Around}

noncomputable def EvS (prog : Program) (w : World) (G : Glo) (env : Env) (X : Addr → Prop) (GN : List (Str × NameKind)) (st : List (Str × Slot)) (A : Around) (e : Expr) (ds : List V) : Prop :=
  ∀ (s : Shared) (E : Value → Shared → Prop), RelE G env X GN st s.heap →
    wpAny (model prog w) A (eval e env) (fun v s' => Kp s s' ∧ ds.length ≤ sizeLine ∧ ∃ a vs n, v = .ref a ∧ s'.heap.get? a = some (lobj vs n) ∧ DenL X s'.heap ds vs) E s
theorem evs_of {e : Expr} {ds : List V} (h : Ev prog w G env X GN st A e (.list ds)) : EvS prog w G env X GN st A e ds := by
  intro s E r
  refine wpAny_mono (h s E r) (fun v s1 q => ?_) fun _ _ e => e
  obtain ⟨k, D⟩ := q
  simp only [Den] at D
  obtain ⟨hl, a, vs, n, e, _, hg, hd⟩ := D
  exact ⟨k, hl, a, vs, n, e, hg, hd⟩
theorem evs_own {x : Str} {pos : Pos} {a : Addr} {ds : List V} (hm : (x, Slot.own a ds) ∈ st) : EvS prog w G env X GN st A (.Name x pos) ds := by
  intro s E r
  obtain ⟨hv, _, hl, vs, n, hg, hd⟩ := r.vars _ hm
  exact var_load r hm hv ⟨.refl s, hl, a, vs, n, rfl, hg, hd⟩

theorem ev_idx {b i : Expr} {pos : Pos} {ds : List V} {k : Int} {d : V} (hb : EvS prog w G env X GN st A b ds) (hi : Ev prog w G env X GN st A i (.int k)) (h0 : 0 ≤ k) (hx : ds[k.toNat]? = some d)
    (hs : ∀ o v, subscripted i false o v = operate [o, v] (getItem o v) := by intros; rfl) : Ev prog w G env X GN st A (.Subscript b i pos) d := by
  intro s E r
  refine Subscript_ (wpAny_mono (hb s E r) (fun o s1 q => ?_) fun _ _ e => e)
  obtain ⟨k1, hl, a, vs, n, rfl, hg, hd⟩ := q
  refine wpAny_mono (hi s1 E (r.keeps k1.hk)) (fun v s2 q => ?_) fun _ _ e => e
  obtain ⟨k2, D⟩ := q
  simp only [Den] at D
  obtain ⟨t, rfl⟩ := D
  have hg2 := k2.hk _ _ hg
  have hd2 := hd.keeps k2.hk
  obtain ⟨u, hu, hD⟩ := hd2.get hx
  have hlt : k.toNat < ds.length := (List.getElem?_eq_some_iff.mp hx).1
  have hL : s2.heap.IsList a vs.toArray := ⟨_, hg2, rfl, n, rfl⟩
  refine tail_any hL.typeIs slot_list_getitem.lookup (wpAny_getItem_list hL h0 ?_ (by simpa using hu) ⟨k1.trans k2, hD⟩) (hs _ _)
  simp only [sizeLine] at hl; exact ar97 hlt hl
theorem ev_idxN {b i : Expr} {pos : Pos} {ds : List V} {k : Int} {d : V} (hb : EvS prog w G env X GN st A b ds) (hi : Ev prog w G env X GN st A i (.int k)) (h0 : k < 0) (h1 : -(ds.length : Int) ≤ k) (hx : ds[(k + ds.length).toNat]? = some d)
    (hs : ∀ o v, subscripted i false o v = operate [o, v] (getItem o v) := by intros; rfl) : Ev prog w G env X GN st A (.Subscript b i pos) d := by
  intro s E r
  refine Subscript_ (wpAny_mono (hb s E r) (fun o s1 q => ?_) fun _ _ e => e)
  obtain ⟨k1, hl, a, vs, n, rfl, hg, hd⟩ := q
  refine wpAny_mono (hi s1 E (r.keeps k1.hk)) (fun v s2 q => ?_) fun _ _ e => e
  obtain ⟨k2, D⟩ := q
  simp only [Den] at D
  obtain ⟨t, rfl⟩ := D
  have hg2 := k2.hk _ _ hg
  have hd2 := hd.keeps k2.hk
  obtain ⟨u, hu, hD⟩ := hd2.get hx
  have hlen := hd.length
  have hL : s2.heap.IsList a vs.toArray := ⟨_, hg2, rfl, n, rfl⟩
  refine tail_any hL.typeIs slot_list_getitem.lookup (wpAny_getItem_list_neg hL h0 (by simp [hlen]; exact h1) ?_ (by simp [hlen]; exact hu) ⟨k1.trans k2, hD⟩) (hs _ _)
  simp only [sizeLine] at hl; exact ar98 h1 hl
theorem ev_idxB {b i : Expr} {pos : Pos} {l : List UInt8} {k : Int} (hb : Ev prog w G env X GN st A b (.bytes l)) (hi : Ev prog w G env X GN st A i (.int k)) (h0 : 0 ≤ k) (h1 : k < l.length)
    (hs : ∀ o v, subscripted i false o v = operate [o, v] (getItem o v) := by intros; rfl) : Ev prog w G env X GN st A (.Subscript b i pos) (.int ((l.getD k.toNat 0).toNat : Int)) := by
  intro s E r
  refine Subscript_ (wpAny_mono (hb s E r) (fun o s1 q => ?_) fun _ _ e => e)
  obtain ⟨k1, D⟩ := q
  simp only [Den] at D
  obtain ⟨hl, t, rfl⟩ := D
  refine wpAny_mono (hi s1 E (r.keeps k1.hk)) (fun v s2 q => ?_) fun _ _ e => e
  obtain ⟨k2, D⟩ := q
  simp only [Den] at D
  obtain ⟨u, rfl⟩ := D
  refine tail_any (T := "bytes") rfl PySem.W.FB.slot_bytes_getitem.lookup (PySem.W.getItem_bytes (by simp only [sizeLine] at hl; exact ar91 hl) h0 h1 ⟨(k1.trans k2).trans (.tok s2 _), den_int⟩) (hs _ _)
noncomputable def EvP (prog : Program) (w : World) (G : Glo) (env : Env) (X : Addr → Prop) (GN : List (Str × NameKind)) (st : List (Str × Slot)) (A : Around) (e : Option Expr) (p : Option Int) : Prop :=
  ∀ (s : Shared) (E : Value → Shared → Prop), RelE G env X GN st s.heap → wpAny (model prog w) A (evalPart e env) (fun v s' => Kp s s' ∧ IsPart v p) E s
theorem evp_none : EvP prog w G env X GN st A none none := fun s E r => evalPart_none_step ⟨.refl s, .none⟩
theorem evp_some {e : Expr} {i : Int} (h : Ev prog w G env X GN st A e (.int i)) : EvP prog w G env X GN st A (some e) (some i) := by
  intro s E r
  refine evalPart_some_step (wpAny_mono (h s E r) (fun v s1 q => ?_) fun _ _ e => e)
  obtain ⟨k, D⟩ := q
  simp only [Den] at D
  obtain ⟨t, rfl⟩ := D
  exact ⟨k, .int i t⟩

theorem ev_slice {b : Expr} {lo hi : Option Expr} {p pos : Pos} {ds : List V} {l u : Option Int} (hb : EvS prog w G env X GN st A b ds) (hl : EvP prog w G env X GN st A lo l) (hu : EvP prog w G env X GN st A hi u) :
    Ev prog w G env X GN st A (.Subscript b (.Slice lo hi none p) pos) (.list (slc l u ds)) := by
  intro s E r
  refine Subscript_ (wpAny_mono (hb s E r) (fun o s1 q => ?_) fun _ _ e => e)
  obtain ⟨k1, hz, a, vs, n, rfl, hg, hd⟩ := q
  refine wpAny_Slice (wpAny_mono (hl s1 E (r.keeps k1.hk)) (fun v1 s2 q => ?_) fun _ _ e => e)
  obtain ⟨k2, P1⟩ := q
  refine wpAny_mono (hu s2 E ((r.keeps k1.hk).keeps k2.hk)) (fun v2 s3 q => ?_) fun _ _ e => e
  obtain ⟨k3, P2⟩ := q
  refine evalPart_none_step ?_
  have hg3 := k3.hk _ _ (k2.hk _ _ hg)
  have hd3 := (hd.keeps k2.hk).keeps k3.hk
  have hlen := hd.length
  have r3 := ((r.keeps k1.hk).keeps k2.hk).keeps k3.hk
  have hL : (s3.heap.push { cls := .type "slice", data := .fields #[v1, v2, .none] }).IsList a vs.toArray := ⟨_, Heap.get?_push_of_some _ hg3, rfl, n, rfl⟩
  refine tail_any (ops := [.ref s3.heap.objs.size, .ref a]) (Heap.IsList.typeIs (s := { s3 with heap := s3.heap.push { cls := .type "slice", data := .fields #[v1, v2, .none] } }) hL) slot_list_getitem.lookup (wpAny_getItem_list_slice hL ⟨_, Heap.get?_push_size _ rfl, rfl, rfl⟩ P1 P2 .none (by simp) ?_ (by simp [hlen]; exact hz)) rfl
  refine ⟨((k1.trans k2).trans k3).trans ((Kp.push s3 _ _).trans (Kp.push _ _ _)), ?_⟩
  simp only [Den]
  refine ⟨Nat.le_trans (slc_len _ _ _) hz, _, slc l u vs, 0, rfl, ?_, ?_, ?_⟩
  · refine not_X_fresh (o := lobj [] 0) fun a ha => ?_
    obtain ⟨o, e⟩ := r3.xo a ha
    exact ⟨o, Heap.get?_push_of_some _ e⟩
  · rw [Heap.get?_push_size _ rfl, slicePick_plain]; rfl
  · refine DenL.keeps (fun _ _ e => Heap.get?_push_of_some _ (Heap.get?_push_of_some _ e)) ?_
    unfold slc
    rw [hlen]
    exact (hd3.drop _).take _
theorem ev_rev {b : Expr} {st1 : Expr} {p pos : Pos} {ds : List V} (hb : EvS prog w G env X GN st A b ds) (hs : Ev prog w G env X GN st A st1 (.int (-1))) :
    Ev prog w G env X GN st A (.Subscript b (.Slice none none (some st1) p) pos) (.list ds.reverse) := by
  intro s E r
  refine Subscript_ (wpAny_mono (hb s E r) (fun o s1 q => ?_) fun _ _ e => e)
  obtain ⟨k1, hz, a, vs, n, rfl, hg, hd⟩ := q
  refine wpAny_Slice (evalPart_none_step (evalPart_none_step (evalPart_some_step (wpAny_mono (hs s1 E (r.keeps k1.hk)) (fun v s3 q => ?_) fun _ _ e => e))))
  obtain ⟨k3, D⟩ := q
  simp only [Den] at D
  obtain ⟨t, rfl⟩ := D
  have hg3 := k3.hk _ _ hg
  have hd3 := hd.keeps k3.hk
  have hlen := hd.length
  have r3 := (r.keeps k1.hk).keeps k3.hk
  have hL : (s3.heap.push { cls := .type "slice", data := .fields #[.none, .none, .int (-1) t] }).IsList a vs.toArray := ⟨_, Heap.get?_push_of_some _ hg3, rfl, n, rfl⟩
  refine tail_any (ops := [.ref a, .ref s3.heap.objs.size]) (Heap.IsList.typeIs (s := { s3 with heap := s3.heap.push { cls := .type "slice", data := .fields #[.none, .none, .int (-1) t] } }) hL) slot_list_getitem.lookup (wpAny_getItem_list_slice hL ⟨_, Heap.get?_push_size _ rfl, rfl, rfl⟩ .none .none (.int (-1) t) (by simp) ?_ (by simp [hlen]; exact hz)) rfl
  refine ⟨(k1.trans k3).trans ((Kp.push s3 _ _).trans (Kp.push _ _ _)), ?_⟩
  simp only [Den]
  refine ⟨by simpa using hz, _, vs.reverse, 0, rfl, ?_, ?_, ?_⟩
  · refine not_X_fresh (o := lobj [] 0) fun a ha => ?_
    obtain ⟨o, e⟩ := r3.xo a ha
    exact ⟨o, Heap.get?_push_of_some _ e⟩
  · rw [Heap.get?_push_size _ rfl, PySem.W.krv_pick]
  · exact DenL.keeps (fun _ _ e => Heap.get?_push_of_some _ (Heap.get?_push_of_some _ e)) hd3.reverse
theorem ev_sliceB {b : Expr} {lo hi : Option Expr} {p pos : Pos} {c : List UInt8} {l u : Option Int} (hb : Ev prog w G env X GN st A b (.bytes c)) (hl : EvP prog w G env X GN st A lo l) (hu : EvP prog w G env X GN st A hi u) :
    Ev prog w G env X GN st A (.Subscript b (.Slice lo hi none p) pos) (.bytes (slc l u c)) := by
  intro s E r
  refine Subscript_ (wpAny_mono (hb s E r) (fun o s1 q => ?_) fun _ _ e => e)
  obtain ⟨k1, D⟩ := q
  simp only [Den] at D
  obtain ⟨hz, t, rfl⟩ := D
  refine wpAny_Slice (wpAny_mono (hl s1 E (r.keeps k1.hk)) (fun v1 s2 q => ?_) fun _ _ e => e)
  obtain ⟨k2, P1⟩ := q
  refine wpAny_mono (hu s2 E ((r.keeps k1.hk).keeps k2.hk)) (fun v2 s3 q => ?_) fun _ _ e => e
  obtain ⟨k3, P2⟩ := q
  refine evalPart_none_step ?_
  have e : PySem.W.KBy.picked c.toArray l u = (slc l u c).toArray := by rw [PySem.W.KBc.picked_eq]; simp [slc]
  refine tail_any (T := "bytes") (ops := [.ref s3.heap.objs.size, .bytes c.toArray t]) rfl PySem.W.FB.slot_bytes_getitem.lookup
    (getItem_meets (PySem.W.typeIs_bytes _ _ _) (by decide) PySem.W.FB.slot_bytes_getitem PySem.W.FB.entry_bytes_getitem (PySem.W.FB.args_bytes_getitem_2 _ _) (PySem.W.KBc.meets_slice2 c.toArray t _ P1 P2) ?_) rfl
  refine ⟨⟨_, Heap.get?_push_size _ rfl, rfl, rfl⟩, ?_, fun t' k => ?_⟩
  · rw [e]; simp; exact Nat.le_trans (slc_len _ _ _) hz
  · rw [e]
    refine ⟨((k1.trans k2).trans k3).trans (Kp.push s3 _ _), ?_⟩
    simp only [Den]
    exact ⟨Nat.le_trans (slc_len _ _ _) hz, _, rfl⟩
end
end Mine
end

section
open PySem PyProof.Rows
set_option Elab.async false
set_option linter.unusedVariables false
namespace Mine
open PySem.W (Dat kqdP kqdPs kqdOk kqd_lay kqd_eqv kqd_any kqd_layL)

mutual
noncomputable def toDat : V → Dat
  | .none => .none
  | .bool b => .bool b
  | .int i => .int i
  | .str x => .str x
  | .bytes b => .bytes b.toArray
  | .ty _ => .none
  | .list ds => .list (toDats ds)
  | .tup ds => .tuple (toDats ds)
noncomputable def toDats : List V → List Dat
  | [] => []
  | d :: ds => toDat d :: toDats ds
end
theorem toDats_map : ∀ ds : List V, toDats ds = ds.map toDat
  | [] => rfl
  | d :: ds => by rw [toDats, toDats_map ds]; rfl

inductive Plain : V → Prop
  | int (i : Int) : Plain (.int i)
  | list {ds : List V} (h : ∀ d ∈ ds, Plain d) : Plain (.list ds)
  | tup {ds : List V} (h : ∀ d ∈ ds, Plain d) : Plain (.tup ds)

theorem reads_of {X : Addr → Prop} {h : Heap} : ∀ (n : Nat) (d : V) (v : Value), Plain d → kqdOk n (toDat d) = true → Den X h d v → ∃ as, Reads h v (kqdP (toDat d)) as := by
  have all : ∀ n, (∀ (d : V) (v : Value), Plain d → kqdOk n (toDat d) = true → Den X h d v → ∃ as, Reads h v (kqdP (toDat d)) as) →
      ∀ (ds : List V) (vs : List Value), (∀ d ∈ ds, Plain d) → (∀ d ∈ ds, kqdOk n (toDat d) = true) → DenL X h ds vs → ∃ as, ReadsAll h vs (kqdPs (toDats ds)) as := by
    intro n ih ds
    induction ds with
    | nil => intro vs _ _ hd; simp only [DenL] at hd; subst hd; exact ⟨_, ReadsAll.nil⟩
    | cons d ds hi =>
      intro vs hp hk hd
      simp only [DenL] at hd
      obtain ⟨v, vs', rfl, h1, h2⟩ := hd
      obtain ⟨as, q⟩ := ih d v (hp d (.head _)) (hk d (.head _)) h1
      obtain ⟨bs, p⟩ := hi vs' (fun e he => hp e (.tail _ he)) (fun e he => hk e (.tail _ he)) h2
      rw [toDats, kqdPs]
      exact ⟨_, ReadsAll.cons q p⟩
  intro n
  induction n with
  | zero =>
    intro d v hp hk hd
    cases hp with
    | int i => simp only [Den] at hd; obtain ⟨t, rfl⟩ := hd; exact ⟨_, Reads.int i t⟩
    | list h => simp [toDat, kqdOk] at hk
    | tup h => simp [toDat, kqdOk] at hk
  | succ n ih =>
    intro d v hp hk hd
    cases hp with
    | int i => simp only [Den] at hd; obtain ⟨t, rfl⟩ := hd; exact ⟨_, Reads.int i t⟩
    | @list ds h =>
      simp only [Den] at hd
      obtain ⟨_, a, vs, m, rfl, _, hg, hdl⟩ := hd
      simp only [toDat, kqdOk, toDats_map, List.all_map, List.all_eq_true] at hk
      obtain ⟨as, q⟩ := all n ih ds vs h (fun d hd => hk d hd) hdl
      rw [toDat, kqdP]
      exact ⟨_, reads_list_at hg rfl rfl (by simpa using q)⟩
    | @tup ds h =>
      simp only [Den] at hd
      obtain ⟨_, a, vs, m, rfl, _, hg, hdl⟩ := hd
      simp only [toDat, kqdOk, toDats_map, List.all_map, List.all_eq_true] at hk
      obtain ⟨as, q⟩ := all n ih ds vs h (fun d hd => hk d hd) hdl
      rw [toDat, kqdP]
      exact ⟨as, reads_tuple_at hg rfl rfl (by simpa using q)⟩

section
variable {prog : Program} {w : World} {A : Around}
theorem cmp_eqD {d1 d2 : V} {b : Bool} (p1 : Plain d1) (p2 : Plain d2) (k1 : kqdOk 9 (toDat d1) = true) (k2 : kqdOk 9 (toDat d2) = true) (hu : A.units + 64 < cLine) (hb : b = true ↔ toDat d1 = toDat d2) : Cmp prog w A .Eq d1 d2 b := by
  intro X s E v1 v2 h1 h2
  obtain ⟨as, r1⟩ := reads_of 9 d1 v1 p1 k1 h1
  obtain ⟨bs, r2⟩ := reads_of 9 d2 v2 p2 k2 h2
  have l1 := kqd_lay 9 _ k1
  have l2 := kqd_lay 9 _ k2
  have e : PyData.eqv (kqdP (toDat d1)) (kqdP (toDat d2)) = b := by
    have q := kqd_eqv 9 _ _ 9 k1 k2
    rw [Bool.eq_iff_iff, q, hb]
  refine eq_dataH r1 r2 ?_ ?_ hu (by rw [e]; exact ⟨.refl s, rfl⟩)
  · unfold SeqAt.shaped; rw [l1.1, Bool.true_and]; exact decide_eq_true (Nat.le_trans l1.2 (by decide))
  · unfold SeqAt.shaped; rw [l2.1, Bool.true_and]; exact decide_eq_true (Nat.le_trans l2.2 (by decide))
theorem cmp_neD {d1 d2 : V} {b : Bool} (p1 : Plain d1) (p2 : Plain d2) (k1 : kqdOk 9 (toDat d1) = true) (k2 : kqdOk 9 (toDat d2) = true) (hu : A.units + 64 < cLine) (hb : b = true ↔ toDat d1 = toDat d2) : Cmp prog w A .NotEq d1 d2 (!b) := by
  intro X s E v1 v2 h1 h2
  obtain ⟨as, r1⟩ := reads_of 9 d1 v1 p1 k1 h1
  obtain ⟨bs, r2⟩ := reads_of 9 d2 v2 p2 k2 h2
  have l1 := kqd_lay 9 _ k1
  have l2 := kqd_lay 9 _ k2
  have e : PyData.eqv (kqdP (toDat d1)) (kqdP (toDat d2)) = b := by
    have q := kqd_eqv 9 _ _ 9 k1 k2
    rw [Bool.eq_iff_iff, q, hb]
  refine ne_dataH r1 r2 ?_ ?_ hu (by rw [e]; exact ⟨.refl s, rfl⟩)
  · unfold SeqAt.shaped; rw [l1.1, Bool.true_and]; exact decide_eq_true (Nat.le_trans l1.2 (by decide))
  · unfold SeqAt.shaped; rw [l2.1, Bool.true_and]; exact decide_eq_true (Nat.le_trans l2.2 (by decide))

theorem map_inj_iff {α β : Type} {f : α → β} (hf : ∀ a b, f a = f b → a = b) : ∀ {l m : List α}, l.map f = m.map f ↔ l = m
  | [], [] => by simp
  | [], _ :: _ => by simp
  | _ :: _, [] => by simp
  | a :: l, b :: m => by
    simp only [List.map_cons, List.cons.injEq, map_inj_iff hf]
    exact ⟨fun ⟨p, q⟩ => ⟨hf _ _ p, q⟩, fun ⟨p, q⟩ => ⟨congrArg f p, q⟩⟩
theorem plain_ints (l : List Int) : Plain (.ints l) := .list fun d hd => by
  obtain ⟨i, _, rfl⟩ := List.mem_map.mp hd
  exact .int i
theorem toDat_ints (l : List Int) : toDat (.ints l) = .list (l.map .int) := by
  rw [V.ints, toDat, toDats_map, List.map_map]
  congr 1
theorem ok_ints (n : Nat) (l : List Int) : kqdOk (n + 1) (toDat (.ints l)) = true := by
  rw [toDat_ints]
  simp only [kqdOk, List.all_map, List.all_eq_true]
  intro i _
  cases n <;> rfl
noncomputable abbrev V.pair (p : Int × Int) : V := .tup [.int p.1, .int p.2]
noncomputable abbrev V.pairs (l : List (Int × Int)) : V := .list (l.map V.pair)
theorem plain_pair (p : Int × Int) : Plain (V.pair p) := .tup fun d hd => by
  simp only [List.mem_cons, List.not_mem_nil, or_false] at hd
  rcases hd with rfl | rfl <;> exact .int _
theorem toDat_pair (p : Int × Int) : toDat (V.pair p) = .tuple [.int p.1, .int p.2] := by
  simp only [toDat, toDats]
theorem ok_pair (n : Nat) (p : Int × Int) : kqdOk (n + 1) (toDat (V.pair p)) = true := by
  rw [toDat_pair]; cases n <;> rfl
theorem plain_pairs (l : List (Int × Int)) : Plain (.pairs l) := .list fun d hd => by
  obtain ⟨i, _, rfl⟩ := List.mem_map.mp hd
  exact plain_pair i
theorem toDat_pairs (l : List (Int × Int)) : toDat (.pairs l) = .list (l.map fun p => .tuple [.int p.1, .int p.2]) := by
  rw [V.pairs, toDat, toDats_map, List.map_map]
  exact congrArg Dat.list (List.map_congr_left fun p _ => toDat_pair p)
theorem ok_pairs (n : Nat) (l : List (Int × Int)) : kqdOk (n + 2) (toDat (.pairs l)) = true := by
  rw [V.pairs, toDat, toDats_map, List.map_map]
  simp only [kqdOk, List.all_map, List.all_eq_true]
  intro i _
  exact ok_pair n i
theorem cmp_eqInts {a b : List Int} (hu : A.units + 64 < cLine) : Cmp prog w A .Eq (.ints a) (.ints b) (a == b) :=
  cmp_eqD (plain_ints a) (plain_ints b) (ok_ints 8 a) (ok_ints 8 b) hu (by
    rw [toDat_ints, toDat_ints, Dat.list.injEq, map_inj_iff (fun _ _ e => Dat.int.inj e)]; simp)
theorem cmp_neInts {a b : List Int} (hu : A.units + 64 < cLine) : Cmp prog w A .NotEq (.ints a) (.ints b) (!(a == b)) :=
  cmp_neD (plain_ints a) (plain_ints b) (ok_ints 8 a) (ok_ints 8 b) hu (by
    rw [toDat_ints, toDat_ints, Dat.list.injEq, map_inj_iff (fun _ _ e => Dat.int.inj e)]; simp)
theorem cmp_nePairs {a b : List (Int × Int)} (hu : A.units + 64 < cLine) : Cmp prog w A .NotEq (.pairs a) (.pairs b) (!(a == b)) :=
  cmp_neD (plain_pairs a) (plain_pairs b) (ok_pairs 7 a) (ok_pairs 7 b) hu (by
    rw [toDat_pairs, toDat_pairs, Dat.list.injEq, map_inj_iff (fun p q e => by
      simp only [Dat.tuple.injEq, List.cons.injEq, Dat.int.injEq, and_true] at e
      exact Prod.ext e.1 e.2)]; simp)
variable {G : Glo} {env : Env} {X : Addr → Prop} {GN : List (Str × NameKind)} {st : List (Str × Slot)}
theorem any_ints (ns : List Int) (i : Int) : ((kqdPs (ns.map Dat.int)).any fun y => PyData.eqv y (kqdP (Dat.int i))) = ns.contains i := by
  induction ns with
  | nil => rfl
  | cons n ns ih =>
    simp only [kqdP] at ih
    simp only [List.map_cons, kqdPs, List.any_cons, ih, List.contains_cons, kqdP, PyData.eqv]
    congr 1
    rw [Bool.eq_iff_iff, beq_iff_eq, beq_iff_eq]
    exact ⟨fun e => e.symm, fun e => e.symm⟩
theorem tst_in {e1 e2 : Expr} {pos : Pos} {i : Int} {ns : List Int} (h1 : Ev prog w G env X GN st A e1 (.int i)) (h2 : EvS prog w G env X GN st A e2 (ns.map .int)) (hu : A.units + 64 < cLine)
    (hm : behindInMarks .In e2 = false := by with_unfolding_all rfl) : Tst prog w G env X GN st A (.Compare e1 [.In] [e2] pos) (ns.contains i) := by
  intro s E r
  refine wpAny_isTrue_Compare1 (wpAny_mono (h1 s E r) (fun v1 s1 q1 => ?_) fun _ _ e => e) hm
  obtain ⟨k1, D1⟩ := q1
  refine wpAny_mono (h2 s1 E (r.keeps k1.hk)) (fun v2 s2 q2 => ?_) fun _ _ e => e
  obtain ⟨k2, hl, a, vs, n, rfl, hg, hd⟩ := q2
  have ok := ok_ints 8 ns
  obtain ⟨as, ra⟩ := reads_of (X := fun _ => False) (h := s2.heap) 9 (.ints ns) (.ref a) (plain_ints ns) ok (by
    simp only [Den]; exact ⟨hl, a, vs, n, rfl, id, hg, hd.less (fun _ f => f.elim)⟩)
  simp only [Den] at D1
  obtain ⟨t, rfl⟩ := D1
  have l := kqd_lay 9 _ ok
  rw [toDat_ints, kqdP] at ra l
  simp only [PyData.canLay0, PyData.depth] at l
  refine SeqAt.in_list_reads ra (Reads.int i t) l.1 rfl ?_ ?_
  · have := Nat.min_le_right (PyData.depthAll (kqdPs (ns.map Dat.int))) (PyData.int i).depth
    have e : (PyData.int i).depth = 0 := by simp [PyData.depth]
    exact ar101 hu e
  · refine wpAny_truthy_bool ⟨k1.trans k2, ?_⟩
    rw [← any_ints]; rfl
theorem tst_notIn {e1 e2 : Expr} {pos : Pos} {i : Int} {ns : List Int} (h1 : Ev prog w G env X GN st A e1 (.int i)) (h2 : EvS prog w G env X GN st A e2 (ns.map .int)) (hu : A.units + 64 < cLine)
    (hm : behindInMarks .NotIn e2 = false := by with_unfolding_all rfl) : Tst prog w G env X GN st A (.Compare e1 [.NotIn] [e2] pos) (!ns.contains i) := by
  intro s E r
  refine wpAny_isTrue_Compare1 (wpAny_mono (h1 s E r) (fun v1 s1 q1 => ?_) fun _ _ e => e) hm
  obtain ⟨k1, D1⟩ := q1
  refine wpAny_mono (h2 s1 E (r.keeps k1.hk)) (fun v2 s2 q2 => ?_) fun _ _ e => e
  obtain ⟨k2, hl, a, vs, n, rfl, hg, hd⟩ := q2
  have ok := ok_ints 8 ns
  obtain ⟨as, ra⟩ := reads_of (X := fun _ => False) (h := s2.heap) 9 (.ints ns) (.ref a) (plain_ints ns) ok (by
    simp only [Den]; exact ⟨hl, a, vs, n, rfl, id, hg, hd.less (fun _ f => f.elim)⟩)
  simp only [Den] at D1
  obtain ⟨t, rfl⟩ := D1
  have l := kqd_lay 9 _ ok
  rw [toDat_ints, kqdP] at ra l
  simp only [PyData.canLay0, PyData.depth] at l
  refine SeqAt.notIn_list_reads ra (Reads.int i t) l.1 rfl ?_ ?_
  · have := Nat.min_le_right (PyData.depthAll (kqdPs (ns.map Dat.int))) (PyData.int i).depth
    have e : (PyData.int i).depth = 0 := by simp [PyData.depth]
    exact ar101 hu e
  · refine wpAny_truthy_bool ⟨k1.trans k2, ?_⟩
    rw [← any_ints]; rfl
end
end Mine
end

section
open PySem PyProof.Rows
set_option Elab.async false
set_option linter.unusedVariables false
namespace Mine

noncomputable def Hold (X : Addr → Prop) (h h' : Heap) : Prop := ∀ b o xs n, ¬ X b → h.get? b = some o → o.data = .seq xs n → h'.get? b = some o
theorem Hold.of_hk {X : Addr → Prop} {h h' : Heap} (k : HK h h') : Hold X h h' := fun b o _ _ _ e _ => k b o e
mutual
theorem Den.hold {X : Addr → Prop} {h h' : Heap} (hk : Hold X h h') : ∀ (d : V) (v : Value), Den X h d v → Den X h' d v
  | .none, v => by simp only [Den]; exact id
  | .bool b, v => by simp only [Den]; exact id
  | .int i, v => by simp only [Den]; exact id
  | .str x, v => by simp only [Den]; exact id
  | .bytes b, v => by simp only [Den]; exact id
  | .ty n, v => by simp only [Den]; exact id
  | .list ds, v => by
    simp only [Den]
    rintro ⟨hl, a, vs, n, e, hX, hg, hd⟩
    exact ⟨hl, a, vs, n, e, hX, hk a _ _ _ hX hg rfl, DenL.hold hk ds vs hd⟩
  | .tup ds, v => by
    simp only [Den]
    rintro ⟨hl, a, vs, n, e, hX, hg, hd⟩
    exact ⟨hl, a, vs, n, e, hX, hk a _ _ _ hX hg rfl, DenL.hold hk ds vs hd⟩
theorem DenL.hold {X : Addr → Prop} {h h' : Heap} (hk : Hold X h h') : ∀ (ds : List V) (vs : List Value), DenL X h ds vs → DenL X h' ds vs
  | [], vs => by simp only [DenL]; exact id
  | d :: ds, vs => by
    simp only [DenL]
    rintro ⟨v, vs', e, h1, h2⟩
    exact ⟨v, vs', e, Den.hold hk d v h1, DenL.hold hk ds vs' h2⟩
end

noncomputable def BindAll (M : Model) (A : Around) (env : Env) : List Str → List Value → (Unit → Shared → Prop) → (Value → Shared → Prop) → Shared → Prop
  | [], _, Q, E, s => Q () s
  | _ :: _, [], Q, E, s => Q () s
  | x :: xs, v :: vs, Q, E, s => wpAny M A (storeName env x v) (fun _ s' => BindAll M A env xs vs Q E s') E s

inductive Tgt : Expr → List Str → Prop
  | name (x : Str) (p : Pos) : Tgt (.Name x p) [x]
  | two (x y : Str) (p q : Pos) (k : Nat) (r : Pos) : Tgt (.Tuple [.Name x p, .Name y q] k r) [x, y]
  | three (x y z : Str) (p q t : Pos) (k : Nat) (r : Pos) : Tgt (.Tuple [.Name x p, .Name y q, .Name z t] k r) [x, y, z]

section
variable {prog : Program} {w : World} {A : Around} {E : Value → Shared → Prop} {s : Shared} {env : Env}
theorem bind_two {x y : Str} {p q : Pos} {vs : List Value} {Q : Unit → Shared → Prop} (hl : vs.length = 2) (h : BindAll (model prog w) A env [x, y] vs Q E s) :
    wpAny (model prog w) A (assignInOrder ((assignEach [.Name x p, .Name y q] env).map (·.2)) vs) Q E s := by
  obtain ⟨v, u, rfl⟩ := len2 hl
  show wpAny _ A (do holding [u] (assign (.Name x p) env v); assignInOrder [assign (.Name y q) env] [u]) Q E s
  refine wpAny_bind (wpAny_holding (wpAny_assign_Name (wpAny_mono h (fun _ s1 h1 => ?_) fun _ _ e => e)))
  show wpAny _ A (do holding [] (assign (.Name y q) env u); assignInOrder [] []) Q E s1
  exact wpAny_bind (wpAny_holding (wpAny_assign_Name (wpAny_mono h1 (fun _ s2 h2 => wpAny_pure h2) fun _ _ e => e)))
theorem bind_three {x y z : Str} {p q t : Pos} {vs : List Value} {Q : Unit → Shared → Prop} (hl : vs.length = 3) (h : BindAll (model prog w) A env [x, y, z] vs Q E s) :
    wpAny (model prog w) A (assignInOrder ((assignEach [.Name x p, .Name y q, .Name z t] env).map (·.2)) vs) Q E s := by
  obtain ⟨v, u, r, rfl⟩ := len3 hl
  show wpAny _ A (do holding [u, r] (assign (.Name x p) env v); assignInOrder [assign (.Name y q) env, assign (.Name z t) env] [u, r]) Q E s
  refine wpAny_bind (wpAny_holding (wpAny_assign_Name (wpAny_mono h (fun _ s1 h1 => ?_) fun _ _ e => e)))
  show wpAny _ A (do holding [r] (assign (.Name y q) env u); assignInOrder [assign (.Name z t) env] [r]) Q E s1
  refine wpAny_bind (wpAny_holding (wpAny_assign_Name (wpAny_mono h1 (fun _ s2 h2 => ?_) fun _ _ e => e)))
  show wpAny _ A (do holding [] (assign (.Name z t) env r); assignInOrder [] []) Q E s2
  exact wpAny_bind (wpAny_holding (wpAny_assign_Name (wpAny_mono h2 (fun _ s3 h3 => wpAny_pure h3) fun _ _ e => e)))
theorem bind_tuple {elts : List Expr} {k : Nat} {pos : Pos} {xs : List Str} {T : Addr} {vs : List Value} {Q : Unit → Shared → Prop} (hh : A.handled = none) (ht : Tgt (.Tuple elts k pos) xs) (hT : s.heap.IsTuple T vs.toArray) (hl : vs.length = xs.length)
    (h : ∀ h', HK s.heap h' → BindAll (model prog w) A env xs vs Q E { s with heap := h' }) : wpAny (model prog w) A (assign (.Tuple elts k pos) env (.ref T)) Q E s := by
  have go : ∀ h', Heap.ExtBut s.heap.objs.size s.heap h' → HK s.heap h' := fun h' e b o x => e b o (Nat.ne_of_lt (Heap.lt_size x)) x
  cases ht with
  | two x y p q k r => exact wpAny_assign_Tuple hh hT (by simp at hl; simp [hl, assignEach]) rfl fun h' e => bind_two (by simpa using hl) (h h' (go h' e))
  | three x y z p q t k r => exact wpAny_assign_Tuple hh hT (by simp at hl; simp [hl, assignEach]) rfl fun h' e => bind_three (by simpa using hl) (h h' (go h' e))
end

structure Wk (prog : Program) (w : World) (A : Around) (X : Addr → Prop) (h₁ : Heap) (I : Addr) (tgt : Expr) (xs : List Str) (items : List (List V)) (fp wr : List Addr) (St : Nat → Heap → Prop) : Prop where
  sub : ∀ b ∈ wr, b ∈ fp
  frame : ∀ i h h', St i h → (∀ b ∈ fp, ∀ o, h.get? b = some o → h'.get? b = some o) → St i h'
  fresh : ∀ b ∈ wr, h₁.get? b = none
  alive : ∀ i h, St i h → ∀ b ∈ wr, ∃ o, h.get? b = some o
  foot : ∀ b ∈ fp, h₁.get? b = none ∨ (¬ X b ∧ ∃ o xs n, h₁.get? b = some o ∧ o.data = .seq xs n)
  self : ∀ i (s : Shared) (Q : Value → Shared → Prop) (E : Value → Shared → Prop), St i s.heap → Q (.ref I) s → wpAny (model prog w) A (pyIter (.ref I)) Q E s
  item : ∀ i ds (s : Shared) (env : Env) (Q : Unit → Shared → Prop) (E : Value → Shared → Prop), items[i]? = some ds → St i s.heap → Hold X h₁ s.heap →
    (∀ vals h' tk, DenL X h₁ ds vals → ds.length = xs.length → St (i + 1) h' → (∀ b o, b ∉ wr → s.heap.get? b = some o → h'.get? b = some o) → BindAll (model prog w) A env xs vals Q E { s with heap := h', toks := tk }) →
    wpAny (model prog w) A (pyNext (.ref I)) (fun r s₁ => match r with
      | none => False
      | some v => wpAny (model prog w) A (letOwnedTupleGo tgt (.ref I) v) (fun _ s₂ => wpAny (model prog w) A (assign tgt env v) Q E s₂) E s₁) E s
  done : ∀ (s : Shared) (Q : Option Value → Shared → Prop) (E : Value → Shared → Prop), St items.length s.heap →
    (∀ h' tk, (∀ b o, b ∉ wr → s.heap.get? b = some o → h'.get? b = some o) → Q none { s with heap := h', toks := tk }) → wpAny (model prog w) A (pyNext (.ref I)) Q E s

noncomputable def EvW (prog : Program) (w : World) (G : Glo) (env : Env) (X : Addr → Prop) (GN : List (Str × NameKind)) (st : List (Str × Slot)) (A : Around) (iter tgt : Expr) (xs : List Str) (items : List (List V)) : Prop :=
  ∀ (s : Shared) (E : Value → Shared → Prop), RelE G env X GN st s.heap →
    wpAny (model prog w) A (eval iter env) (fun x s₁ => Kp s s₁ ∧ ∃ h₁, HK s.heap h₁ ∧ HK h₁ s₁.heap ∧ ∀ (E' : Value → Shared → Prop) (Q : Value → Shared → Prop),
      (∀ I fp wr St s₂, Wk prog w A X h₁ I tgt xs items fp wr St → St 0 s₂.heap → (∀ b ∈ fp, b < s₂.heap.objs.size) → Kp s₁ s₂ → Q (.ref I) s₂) → wpAny (model prog w) A (pyIter x) Q E' s₁) E s

section
variable {prog : Program} {w : World} {G : Glo} {env : Env} {X : Addr → Prop} {GN : List (Str × NameKind)} {st : List (Str × Slot)} {A : Around}

theorem wk_name {h₁ : Heap} {I : Addr} {x : Str} {p : Pos} {ds : List V} {fp wr : List Addr} {P : Nat → Value → Prop} {St : Nat → Heap → Prop} (W : Walks prog w A I fp wr ds.length P St) (hf : ∀ b ∈ wr, h₁.get? b = none)
    (ho : ∀ b ∈ fp, h₁.get? b = none ∨ (¬ X b ∧ ∃ o xs n, h₁.get? b = some o ∧ o.data = .seq xs n)) (hP : ∀ i v, P i v → i < ds.length → ∃ d, ds[i]? = some d ∧ Den X h₁ d v) (ha : ∀ i h, St i h → ∀ b ∈ wr, ∃ o, h.get? b = some o) : Wk prog w A X h₁ I (.Name x p) [x] (ds.map fun d => [d]) fp wr St where
  sub := W.sub
  frame := W.frame
  fresh := hf
  alive := ha
  foot := ho
  self := W.self
  item := fun i es s env Q E hi st hH h => by
    rw [List.getElem?_map] at hi
    cases hd : ds[i]? with
    | none => rw [hd] at hi; simp at hi
    | some d =>
      rw [hd] at hi
      simp at hi
      subst hi
      have hlt : i < ds.length := (List.getElem?_eq_some_iff.mp hd).1
      refine W.item i s _ E hlt st fun v h' tk hv st' hk => ?_
      obtain ⟨d', e, D⟩ := hP i v hv hlt
      rw [hd] at e; cases e
      refine wpAny_of_eq (a := ()) rfl (wpAny_assign_Name ?_)
      exact h [v] h' tk (.cons D .nil) rfl st' hk
  done := fun s Q E st h => W.done s Q E (by simpa using st) h

theorem evw_list {e : Expr} {x : Str} {p : Pos} {ds : List V} (hh : A.handled = none) (h : Ev prog w G env X GN st A e (.list ds)) : EvW prog w G env X GN st A e (.Name x p) [x] (ds.map fun d => [d]) := by
  intro s E r
  refine wpAny_mono (h s E r) (fun v s1 q => ?_) fun _ _ e => e
  obtain ⟨k, D⟩ := q
  simp only [Den] at D
  obtain ⟨hl, a, vs, n, rfl, hX, hg, hd⟩ := D
  refine ⟨k, s1.heap, k.hk, fun _ _ e => e, fun E' Q hQ => ?_⟩
  have hL : s1.heap.IsList a vs.toArray := ⟨_, hg, rfl, n, rfl⟩
  have hlt := Heap.lt_size hg
  have hlen := hd.length
  refine wpAny_pyIter_list hL ?_
  have W : Walks prog w A s1.heap.objs.size [s1.heap.objs.size, a] [s1.heap.objs.size] ds.length (fun i v => vs.toArray[i]? = some v) (fun i h => h.IsListIter s1.heap.objs.size a i ∧ h.IsList a vs.toArray) := by
    have W := Walks.list (prog := prog) (w := w) hh s1.heap.objs.size a (Nat.ne_of_lt hlt) vs.toArray
    rw [show vs.toArray.size = ds.length from by simp [hlen]] at W
    exact W
  refine hQ _ _ _ _ _ (wk_name W ?_ ?_ ?_ (fun i h hst b hb => by rw [List.mem_singleton.mp hb]; obtain ⟨o, e, _⟩ := hst.1; exact ⟨o, e⟩)) ⟨⟨_, Heap.get?_push_size _ rfl, rfl, rfl⟩, hL.push _⟩ ?_ (.push s1 _ _)
  · intro b hb; rw [List.mem_singleton.mp hb]; exact fresh_none
  · intro b hb
    simp only [List.mem_cons, List.not_mem_nil, or_false] at hb
    rcases hb with rfl | rfl
    · exact .inl fresh_none
    · exact .inr ⟨hX, _, _, _, hg, rfl⟩
  · intro i v hv _
    exact hd.get' (by simpa using hv)
  · intro b hb
    simp only [List.mem_cons, List.not_mem_nil, or_false] at hb
    rw [Heap.size_push]
    rcases hb with rfl | rfl
    · exact Nat.lt_succ_self _
    · exact Nat.lt_succ_of_lt hlt
noncomputable def rng (a b c : Int) : List Int := (List.range (Builtin.Range.rangeSize a b c).toNat).map fun (i : Nat) => a + (i : Int) * c
theorem wk_range {s1 : Shared} {x : Str} {p : Pos} {a b c : Int} {t u v : Tok} {R : Addr} {Q : Value → Shared → Prop} {E' : Value → Shared → Prop} (hh : A.handled = none) (hR : IsRange s1.heap R a b c t u v) (hs : Builtin.Range.small a b c = true)
    (hQ : ∀ I fp wr St s₂, Wk prog w A X s1.heap I (.Name x p) [x] ((rng a b c).map fun i => [V.int i]) fp wr St → St 0 s₂.heap → (∀ b ∈ fp, b < s₂.heap.objs.size) → Kp s1 s₂ → Q (.ref I) s₂) : wpAny (model prog w) A (pyIter (.ref R)) Q E' s1 := by
  refine wpAny_pyIter_range hR hs ?_
  have e := rangeSize_toNat a b c
  generalize hn : (Builtin.Range.rangeSize a b c).toNat = n at e
  have hlen : ((rng a b c).map V.int).length = n := by simp [rng, hn]
  have W : Walks prog w A s1.heap.objs.size [s1.heap.objs.size] [s1.heap.objs.size] ((rng a b c).map V.int).length (fun i v => ∃ t, v = .int (a + i * c) t) (fun i h => IsRangeIter h s1.heap.objs.size (a + (i : Nat) * c) ((n : Int) - (i : Nat)) c) := by
    rw [hlen]
    exact Walks.range (prog := prog) (w := w) hh s1.heap.objs.size a c n
  have Wk1 := wk_name (X := X) (h₁ := s1.heap) (x := x) (p := p) W (fun b hb => by rw [List.mem_singleton.mp hb]; exact fresh_none) (fun b hb => by rw [List.mem_singleton.mp hb]; exact .inl fresh_none) (by
    rintro i v ⟨t, rfl⟩ hi
    refine ⟨.int (a + (i : Int) * c), ?_, den_int⟩
    rw [hlen] at hi
    rw [List.getElem?_map, rng, List.getElem?_map, hn, List.getElem?_range hi]
    rfl) (fun i h hst b hb => by rw [List.mem_singleton.mp hb]; exact ⟨_, hst⟩)
  rw [List.map_map] at Wk1
  refine hQ _ _ _ _ _ Wk1 ?_ ?_ (.push s1 _ _)
  · show IsRangeIter _ _ _ _ _
    rw [e]
    simpa using Heap.get?_push_size _ rfl
  · intro b hb; rw [List.mem_singleton.mp hb, Heap.size_push]; exact Nat.lt_succ_self _

theorem evw_range1 {f : Str} {pf pos : Pos} {e : Expr} {x : Str} {p : Pos} {b : Int} (hh : A.handled = none) (hm : (Str.ofString "range", NameKind.globalImplicit) ∈ GN) (hf : f = Str.ofString "range") (h : EvL prog w G env X GN st A [e] [.int b]) (hs : Builtin.Range.small 0 b 1 = true) :
    EvW prog w G env X GN st A (.Call (.Name f pf) [e] [] pos) (.Name x p) [x] ((rng 0 b 1).map fun i => [V.int i]) := by
  subst hf
  intro s E r
  refine wpAny_Call_NameR (builtin_load r hm (v := .type "range") (by simp [bnames]) ?_)
  refine PyProof.Rows.callWith_type (h.1 pos) (evalArgs_all (h.1 pos) ?_)
  refine wpAny_mono (h.2 s E pos r) (fun vs s1 q => ?_) fun _ _ e => e
  obtain ⟨k, D₀⟩ := q
  obtain ⟨v, rfl, D⟩ := one_arg D₀
  simp only [Den] at D
  obtain ⟨t, rfl⟩ := D
  refine call_range_1 ⟨k.trans (.push s1 _ _), _, (k.trans (.push s1 _ _)).hk, fun _ _ e => e, fun E' Q hQ => ?_⟩
  exact wk_range hh (IsRange.new ..) hs hQ
theorem evw_range2 {f : Str} {pf pos : Pos} {e1 e2 : Expr} {x : Str} {p : Pos} {a b : Int} (hh : A.handled = none) (hm : (Str.ofString "range", NameKind.globalImplicit) ∈ GN) (hf : f = Str.ofString "range") (h : EvL prog w G env X GN st A [e1, e2] [.int a, .int b]) (hs : Builtin.Range.small a b 1 = true) :
    EvW prog w G env X GN st A (.Call (.Name f pf) [e1, e2] [] pos) (.Name x p) [x] ((rng a b 1).map fun i => [V.int i]) := by
  subst hf
  intro s E r
  refine wpAny_Call_NameR (builtin_load r hm (v := .type "range") (by simp [bnames]) ?_)
  refine PyProof.Rows.callWith_type (h.1 pos) (evalArgs_all (h.1 pos) ?_)
  refine wpAny_mono (h.2 s E pos r) (fun vs s1 q => ?_) fun _ _ e => e
  obtain ⟨k, D⟩ := q
  obtain ⟨v, u, rfl, D1, D2⟩ := two_args D
  simp only [Den] at D1 D2
  obtain ⟨t, rfl⟩ := D1
  obtain ⟨t', rfl⟩ := D2
  refine call_range_2 ⟨k.trans (.push s1 _ _), _, (k.trans (.push s1 _ _)).hk, fun _ _ e => e, fun E' Q hQ => ?_⟩
  exact wk_range hh (IsRange.new ..) hs hQ
theorem evw_range3 {f : Str} {pf pos : Pos} {e1 e2 e3 : Expr} {x : Str} {p : Pos} {a b c : Int} (hh : A.handled = none) (hm : (Str.ofString "range", NameKind.globalImplicit) ∈ GN) (hf : f = Str.ofString "range") (h : EvL prog w G env X GN st A [e1, e2, e3] [.int a, .int b, .int c]) (hc : c ≠ 0) (hc1 : c.natAbs < 1000000000) (hs : Builtin.Range.small a b c = true) :
    EvW prog w G env X GN st A (.Call (.Name f pf) [e1, e2, e3] [] pos) (.Name x p) [x] ((rng a b c).map fun i => [V.int i]) := by
  subst hf
  intro s E r
  refine wpAny_Call_NameR (builtin_load r hm (v := .type "range") (by simp [bnames]) ?_)
  refine PyProof.Rows.callWith_type (h.1 pos) (evalArgs_all (h.1 pos) ?_)
  refine wpAny_mono (h.2 s E pos r) (fun vs s1 q => ?_) fun _ _ e => e
  obtain ⟨k, D⟩ := q
  simp only [DenL, Den] at D
  obtain ⟨v1, _, rfl, ⟨t1, rfl⟩, v2, _, rfl, ⟨t2, rfl⟩, v3, _, rfl, ⟨t3, rfl⟩, rfl⟩ := D
  refine call_range_3 hc ⟨k.trans (.push s1 _ _), _, (k.trans (.push s1 _ _)).hk, fun _ _ e => e, fun E' Q hQ => ?_⟩ (Or.inl (PyProof.noPylong_small (by exact ar102 hc1)))
  exact wk_range hh (IsRange.new ..) hs hQ
end
end Mine
end

section
open PySem PyProof.Rows
set_option Elab.async false
set_option linter.unusedVariables false
namespace Mine
section
variable {prog : Program} {w : World} {G : Glo} {env : Env} {X : Addr → Prop} {GN : List (Str × NameKind)} {st : List (Str × Slot)} {A : Around}

theorem evw_tuples {e : Expr} {elts : List Expr} {k : Nat} {pos : Pos} {xs : List Str} {rows : List (List V)} (hh : A.handled = none) (ht : Tgt (.Tuple elts k pos) xs) (hr : ∀ r ∈ rows, r.length = xs.length) (h : Ev prog w G env X GN st A e (.list (rows.map .tup))) :
    EvW prog w G env X GN st A e (.Tuple elts k pos) xs rows := by
  intro s E r
  refine wpAny_mono (h s E r) (fun v s1 q => ?_) fun _ _ e => e
  obtain ⟨kk, D⟩ := q
  simp only [Den] at D
  obtain ⟨hl, a, vs, n, rfl, hX, hg, hd⟩ := D
  refine ⟨kk, s1.heap, kk.hk, fun _ _ e => e, fun E' Q hQ => ?_⟩
  have hL : s1.heap.IsList a vs.toArray := ⟨_, hg, rfl, n, rfl⟩
  have hlt := Heap.lt_size hg
  have hlen := hd.length
  rw [List.length_map] at hlen
  refine wpAny_pyIter_list hL ?_
  have W := Walks.list (prog := prog) (w := w) hh s1.heap.objs.size a (Nat.ne_of_lt hlt) vs.toArray
  have Wk1 : Wk prog w A X s1.heap s1.heap.objs.size (.Tuple elts k pos) xs rows [s1.heap.objs.size, a] [s1.heap.objs.size] (fun i h => h.IsListIter s1.heap.objs.size a i ∧ h.IsList a vs.toArray) := {
    sub := W.sub
    frame := W.frame
    fresh := fun b hb => by rw [List.mem_singleton.mp hb]; exact fresh_none
    alive := fun i h hst b hb => by rw [List.mem_singleton.mp hb]; obtain ⟨o, e, _⟩ := hst.1; exact ⟨o, e⟩
    foot := fun b hb => by
      simp only [List.mem_cons, List.not_mem_nil, or_false] at hb
      rcases hb with rfl | rfl
      · exact .inl fresh_none
      · exact .inr ⟨hX, _, _, _, hg, rfl⟩
    self := W.self
    item := fun i ds s env Q E hi st hH h => by
      have hlt : i < rows.length := (List.getElem?_eq_some_iff.mp hi).1
      obtain ⟨v, hv, hD⟩ := hd.get (k := i) (d := .tup ds) (by rw [List.getElem?_map, hi]; rfl)
      refine wpAny_pyNext_list_item st.1 st.2 (x := v) (by simpa using hv) fun h' hit' hs' => ?_
      simp only [Den] at hD
      obtain ⟨_, T, us, m, rfl, hXT, hgT, hdT⟩ := hD
      refine wpAny_letOwnedTupleGo_listiter hit' ?_
      have hgT' : h'.get? T = some (tobj us m) := hs'.extBut _ _ (Nat.ne_of_lt (Heap.lt_size hgT)) (hH _ _ _ _ hXT hgT rfl)
      have hlT := hdT.length
      have hrl := hr ds (List.mem_of_getElem? hi)
      refine bind_tuple hh ht ⟨_, hgT', rfl, m, rfl⟩ (by rw [hlT, hrl]) fun h'' hk'' => ?_
      refine h us h'' s.toks hdT hrl ⟨hit'.at fun o e => hk'' _ o e, (st.2.extBut hs'.extBut (Nat.ne_of_lt (Heap.lt_size hg))).at fun o e => hk'' _ o e⟩ fun b o hb e => hk'' b o (hs'.extBut b o (fun q => hb (by simp [q])) e)
    done := fun s Q E st h => W.done s Q E (by rw [show vs.toArray.size = rows.length from by simp [hlen]]; exact st) h }
  refine hQ _ _ _ _ _ Wk1 ⟨⟨_, Heap.get?_push_size _ rfl, rfl, rfl⟩, hL.push _⟩ ?_ (.push s1 _ _)
  intro b hb
  simp only [List.mem_cons, List.not_mem_nil, or_false] at hb
  rw [Heap.size_push]
  rcases hb with rfl | rfl
  · exact Nat.lt_succ_self _
  · exact Nat.lt_succ_of_lt hlt

theorem evw_zip {f : Str} {pf pos : Pos} {e1 e2 : Expr} {elts : List Expr} {k : Nat} {tp : Pos} {x y : Str} {as bs : List V} (hh : A.handled = none) (hm : (Str.ofString "zip", NameKind.globalImplicit) ∈ GN) (hf : f = Str.ofString "zip") (ht : Tgt (.Tuple elts k tp) [x, y])
    (h : EvL prog w G env X GN st A [e1, e2] [.list as, .list bs]) :
    EvW prog w G env X GN st A (.Call (.Name f pf) [e1, e2] [] pos) (.Tuple elts k tp) [x, y] ((as.zip bs).map fun p => [p.1, p.2]) := by
  subst hf
  intro s E r
  refine wpAny_Call_NameR (builtin_load r hm (v := .type "zip") (by simp [bnames]) ?_)
  refine PyProof.Rows.callWith_type (h.1 pos) (evalArgs_all (h.1 pos) ?_)
  refine wpAny_mono (h.2 s E pos r) (fun vs s1 q => ?_) fun _ _ e => e
  obtain ⟨kk, D⟩ := q
  obtain ⟨v, u, rfl, D1, D2⟩ := two_args D
  simp only [Den] at D1 D2
  obtain ⟨z1, l1, vs, n1, rfl, X1, g1, d1⟩ := D1
  obtain ⟨z2, l2, us, n2, rfl, X2, g2, d2⟩ := D2
  have hL1 : s1.heap.IsList l1 vs.toArray := ⟨_, g1, rfl, n1, rfl⟩
  have hL2 : s1.heap.IsList l2 us.toArray := ⟨_, g2, rfl, n2, rfl⟩
  have t1 := Heap.lt_size g1
  have t2 := Heap.lt_size g2
  have len1 := d1.length
  have len2 := d2.length
  refine call_zip_2 hL1 hL2 fun h' hz hTI hTO i1 i2 hsz hk => ?_
  have K : Kp s1 { s1 with heap := h' } := ⟨h', s1.toks, rfl, hk⟩
  refine ⟨kk.trans K, s1.heap, kk.hk, hk, fun E' Q hQ => wpAny_pyIter_zip hz ?_⟩
  have L1 : h'.IsList l1 vs.toArray := hL1.at fun o e => hk _ o e
  have L2 : h'.IsList l2 us.toArray := hL2.at fun o e => hk _ o e
  generalize hN : s1.heap.objs.size = N at *
  have t1' : @LT.lt Nat _ l1 N := t1
  have t2' : @LT.lt Nat _ l2 N := t2
  have D : ZipApart (N + 4) (N + 2) (N + 3) N (N + 1) l1 l2 := by
    constructor <;> (refine PySem.W.neN ?_; (first | exact ar103 | exact ar104 | exact ar105 | exact ar106 | exact ar107 | exact ar108 | exact ar109 | exact ar110 | exact ar111 | exact ar112 | exact ar113 t1' | exact ar114 t1' | exact ar115 t1' | exact ar116 t1' | exact ar113 t2' | exact ar114 t2' | exact ar115 t2' | exact ar116 t2'))
  have W := WalksT.zip2 (prog := prog) (w := w) hh (N + 4) (N + 2) (N + 3) N (N + 1) l1 l2 D vs.toArray us.toArray
  have old : ∀ b, N ≤ b → s1.heap.get? b = none := fun b hb => none_of_ge (by rw [hN]; exact hb)
  have hlen : min vs.toArray.size us.toArray.size = ((as.zip bs).map fun p => [p.1, p.2]).length := by
    simp [len1, len2]
  have Wk1 : Wk prog w A X s1.heap (N + 4) (.Tuple elts k tp) [x, y] ((as.zip bs).map fun p => [p.1, p.2]) [N + 4, N + 2, N + 3, N, N + 1, l1, l2] [N + 4, N + 3, N, N + 1]
      (fun i h => IsZip h (N + 4) (N + 2) (N + 3) .none ∧ IsPair h (N + 2) (.ref N) (.ref (N + 1)) ∧ (∃ a b, IsPair h (N + 3) a b) ∧ h.IsListIter N l1 i ∧ h.IsListIter (N + 1) l2 i ∧ h.IsList l1 vs.toArray ∧ h.IsList l2 us.toArray) := {
    sub := W.sub
    frame := W.frame
    fresh := fun b hb => by
      simp only [List.mem_cons, List.not_mem_nil, or_false] at hb
      rcases hb with rfl | rfl | rfl | rfl
      · exact old _ (Nat.le_add_right _ _)
      · exact old _ (Nat.le_add_right _ _)
      · exact old _ (Nat.le_refl _)
      · exact old _ (Nat.le_add_right _ _)
    alive := fun i h hst b hb => by
      simp only [List.mem_cons, List.not_mem_nil, or_false] at hb
      obtain ⟨a1, a2, ⟨_, _, a3⟩, ⟨o4, a4, _⟩, ⟨o5, a5, _⟩, _, _⟩ := hst
      rcases hb with rfl | rfl | rfl | rfl
      · exact ⟨_, a1⟩
      · exact ⟨_, a3⟩
      · exact ⟨_, a4⟩
      · exact ⟨_, a5⟩
    foot := fun b hb => by
      simp only [List.mem_cons, List.not_mem_nil, or_false] at hb
      rcases hb with rfl | rfl | rfl | rfl | rfl | rfl | rfl
      · exact .inl (old _ (Nat.le_add_right _ _))
      · exact .inl (old _ (Nat.le_add_right _ _))
      · exact .inl (old _ (Nat.le_add_right _ _))
      · exact .inl (old _ (Nat.le_refl _))
      · exact .inl (old _ (Nat.le_add_right _ _))
      · exact .inr ⟨X1, _, _, _, g1, rfl⟩
      · exact .inr ⟨X2, _, _, _, g2, rfl⟩
    self := W.self
    item := fun i ds s env Q E hi st hH h => by
      rw [List.getElem?_map] at hi
      cases hab : (as.zip bs)[i]? with
      | none => rw [hab] at hi; simp at hi
      | some ab =>
        rw [hab] at hi
        simp at hi
        subst hi
        obtain ⟨da, db⟩ := ab
        have hz := List.getElem?_zip_eq_some.mp hab
        obtain ⟨v, hv, Dv⟩ := d1.get hz.1
        obtain ⟨u, hu, Du⟩ := d2.get hz.2
        have hi1 : i < vs.toArray.size := by have := (List.getElem?_eq_some_iff.mp hv).1; simpa using this
        have hi2 : i < us.toArray.size := by have := (List.getElem?_eq_some_iff.mp hu).1; simpa using this
        refine W.item i s _ E (by exact ar117 hi1 hi2) st fun T vals h1 tk hv' hT1 hT2 hM hk1 => ?_
        obtain ⟨x', y', ex, ey, rfl⟩ := hv'
        have ex' : vs[i]? = some x' := by simpa using ex
        have ey' : us[i]? = some y' := by simpa using ey
        rw [hv] at ex'; cases ex'
        rw [hu] at ey'; cases ey'
        refine W.go elts k tp i T _ _ E hM fun h2 st2 hk2 => ?_
        have hTn := W.apart i T h1 hM
        have hT3 : h2.IsTuple T [v, u].toArray := by
          obtain ⟨o, ho, r⟩ := hT2
          exact ⟨o, hk2 _ _ hTn ho, r⟩
        refine bind_tuple hh ht hT3 rfl fun h3 hk3 => ?_
        exact h [v, u] h3 tk (.cons Dv (.cons Du .nil)) rfl (W.frame _ _ _ st2 fun b _ o e => hk3 b o e) fun b o hb e => hk3 b o (hk2 b o hb (hk1 b o hb e))
    done := fun s Q E st h => W.done s Q E (by rw [hlen]; exact st) h }
  refine hQ _ _ _ _ _ Wk1 ⟨hz, hTI, ⟨_, _, hTO⟩, i1, i2, L1, L2⟩ ?_ (.refl _)
  intro b hb
  simp only [List.mem_cons, List.not_mem_nil, or_false] at hb
  show @LT.lt Nat _ b h'.objs.size
  have hb' : @Eq Nat b (N + 4) ∨ @Eq Nat b (N + 2) ∨ @Eq Nat b (N + 3) ∨ @Eq Nat b N ∨ @Eq Nat b (N + 1) ∨ @Eq Nat b l1 ∨ @Eq Nat b l2 := hb
  exact ar118 hb' hsz t1' t2'
end
end Mine
end

section
open PySem PyProof.Rows
set_option Elab.async false
set_option linter.unusedVariables false
namespace Mine

section
variable {prog : Program} {w : World} {A : Around} {E : Value → Shared → Prop} {s : Shared} {env : Env}
theorem compLoop_any {elt target iter : Expr} {ifs : List Expr} {scope : Scope} {pos : Pos} {it acc : Value} {R : Result → Shared → Prop} (I : Nat → Shared → Prop)
    (turn : ∀ n s, I n s → wpAny (model prog w) A (pyNext it) (fun r s₁ => match r with
      | none => R (.ok .next) s₁
      | some v => wpAny (model prog w) A (letOwnedTupleGo target it v) (fun _ s₁' => wpAny (model prog w) A (assign target env v) (fun _ s₂ =>
          wpAny (model prog w) A (forIn ifs true fun c r => if r = true then do let ok ← isTrue c env (eval c env); pure (ForInStep.yield ok) else pure (ForInStep.yield r)) (fun ok s₃ =>
            if ok = true then wpAny (model prog w) A (eval elt env) (fun x s₄ =>
              wpAny (model prog w) A (call (.builtin "list.append") [acc, x]) (fun _ s₅ => ∃ m, m < n ∧ I m s₅) (notedBy (model prog w) A env fun e s' => R (.error e) s') s₄) (notedBy (model prog w) A env fun e s' => R (.error e) s') s₃
            else ∃ m, m < n ∧ I m s₃) (notedBy (model prog w) A env fun e s' => R (.error e) s') s₂) (notedBy (model prog w) A env fun e s' => R (.error e) s') s₁') (notedBy (model prog w) A env fun e s' => R (.error e) s') s₁) (notedBy (model prog w) A env fun e s' => R (.error e) s') s)
    (n : Nat) (h : I n s) : codeAny (model prog w) A (.compLoop (.ListComp elt [⟨target, iter, ifs, 0⟩] scope pos) 0 it acc env) R s := by
  refine codeAny_loop rfl I (fun n s hI => ?_) n h
  show wpAny _ A ((compTurn (.ListComp elt [⟨target, iter, ifs, 0⟩] scope pos) 0 it acc env).onRaise (fun x => do noteFrame x env; theTreesLotGoes x)) _ _ s
  refine wpAny_noted ?_
  rw [compTurn_list]
  refine wpAny_bind (wpAny_standAt (wpAny_bind (wpAny_mono (turn n s hI) (fun r s₁ h₁ => ?_) fun _ _ h' => h')))
  cases r with
  | none => exact wpAny_pure h₁
  | some v =>
    refine wpAny_bind (wpAny_mono h₁ (fun _ s₁' h₁' => ?_) fun _ _ h' => h')
    refine wpAny_bind (wpAny_mono h₁' (fun _ s₂ h₂ => wpAny_bind (wpAny_mono h₂ (fun ok s₃ h₃ => ?_) fun _ _ h' => h')) fun _ _ h' => h')
    cases ok with
    | false => exact wpAny_pure ⟨rfl, h₃⟩
    | true =>
      exact wpAny_bind (wpAny_bind (wpAny_mono h₃ (fun x s₄ h₄ => wpAny_bind (wpAny_mono h₄ (fun _ s₅ h₅ => wpAny_pure (wpAny_pure ⟨rfl, h₅⟩)) fun _ _ h' => h')) fun _ _ h' => h'))

theorem bindAll_local : ∀ (xs : List Str) (vals : List Value) (s : Shared) (m : Str → Option Value) (Q : Unit → Shared → Prop), (∀ x ∈ xs, env.kindOf x = some .local) → xs.Nodup →
    (env.scope.kind == .class || (env.scope.kind == .module && env.locals != env.globals)) = false → s.heap.Ns env.locals m → vals.length = xs.length →
    (∀ h' tk m', h'.Ns env.locals m' → (∀ (i : Nat) x v, xs[i]? = some x → vals[i]? = some v → m' x = some v) → (∀ y, y ∉ xs → m' y = m y) → Heap.SameBut env.locals s.heap h' → Q () { s with heap := h', toks := tk }) →
    BindAll (model prog w) A env xs vals Q E s
  | [], vals, s, m, Q, _, _, _, hn, _, h => h s.heap s.toks m hn (fun i x v e => by simp at e) (fun _ _ => rfl) (.refl ..)
  | x :: xs, [], s, m, Q, _, _, _, hn, e, h => by simp at e
  | x :: xs, v :: vals, s, m, Q, hl, hnd, hp, hn, e, h => by
    refine wpAny_storeName_local (hl x (.head _)) hn (fun h₁ hn₁ hs₁ => ?_) hp
    refine bindAll_local xs vals _ _ Q (fun y hy => hl y (.tail _ hy)) (List.nodup_cons.mp hnd).2 hp hn₁ (by simpa using e) fun h' tk m' hn' h1 h2 hs' => ?_
    refine h h' tk m' hn' (fun i y u e1 e2 => ?_) (fun y hy => ?_) (hs₁.trans hs')
    · cases i with
      | zero =>
        simp at e1 e2
        subst e1; subst e2
        rw [h2 _ (List.nodup_cons.mp hnd).1]
        simp
      | succ i => exact h1 i y u (by simpa using e1) (by simpa using e2)
    · simp only [List.mem_cons, not_or] at hy
      rw [h2 y hy.2]
      simp [hy.1]

noncomputable def closL (env : Env) : List (Str × NameKind) → List (Str × Addr) → List (Str × Addr)
  | [], cs => cs
  | (n, k) :: r, cs => if k == .free then closL env r ((n, (env.cells.lookup n).getD 0) :: cs) else closL env r cs
theorem closureFor_eq {scope : Scope} (h : ∀ p ∈ scope.names, p.2 = .free → ∃ c, env.cells.lookup p.1 = some c) : closureFor scope env = pure (closL env scope.names []) := by
  have go : ∀ (names : List (Str × NameKind)) (cs : List (Str × Addr)), (∀ p ∈ names, p.2 = .free → ∃ c, env.cells.lookup p.1 = some c) →
      (forIn names cs (fun x cs => (if x.2 == .free then do let c ← cellOf env x.1; pure (ForInStep.yield ((x.1, c) :: cs)) else pure (ForInStep.yield cs) : Sem (ForInStep (List (Str × Addr)))))) = pure (closL env names cs) := by
    intro names
    induction names with
    | nil => intro cs _; rfl
    | cons a r ih =>
      intro cs h
      obtain ⟨n, k⟩ := a
      rw [List.forIn_cons, closL]
      by_cases hk : (k == NameKind.free) = true
      · obtain ⟨c, hc⟩ := h (n, k) (.head _) (by simpa using hk)
        simp only [hk, if_true]
        have e : cellOf env n = pure c := by unfold cellOf; rw [hc]
        rw [e]
        simp only [pure_bind]
        rw [ih _ fun p hp => h p (.tail _ hp), hc]
        rfl
      · simp only [hk, if_false, Bool.false_eq_true]
        rw [pure_bind]
        exact ih _ fun p hp => h p (.tail _ hp)
  unfold closureFor
  have := go scope.names [] h
  simp only [] at this ⊢
  rw [show (forIn scope.names [] fun x (cs : List (Str × Addr)) => _) = _ from this]
  rfl
theorem closL_sub : ∀ (names : List (Str × NameKind)) (cs : List (Str × Addr)), (∀ p ∈ names, p.2 = .free → ∃ c, env.cells.lookup p.1 = some c) → (∀ q ∈ cs, env.cells.lookup q.1 = some q.2) → ∀ q ∈ closL env names cs, env.cells.lookup q.1 = some q.2
  | [], cs, _, hc, q, hq => hc q hq
  | (n, k) :: r, cs, h, hc, q, hq => by
    rw [closL] at hq
    by_cases hk : (k == NameKind.free) = true
    · rw [if_pos hk] at hq
      obtain ⟨c, e⟩ := h (n, k) (.head _) (by simpa using hk)
      refine closL_sub r _ (fun p hp => h p (.tail _ hp)) (fun q' hq' => ?_) q hq
      rcases List.mem_cons.mp hq' with rfl | hq'
      · show env.cells.lookup n = some ((env.cells.lookup n).getD 0)
        rw [e]; rfl
      · exact hc q' hq'
    · rw [if_neg hk] at hq
      exact closL_sub r cs (fun p hp => h p (.tail _ hp)) hc q hq
theorem closL_mem : ∀ (names : List (Str × NameKind)) (cs : List (Str × Addr)) (x : Str), (x, NameKind.free) ∈ names ∨ (∃ c, (x, c) ∈ cs) → ∃ c, (x, c) ∈ closL env names cs
  | [], cs, x, h => by
    rcases h with h | h
    · cases h
    · exact h
  | (n, k) :: r, cs, x, h => by
    rw [closL]
    by_cases hk : (k == NameKind.free) = true
    · rw [if_pos hk]
      refine closL_mem r _ x ?_
      rcases h with h | ⟨c, h⟩
      · rcases List.mem_cons.mp h with e | h
        · simp only [Prod.mk.injEq] at e
          exact .inr ⟨_, by rw [e.1]; exact .head _⟩
        · exact .inl h
      · exact .inr ⟨c, .tail _ h⟩
    · rw [if_neg hk]
      refine closL_mem r cs x ?_
      rcases h with h | h
      · rcases List.mem_cons.mp h with e | h
        · simp only [Prod.mk.injEq] at e
          rw [← e.2] at hk; simp at hk
        · exact .inl h
      · exact .inr h
theorem lookup_of_mem {x : Str} : ∀ {l : List (Str × Addr)}, (∃ c, (x, c) ∈ l) → ∃ c, l.lookup x = some c ∧ (x, c) ∈ l
  | [], ⟨_, h⟩ => by cases h
  | (y, d) :: l, ⟨c, h⟩ => by
    by_cases e : (x == y) = true
    · have := beq_iff_eq.mp e; subst this
      exact ⟨d, by simp, .head _⟩
    · rcases List.mem_cons.mp h with q | q
      · simp only [Prod.mk.injEq] at q; rw [q.1] at e; simp at e
      · obtain ⟨c', e1, e2⟩ := lookup_of_mem ⟨c, q⟩
        exact ⟨c', by rw [List.lookup_cons]; simp only [e]; exact e1, .tail _ e2⟩
theorem closL_lookup {names : List (Str × NameKind)} {x : Str} (h : ∀ p ∈ names, p.2 = .free → ∃ c, env.cells.lookup p.1 = some c) (hx : (x, NameKind.free) ∈ names) : (closL env names []).lookup x = env.cells.lookup x := by
  obtain ⟨c, e1, e2⟩ := lookup_of_mem (closL_mem (env := env) names [] x (.inl hx))
  rw [e1, closL_sub names [] h (fun q hq => by cases hq) _ e2]

noncomputable def frees : List (Str × NameKind) → List (Str × NameKind)
  | [] => []
  | (n, .free) :: r => (n, .cell) :: frees r
  | (n, k) :: r => (n, k) :: frees r
noncomputable def scopeOk (scope : Scope) (GN : List (Str × NameKind)) (xs : List Str) : Bool :=
  scope.names.all (fun p => scope.names.lookup p.1 == some p.2 && p.2 != .cell && (p.2 != .free || GN.contains (p.1, .cell)) && p.1 != Str.ofString "__debug__") && scope.kind == .function && xs.all (fun x => scope.names.lookup x == some .local) && decide xs.Nodup
end
end Mine
end

section
open PySem PyProof.Rows
set_option Elab.async false
set_option linter.unusedVariables false
namespace Mine

theorem mem_frees {p : Str × NameKind} : ∀ {names : List (Str × NameKind)}, p ∈ frees names → (p ∈ names ∧ p.2 ≠ .free) ∨ (p.2 = .cell ∧ (p.1, NameKind.free) ∈ names)
  | [], h => by cases h
  | (n, k) :: r, h => by
    cases k with
    | free =>
      rw [frees] at h
      rcases List.mem_cons.mp h with rfl | h
      · exact .inr ⟨rfl, .head _⟩
      · rcases mem_frees h with q | q
        · exact .inl ⟨.tail _ q.1, q.2⟩
        · exact .inr ⟨q.1, .tail _ q.2⟩
    | _ =>
      rw [frees] at h
      · rcases List.mem_cons.mp h with rfl | h
        · exact .inl ⟨.head _, by simp⟩
        · rcases mem_frees h with q | q
          · exact .inl ⟨.tail _ q.1, q.2⟩
          · exact .inr ⟨q.1, .tail _ q.2⟩
      · simp

structure ScopeOk (scope : Scope) (GN : List (Str × NameKind)) (xs : List Str) : Prop where
  look : ∀ p ∈ scope.names, scope.names.lookup p.1 = some p.2
  nocell : ∀ p ∈ scope.names, p.2 ≠ .cell
  free : ∀ p ∈ scope.names, p.2 = .free → (p.1, NameKind.cell) ∈ GN
  nodebug : ∀ p ∈ scope.names, p.1 ≠ Str.ofString "__debug__"
  kind : scope.kind = .function
  loc : ∀ x ∈ xs, scope.names.lookup x = some .local
  nodup : xs.Nodup
theorem ScopeOk.of {scope : Scope} {GN : List (Str × NameKind)} {xs : List Str} (h : scopeOk scope GN xs = true) : ScopeOk scope GN xs := by
  unfold scopeOk at h
  simp only [Bool.and_eq_true, List.all_eq_true, beq_iff_eq, bne_iff_ne, Bool.or_eq_true, decide_eq_true_eq] at h
  obtain ⟨⟨⟨h1, h2⟩, h3⟩, h4⟩ := h
  exact ⟨fun p hp => (h1 p hp).1.1.1, fun p hp => (h1 p hp).1.1.2, fun p hp e => by
    rcases (h1 p hp).1.2 with q | q
    · exact absurd e q
    · exact List.contains_iff_mem.mp q, fun p hp => (h1 p hp).2, h2, h3, h4⟩

inductive Cap (st : List (Str × Slot)) (names : List (Str × NameKind)) : List (Str × Slot) → Prop
  | nil : Cap st names []
  | cons {x : Str} {sl : Slot} {cap : List (Str × Slot)} (h1 : (x, sl) ∈ st) (h2 : (x, NameKind.free) ∈ names) (h : Cap st names cap) : Cap st names ((x, sl) :: cap)
theorem Cap.mem {st : List (Str × Slot)} {names : List (Str × NameKind)} {cap : List (Str × Slot)} (h : Cap st names cap) : ∀ p ∈ cap, p ∈ st ∧ (p.1, NameKind.free) ∈ names := by
  induction h with
  | nil => intro p hp; cases hp
  | cons h1 h2 h ih =>
    intro p hp
    rcases List.mem_cons.mp hp with rfl | hp
    · exact ⟨h1, h2⟩
    · exact ih p hp

theorem lookup_mem {x : Str} {k : NameKind} : ∀ {l : List (Str × NameKind)}, l.lookup x = some k → (x, k) ∈ l
  | [], h => by cases h
  | (y, d) :: l, h => by
    rw [List.lookup_cons] at h
    by_cases e : (x == y) = true
    · simp only [e] at h
      have := beq_iff_eq.mp e; subst this
      cases h; exact .head _
    · simp only [e] at h
      exact .tail _ (lookup_mem h)
noncomputable def bnd (xs : List Str) (ds : List V) : List (Str × Slot) := (xs.zip ds).map fun p => (p.1, .val p.2)

section
variable {prog : Program} {w : World} {G : Glo} {env : Env} {X : Addr → Prop} {GN : List (Str × NameKind)} {st : List (Str × Slot)} {A : Around}

theorem VarIs.free {h : Heap} {scope : Scope} {C : Addr} {x : Str} {v : Value} {cl : List (Str × Addr)} (hv : VarIs env h x v) (hk : env.kindOf x = some .cell) (hc : cl.lookup x = env.cells.lookup x) (hk' : (compEnvC scope cl C env).kindOf x = some .cell) : VarIs (compEnvC scope cl C env) h x v := by
  rcases hv with ⟨a, _⟩ | ⟨_, c, h1, h2⟩
  · rw [hk] at a; cases a
  · exact .inr ⟨hk', c, by show cl.lookup x = some c; rw [hc]; exact h1, h2⟩
theorem SlotIs.free {h : Heap} {scope : Scope} {C : Addr} {x : Str} {cl : List (Str × Addr)} (hk : env.kindOf x = some .cell) (hc : cl.lookup x = env.cells.lookup x) (hk' : (compEnvC scope cl C env).kindOf x = some .cell) : ∀ {sl : Slot}, SlotIs env X h x sl → SlotIs (compEnvC scope cl C env) X h x sl
  | .un, y => y
  | .val d, ⟨v, a, b⟩ => ⟨v, a.free hk hc hk', b⟩
  | .own a ds, ⟨p, q, r, vs, n, g, b⟩ => ⟨p.free hk hc hk', q, r, vs, n, g, b⟩
  | .ownB a bs, ⟨p, q, r, g⟩ => ⟨p.free hk hc hk', q, r, g⟩

theorem relabel_lookup {scope : Scope} (hs : ScopeOk scope GN xs) (hg : ∀ p ∈ GN, env.kindOf p.1 = some p.2) (hk : env.scope.kind = .function) : ∀ p ∈ frees scope.names, (relabel scope env).names.lookup p.1 = some p.2 := by
  have key : ∀ names : List (Str × NameKind), (∀ p ∈ names, p.2 = .free → env.kindOf p.1 = some .cell) →
      (names.map fun (n, k) => if (k == NameKind.free && env.scope.kind == .function && env.kindOf n == some .cell) then (n, NameKind.cell) else (n, k)) = frees names := by
    intro names
    induction names with
    | nil => intro _; rfl
    | cons a r ih =>
      obtain ⟨n, k⟩ := a
      intro h
      have e1 := ih fun p hp => h p (.tail _ hp)
      cases k with
      | free =>
        have e2 := h (n, .free) (.head _) rfl
        rw [frees, List.map_cons, e1]
        simp [hk, e2]
      | _ => rw [frees] <;> first | (rw [List.map_cons, e1]; simp) | simp
  have e : (relabel scope env).names = frees scope.names := key scope.names fun p hp hf => hg _ (hs.free p hp hf)
  rw [e]
  have look : ∀ names : List (Str × NameKind), (∀ p ∈ names, names.lookup p.1 = some p.2) → ∀ p ∈ frees names, (frees names).lookup p.1 = some p.2 := by
    have lk : ∀ (names : List (Str × NameKind)) (x : Str), (frees names).lookup x = (names.lookup x).map fun k => if k = .free then .cell else k := by
      intro names
      induction names with
      | nil => intro x; rfl
      | cons a r ih =>
        obtain ⟨n, k⟩ := a
        intro x
        have e : frees ((n, k) :: r) = (n, if k = .free then .cell else k) :: frees r := by cases k <;> simp [frees]
        rw [e, List.lookup_cons, List.lookup_cons]
        cases x == n with
        | true => rfl
        | false => exact ih x
    intro names h p hp
    rw [lk]
    rcases mem_frees hp with ⟨q1, q2⟩ | ⟨q1, q2⟩
    · rw [h p q1]; simp [q2]
    · rw [h _ q2]; simp [q1]
  exact look _ hs.look

noncomputable def Ifs (prog : Program) (w : World) (G : Glo) (env : Env) (X : Addr → Prop) (GN : List (Str × NameKind)) (st : List (Str × Slot)) (A : Around) (ifs : List Expr) (b : Bool) : Prop :=
  ∀ (s : Shared) (E : Value → Shared → Prop), RelE G env X GN st s.heap →
    wpAny (model prog w) A (forIn ifs true fun c r => if r = true then do let ok ← isTrue c env (eval c env); pure (ForInStep.yield ok) else pure (ForInStep.yield r)) (fun ok s' => Kp s s' ∧ ok = b) E s
theorem ifs_nil : Ifs prog w G env X GN st A [] true := fun s E r => wpAny_tests_nil ⟨.refl s, rfl⟩
theorem ifs_one {c : Expr} {b : Bool} (h : Tst prog w G env X GN st A c b) : Ifs prog w G env X GN st A [c] b := fun s E r => wpAny_tests_one (h s E r)

theorem den_take {α : Type} (p : α → Bool) (g : α → V) (l : List α) (i : Nat) (v : α) (h : l[i]? = some v) : ((l.take (i + 1)).filter p).map g = ((l.take i).filter p).map g ++ (if p v then [g v] else []) := by
  rw [take_succ_filter p l i v h]
  cases p v <;> simp

theorem relC {xs : List Str} {ds : List V} {scope : Scope} {cap : List (Str × Slot)} {C : Addr} {h : Heap} {m : Str → Option Value} {vals : List Value} (hs : ScopeOk scope GN xs) (hcap : Cap st scope.names cap) (r : RelE G env X GN st h)
    (hn : h.Ns C m) (hD : DenL X h ds vals) (hm : ∀ (i : Nat) x v, xs[i]? = some x → vals[i]? = some v → m x = some v) :
    RelE G (compEnvC scope (closL env scope.names []) C env) X (frees scope.names) (bnd xs ds ++ cap) h where
  g := r.g
  kd := hs.kind
  gl := r.gl
  bl := r.bl
  gn := relabel_lookup hs r.gn r.kd
  cn := fun x hx => by
    have hfree : ∀ p ∈ scope.names, p.2 = .free → ∃ c, env.cells.lookup p.1 = some c := fun p hp e => r.cn _ (hs.free p hp e)
    rcases mem_frees hx with ⟨q1, q2⟩ | ⟨q1, q2⟩
    · exact absurd rfl (hs.nocell _ q1)
    · show ∃ c, (closL env scope.names []).lookup x = some c
      rw [closL_lookup hfree q2]
      exact hfree (x, NameKind.free) q2 rfl
  nd := by
    constructor
    · intro hd
      obtain ⟨p, hp, e⟩ := List.mem_map.mp hd
      rcases mem_frees hp with ⟨q1, q2⟩ | ⟨q1, q2⟩
      · exact hs.nodebug _ q1 e
      · exact hs.nodebug _ q2 e
    · intro hd
      rw [List.map_append] at hd
      rcases List.mem_append.mp hd with hd | hd
      · obtain ⟨p, hp, e⟩ := List.mem_map.mp hd
        obtain ⟨q, hq, rfl⟩ := List.mem_map.mp hp
        have hx : q.1 ∈ xs := (List.of_mem_zip hq).1
        have hl := hs.loc _ hx
        have : (Str.ofString "__debug__", NameKind.local) ∈ scope.names := by
          rw [← e]
          exact lookup_mem hl
        exact hs.nodebug _ this rfl
      · obtain ⟨p, hp, e⟩ := List.mem_map.mp hd
        exact hs.nodebug _ (hcap.mem p hp).2 e
  xo := r.xo
  vars := fun p hp => by
    rcases List.mem_append.mp hp with hp | hp
    · obtain ⟨q, hq, rfl⟩ := List.mem_map.mp hp
      obtain ⟨i, hi⟩ := List.mem_iff_getElem?.mp hq
      have hz := List.getElem?_zip_eq_some.mp hi
      obtain ⟨v, hv, Dv⟩ := hD.get hz.2
      exact ⟨v, .inl ⟨lookup_relabel_local (hs.loc _ (List.mem_of_getElem? hz.1)), m, hn, hm i _ v hz.1 hv⟩, Dv⟩
    · obtain ⟨h1, h2⟩ := hcap.mem p hp
      have hfree : ∀ p ∈ scope.names, p.2 = .free → ∃ c, env.cells.lookup p.1 = some c := fun p hp e => r.cn _ (hs.free p hp e)
      refine SlotIs.free (r.gn _ (hs.free _ h2 rfl)) (closL_lookup hfree h2) ?_ (r.vars p h1)
      have : (p.1, NameKind.cell) ∈ frees scope.names := by
        have go : ∀ names : List (Str × NameKind), (p.1, NameKind.free) ∈ names → (p.1, NameKind.cell) ∈ frees names := by
          intro names
          induction names with
          | nil => intro h; cases h
          | cons a r ih =>
            obtain ⟨n, k⟩ := a
            intro h
            have e : frees ((n, k) :: r) = (n, if k = .free then .cell else k) :: frees r := by cases k <;> simp [frees]
            rw [e]
            rcases List.mem_cons.mp h with q | q
            · simp only [Prod.mk.injEq] at q
              rw [← q.1, ← q.2]; simp
            · exact .tail _ (ih q)
        exact go _ h2
      exact relabel_lookup hs r.gn r.kd _ this

theorem slot_more {X X' : Addr → Prop} {h : Heap} {x : Str} (hx : ∀ a o, X' a → h.get? a = some o → X a) (hxx : ∀ a, X a → X' a) : ∀ {sl : Slot}, SlotIs env X h x sl → SlotIs env X' h x sl
  | .un, y => y
  | .val d, ⟨v, a, b⟩ => ⟨v, a, Den.imp hx (fun _ _ _ e => e) _ _ b⟩
  | .own a ds, ⟨p, q, r, vs, n, g, b⟩ => ⟨p, hxx _ q, r, vs, n, g, DenL.imp hx (fun _ _ _ e => e) _ _ b⟩
  | .ownB a bs, ⟨p, q, r, g⟩ => ⟨p, hxx _ q, r, g⟩
theorem comp_core {elt iter tgt : Expr} {ifs : List Expr} {scope : Scope} {pos : Pos} {xs : List Str} {items : List (List V)} {cap : List (Str × Slot)} {g : List V → V} {p : List V → Bool} {s₂ : Shared} {h₀ h₁ : Heap} {I : Addr} {fp wr : List Addr} {St : Nat → Heap → Prop}
    {RR : Value → Addr → Result → Shared → Prop} {E : Value → Shared → Prop}
    (W : Wk prog w A X h₁ I tgt xs items fp wr St) (hst : St 0 s₂.heap) (hfp : ∀ b ∈ fp, b < s₂.heap.objs.size) (k1 : HK h₀ h₁) (k2 : HK h₁ s₂.heap)
    (r : RelE G env X GN st h₀) (hs : ScopeOk scope GN xs) (hcap : Cap st scope.names cap) (hsz : items.length ≤ sizeLine)
    (hif : ∀ ds ∈ items, ∀ X cenv, Ifs prog w G cenv X (frees scope.names) (bnd xs ds ++ cap) A ifs (p ds))
    (hel : ∀ ds ∈ items, p ds = true → ∀ X cenv, Ev prog w G cenv X (frees scope.names) (bnd xs ds ++ cap) A elt (g ds))
    (hRR : ∀ D C h' tk m' ys n, s₂.heap.get? D = none → s₂.heap.get? C = none → D ≠ C → h'.Ns C m' → h'.get? D = some (lobj ys n) → DenL X h' ((items.filter p).map g) ys → (∀ b o, b ∉ wr → s₂.heap.get? b = some o → h'.get? b = some o) →
      RR (.ref D) C (.ok .next) { s₂ with heap := h', toks := tk }) :
    wpAny (model prog w) A (newList []) (fun acc s₃ => wpAny (model prog w) A (newFunctionEnv scope env.globals (closL env scope.names []) [] env.qual none .none (some env)) (fun cenv s₄ =>
      codeAny (model prog w) A (.compStart (.ListComp elt [⟨tgt, iter, ifs, 0⟩] scope pos) 0 (.ref I) acc { cenv with scope := relabel scope env }) (RR acc cenv.locals) s₄) E s₃) E s₂ := by
  refine wpAny_newObj_type (wpAny_newFunctionEnv hs.nocell (by intro y hy; simp at hy) (fun h₃ hns₁ hsb₁ => ?_) hs.kind)
  dsimp only at hns₁ hsb₁ ⊢
  generalize hH2 : s₂.heap.push { cls := .type "list", dict := none, data := .seq ([] : List Value).toArray } = H2 at hns₁ hsb₁ ⊢
  have hC : H2.objs.size = s₂.heap.objs.size + 1 := by rw [← hH2, Heap.size_push]
  have hDC : s₂.heap.objs.size ≠ H2.objs.size := by rw [hC]; exact Nat.ne_of_lt (Nat.lt_succ_self _)
  have below : ∀ b, b < s₂.heap.objs.size → b ≠ H2.objs.size ∧ b ≠ s₂.heap.objs.size := fun b hb => ⟨by rw [hC]; exact Nat.ne_of_lt (Nat.lt_succ_of_lt hb), Nat.ne_of_lt hb⟩
  have hDf : s₂.heap.objs.size ∉ fp := fun hm => Nat.lt_irrefl _ (hfp _ hm)
  have hCf : H2.objs.size ∉ fp := fun hm => by have := hfp _ hm; rw [hC] at this; exact Nat.lt_irrefl _ (Nat.lt_of_succ_lt this)
  have hDw : s₂.heap.objs.size ∉ wr := fun hm => hDf (W.sub _ hm)
  have hCw : H2.objs.size ∉ wr := fun hm => hCf (W.sub _ hm)
  have old : ∀ b o, s₂.heap.get? b = some o → h₃.get? b = some o := fun b o e => hsb₁.extBut b o (below b (Heap.lt_size e)).1 (Heap.get?_push_of_some _ (hH2 ▸ Heap.get?_push_of_some _ e))
  have hacc : h₃.get? s₂.heap.objs.size = some (lobj [] 0) := hsb₁.extBut _ _ hDC (Heap.get?_push_of_some _ (hH2 ▸ Heap.get?_push_size _ rfl))
  have hst₁ : St 0 h₃ := W.frame _ _ _ hst fun b _ o e => old b o e
  generalize hDD : s₂.heap.objs.size = D at *
  generalize hCC : H2.objs.size = C at *
  have xoD : ¬ X D := fun q => by
    obtain ⟨o, e⟩ := r.xo _ q
    have := Heap.lt_size (k2 _ _ (k1 _ _ e))
    rw [hDD] at this
    exact Nat.lt_irrefl _ this
  have main : ∀ s₃ : Shared, s₃ = { s₂ with heap := h₃, toks := s₂.toks + ([] : List (Str × Value)).length } →
      codeAny (model prog w) A (.compLoop (.ListComp elt [⟨tgt, iter, ifs, 0⟩] scope pos) 0 (.ref I) (.ref D) (compEnvC scope (closL env scope.names []) C env)) (RR (.ref D) C) s₃ := by
    rintro s₃ rfl
    refine compLoop_any (fun k s' => ∃ h' tk m' ys n i, s' = { s₂ with heap := h', toks := tk } ∧ St i h' ∧ h'.get? D = some (lobj ys n) ∧ h'.Ns C m' ∧ DenL (fun b => X b ∨ b ∈ wr ∨ b = D) h' (((items.take i).filter p).map g) ys ∧ i ≤ items.length ∧ k = items.length + 1 - i ∧
      (∀ b o, b ∉ wr → b ≠ C → b ≠ D → s₂.heap.get? b = some o → h'.get? b = some o)) ?_ (items.length + 1)
      ⟨h₃, _, _, [], 0, 0, rfl, hst₁, hacc, hns₁, by simp only [List.take_zero, List.filter_nil, List.map_nil, DenL], Nat.zero_le _, rfl, fun b o _ _ _ e => old b o e⟩
    rintro k s' ⟨h', tk, m', ys, n, i, rfl, hSt, hD, hN, hY, hi, rfl, hK⟩
    have upto : ∀ b o, h₁.get? b = some o → h'.get? b = some o := fun b o e => by
      have hlt := Heap.lt_size (k2 _ _ e)
      rw [hDD] at hlt
      refine hK b o (fun q => ?_) (below b hlt).1 (below b hlt).2 (k2 _ _ e)
      rw [W.fresh b q] at e; cases e
    by_cases hlt : i < items.length
    · have hit : items[i]? = some items[i] := List.getElem?_eq_getElem hlt
      refine wpAny_mono (W.item i items[i] _ (compEnvC scope (closL env scope.names []) C env)
        (fun _ s₂' => wpAny (model prog w) A (forIn ifs true fun c r => if r = true then do let ok ← isTrue c (compEnvC scope (closL env scope.names []) C env) (eval c (compEnvC scope (closL env scope.names []) C env)); pure (ForInStep.yield ok) else pure (ForInStep.yield r)) (fun ok s₃ =>
            if ok = true then wpAny (model prog w) A (eval elt (compEnvC scope (closL env scope.names []) C env)) (fun x s₄ =>
              wpAny (model prog w) A (call (.builtin "list.append") [.ref D, x]) (fun _ s₅ => ∃ m, m < items.length + 1 - i ∧ ∃ h' tk m' ys n j, s₅ = { s₂ with heap := h', toks := tk } ∧ St j h' ∧ h'.get? D = some (lobj ys n) ∧ h'.Ns C m' ∧ DenL (fun b => X b ∨ b ∈ wr ∨ b = D) h' (((items.take j).filter p).map g) ys ∧ j ≤ items.length ∧ m = items.length + 1 - j ∧
      (∀ b o, b ∉ wr → b ≠ C → b ≠ D → s₂.heap.get? b = some o → h'.get? b = some o)) (notedBy (model prog w) A (compEnvC scope (closL env scope.names []) C env) fun e s' => RR (.ref D) C (.error e) s') s₄) (notedBy (model prog w) A (compEnvC scope (closL env scope.names []) C env) fun e s' => RR (.ref D) C (.error e) s') s₃
            else ∃ m, m < items.length + 1 - i ∧ ∃ h' tk m' ys n j, s₃ = { s₂ with heap := h', toks := tk } ∧ St j h' ∧ h'.get? D = some (lobj ys n) ∧ h'.Ns C m' ∧ DenL (fun b => X b ∨ b ∈ wr ∨ b = D) h' (((items.take j).filter p).map g) ys ∧ j ≤ items.length ∧ m = items.length + 1 - j ∧
      (∀ b o, b ∉ wr → b ≠ C → b ≠ D → s₂.heap.get? b = some o → h'.get? b = some o)) (notedBy (model prog w) A (compEnvC scope (closL env scope.names []) C env) fun e s' => RR (.ref D) C (.error e) s') s₂')
        (notedBy (model prog w) A (compEnvC scope (closL env scope.names []) C env) fun e s' => RR (.ref D) C (.error e) s') hit hSt (Hold.of_hk upto) ?_)
        (fun v s₁ hv => ?_) fun _ _ e => e
      · intro vals h4 tk4 hDv hlen hSt4 hk4
        have hvl := hDv.length
        have upto4 : ∀ b o, h₁.get? b = some o → h4.get? b = some o := fun b o e => hk4 b o (fun q => by rw [W.fresh b q] at e; cases e) (upto b o e)
        have hN4 : h4.Ns C m' := hN.at' fun o e => hk4 _ o hCw e
        refine bindAll_local (env := compEnvC scope (closL env scope.names []) C env) xs vals _ m' _ (fun x hx => lookup_relabel_local (hs.loc x hx)) hs.nodup (by simp [compEnvC, relabel, hs.kind]) hN4 (by rw [hvl, hlen]) fun h5 tk5 m5 hN5 hb5 _ hs5 => ?_
        have keep5 : ∀ b o, b ≠ C → h4.get? b = some o → h5.get? b = some o := fun b o hb e => hs5.extBut b o hb e
        have upto5 : HK h₁ h5 := fun b o e => keep5 b o (below b (by have := Heap.lt_size (k2 _ _ e); rw [hDD] at this; exact this)).1 (upto4 b o e)
        have hD5 : h5.get? D = some (lobj ys n) := keep5 _ _ hDC (hk4 _ _ hDw hD)
        have hSt5 : St (i + 1) h5 := W.frame _ _ _ hSt4 fun b hb o e => keep5 b o (fun q => hCf (q ▸ hb)) e
        have newX : ∀ a o, (X a ∨ a ∈ wr ∨ a = D) → h₁.get? a = some o → X a := fun a o q e => by
          rcases q with q | q | q
          · exact q
          · rw [W.fresh a q] at e; cases e
          · exfalso
            subst q
            have := Heap.lt_size (k2 _ _ e)
            rw [hDD] at this
            exact Nat.lt_irrefl _ this
        have r1 : RelE G env X GN st h₁ := r.keeps k1
        have r5' : RelE G env (fun b => X b ∨ b ∈ wr ∨ b = D) GN st h5 := {
          g := G.keeps _ _ r1.g upto5
          kd := r1.kd
          gl := r1.gl
          bl := r1.bl
          gn := r1.gn
          cn := r1.cn
          nd := r1.nd
          xo := fun a ha => by
            rcases ha with q | q | q
            · obtain ⟨o, e⟩ := r1.xo a q; exact ⟨o, upto5 _ _ e⟩
            · exact W.alive _ _ hSt5 a q
            · exact ⟨_, q ▸ hD5⟩
          vars := fun p hp => (slot_more newX (fun _ q => .inl q) (r1.vars p hp)).keeps upto5 }
        have r5 := relC hs hcap r5' hN5 ((DenL.imp newX (fun _ _ _ e => e) _ _ hDv).keeps upto5) hb5
        have hK5 : ∀ b o, b ∉ wr → b ≠ C → b ≠ D → s₂.heap.get? b = some o → h5.get? b = some o := fun b o b1 b2 b3 e => keep5 b o b2 (hk4 b o b1 (hK b o b1 b2 b3 e))
        have hY5 : DenL (fun b => X b ∨ b ∈ wr ∨ b = D) h5 (((items.take i).filter p).map g) ys := by
          refine DenL.hold (fun b o xs' n' hx e hd => ?_) _ _ hY
          have hbC : b ≠ C := fun q => by
            subst q
            obtain ⟨oc, es, ep, ec, dc, _⟩ := hN
            rw [ec] at e; cases e
            rw [dc] at hd; cases hd
          exact keep5 b o hbC (hk4 b o (fun q => hx (.inr (.inl q))) e)
        refine wpAny_mono (hif _ (List.mem_of_getElem? hit) _ _ _ _ r5) (fun ok s6 q6 => ?_) fun _ _ e => e
        obtain ⟨⟨h6, tk6, rfl, hk6⟩, rfl⟩ := q6
        have e6 : s₂.heap.objs.size = D := hDD
        cases hp : p items[i] with
        | false =>
          simp only [Bool.false_eq_true, if_false]
          refine ⟨items.length + 1 - (i + 1), by exact ar59 hlt, h6, tk6, m5, ys, n, i + 1, rfl, W.frame _ _ _ hSt5 (fun b _ o e => hk6 b o e), hk6 _ _ hD5, hN5.keeps hk6, ?_, hlt, rfl, fun b o b1 b2 b3 e => hk6 b o (hK5 b o b1 b2 b3 e)⟩
          rw [den_take p g items i _ hit, hp]
          simpa using hY5.keeps hk6
        | true =>
          simp only [if_true]
          refine wpAny_mono (hel _ (List.mem_of_getElem? hit) hp _ _ _ _ (r5.keeps hk6)) (fun x s7 q7 => ?_) fun _ _ e => e
          obtain ⟨⟨h7, tk7, rfl, hk7⟩, Dx⟩ := q7
          have hys : ys.toArray.size ≤ sizeLine := by
            have e1 := hY.length
            have e2 : ((items.take i).filter p).length ≤ (items.take i).length := List.length_filter_le _ _
            simp only [List.length_map] at e1
            simp only [List.length_take] at e2
            simp only [List.size_toArray]
            exact ar119 e1 e2 hsz
          refine wpAny_list_append_plain (hsz := hys) ⟨n, hk7 _ _ (hk6 _ _ hD5)⟩ fun h8 hl8 hs8 => ?_
          obtain ⟨n8, g8⟩ := hl8
          have stay8 : ∀ b o, b ≠ D → h7.get? b = some o → h8.get? b = some o := fun b o hb e => hs8.extBut b o hb e
          refine ⟨items.length + 1 - (i + 1), by exact ar59 hlt, h8, tk7, m5, ys ++ [x], n8, i + 1, rfl, W.frame _ _ _ hSt5 (fun b hb o e => stay8 b o (fun q => hDf (q ▸ hb)) (hk7 _ _ (hk6 b o e))), ?_, ((hN5.keeps hk6).keeps hk7).sameBut hs8 (Ne.symm hDC), ?_, hlt, rfl, fun b o b1 b2 b3 e => stay8 b o b3 (hk7 _ _ (hk6 b o (hK5 b o b1 b2 b3 e)))⟩
          · rw [g8]; simp [lobj]
          · rw [den_take p g items i _ hit, hp]
            simp only [if_true]
            have go : Hold (fun b => X b ∨ b ∈ wr ∨ b = D) h7 h8 := fun b o _ _ hx e _ => stay8 b o (fun q => hx (.inr (.inr q))) e
            exact DenL.snoc (DenL.hold go _ _ ((hY5.keeps hk6).keeps hk7)) (Den.hold go _ _ Dx)
      · cases v with
        | none => exact hv.elim
        | some v => exact hv
    · have hie : i = items.length := Nat.le_antisymm hi (Nat.not_lt.mp hlt)
      subst hie
      refine W.done _ _ _ hSt fun h4 tk4 hk4 => ?_
      refine hRR D C h4 tk4 m' ys n (none_of_ge (by rw [hDD]; exact Nat.le_refl _)) (none_of_ge (by rw [hDD, hC]; exact Nat.le_succ _)) hDC (hN.at' fun o e => hk4 _ o hCw e) (hk4 _ _ hDw hD) ?_ fun b o hb e => ?_
      · rw [List.take_of_length_le (Nat.le_refl _)] at hY
        refine DenL.less (X := fun b => X b ∨ b ∈ wr ∨ b = D) (fun a q => .inl q) (DenL.hold (fun b o xs' n' hx e hd => hk4 b o (fun q => hx (.inr (.inl q))) e) _ _ hY)
      · have hlt2 := Heap.lt_size e
        rw [hDD] at hlt2
        exact hk4 b o hb (hK b o hb (below b hlt2).1 (below b hlt2).2 e)
  exact codeAny_compStart_list (main _ rfl) (W.self 0 _ _ _ hst₁ (main _ rfl))
end
end Mine
end

section
open PySem PyProof.Rows
set_option Elab.async false
set_option linter.unusedVariables false
namespace Mine

section
variable {prog : Program} {w : World} {G : Glo} {env : Env} {X : Addr → Prop} {GN : List (Str × NameKind)} {st : List (Str × Slot)} {A : Around}

theorem ev_comp {elt iter tgt : Expr} {ifs : List Expr} {scope : Scope} {pos : Pos} {xs : List Str} {items : List (List V)} {cap : List (Str × Slot)} (g : List V → V) (p : List V → Bool)
    (hi : EvW prog w G env X GN st A iter tgt xs items) (hsc : scopeOk scope GN xs = true) (hcap : Cap st scope.names cap) (hsz : items.length ≤ sizeLine)
    (hif : ∀ ds ∈ items, ∀ X cenv, Ifs prog w G cenv X (frees scope.names) (bnd xs ds ++ cap) A ifs (p ds))
    (hel : ∀ ds ∈ items, p ds = true → ∀ X cenv, Ev prog w G cenv X (frees scope.names) (bnd xs ds ++ cap) A elt (g ds))
    (hfs : ∀ x, foldedSetIterable iter env x = pure x := by intro _; rfl) :
    Ev prog w G env X GN st A (.ListComp elt [⟨tgt, iter, ifs, 0⟩] scope pos) (.list ((items.filter p).map g)) := by
  intro s E r
  have hs := ScopeOk.of hsc
  rw [eval_ListComp]
  refine wpAny_comprehension_free (use := none) rfl hfs (closureFor_eq fun p hp e => r.cn _ (hs.free p hp e)) hs.kind (fun x hx e => (hs.look x hx).trans (by rw [e])) ?_
  refine wpAny_mono (hi s E r) (fun x s1 q => ?_) fun _ _ e => e
  obtain ⟨K1, h₁, k1, k2, hq⟩ := q
  refine hq E _ fun I fp wr St s2 W hst hfp K2 => ?_
  refine comp_core (RR := fun acc C => compPost (model prog w) A E none _ acc C) W hst hfp k1 (fun b o e => K2.hk b o (k2 b o e)) r hs hcap hsz hif hel fun D C h' tk m' ys n hD hC hDC hN hg hY hk => ?_
  refine ⟨m', hN, fun h'' hs'' => ?_⟩
  have all : HK s.heap h'' := fun b o e => by
    have e2 := K2.hk b o (k2 b o (k1 b o e))
    refine hs''.extBut b o (fun q => ?_) (hk b o (fun q => ?_) e2)
    · subst q; rw [hC] at e2; cases e2
    · have := k1 b o e; rw [W.fresh b q] at this; cases this
  refine ⟨?_, ?_⟩
  · obtain ⟨a1, a2, rfl, _⟩ := K1
    obtain ⟨b1, b2, rfl, _⟩ := K2
    exact ⟨h'', tk, rfl, all⟩
  · simp only [Den]
    refine ⟨?_, D, ys, n, rfl, fun q => ?_, hs''.extBut _ _ hDC hg, ?_⟩
    · rw [List.length_map]; exact Nat.le_trans (List.length_filter_le _ _) hsz
    · obtain ⟨o, e⟩ := r.xo _ q
      have := K2.hk _ _ (k2 _ _ (k1 _ _ e))
      rw [hD] at this; cases this
    · refine DenL.hold (fun b o xs' n' hx e hd => hs''.extBut b o (fun q => ?_) e) _ _ hY
      subst q
      obtain ⟨oc, es, ep, ec, dc, _⟩ := hN
      rw [ec] at e; cases e
      rw [dc] at hd; cases hd
end

noncomputable def Xof (X₀ : Addr → Prop) (own : List Addr) : Addr → Prop := fun a => X₀ a ∨ a ∈ own
noncomputable def slotAddr : Slot → Option Addr
  | .own a _ => some a
  | .ownB a _ => some a
  | _ => none
noncomputable def Mutbl (d : Data) : Prop := (∃ xs n, d = .seq xs n) ∨ ∃ b n, d = .bytearray b n

structure Rel (G : Glo) (env : Env) (X₀ : Addr → Prop) (own : List Addr) (GN : List (Str × NameKind)) (kept : Addr → Option Obj) (S : Shared) (st : List (Str × Slot)) (s : Shared) : Prop where
  e : RelE G env (Xof X₀ own) GN st s.heap
  keep : ∀ b o, kept b = some o → s.heap.get? b = some o
  apart : ∀ b o, kept b = some o → b ≠ env.locals ∧ (∀ x c, env.cells.lookup x = some c → b ≠ c) ∧ b ∉ own
  ns : ∃ m, s.heap.Ns env.locals m
  cells : ∀ x c, env.cells.lookup x = some c → ∃ v, s.heap.IsCell c v
  cinj : ∀ x y c, env.cells.lookup x = some c → env.cells.lookup y = some c → x = y
  gk : ∀ h', (∀ b o, kept b = some o → h'.get? b = some o) → G.P h'
  xk : ∀ a, X₀ a → ∃ o, kept a = some o
  ownl : ∀ a ∈ own, ∃ o, s.heap.get? a = some o ∧ Mutbl o.data
  nodup : (st.map (·.1)).Nodup
  odist : ∀ p ∈ st, ∀ q ∈ st, ∀ a, slotAddr p.2 = some a → slotAddr q.2 = some a → p.1 = q.1
  oin : ∀ p ∈ st, ∀ a, slotAddr p.2 = some a → a ∈ own
  sh : ∃ h tk, s = { S with heap := h, toks := tk }

inductive Upd (x : Str) (sl : Slot) : List (Str × Slot) → List (Str × Slot) → Prop
  | here {s0 : Slot} {st : List (Str × Slot)} : Upd x sl ((x, s0) :: st) ((x, sl) :: st)
  | there {p : Str × Slot} {st st' : List (Str × Slot)} (h : Upd x sl st st') : Upd x sl (p :: st) (p :: st')
theorem Upd.names {x : Str} {sl : Slot} {st st' : List (Str × Slot)} (h : Upd x sl st st') : st'.map (·.1) = st.map (·.1) := by
  induction h with
  | here => rfl
  | there _ ih => simp [ih]
theorem Upd.mem {x : Str} {sl : Slot} {st st' : List (Str × Slot)} (h : Upd x sl st st') : (st.map (·.1)).Nodup → ∀ p ∈ st', p = (x, sl) ∨ (p ∈ st ∧ p.1 ≠ x) := by
  induction h with
  | @here s0 st =>
    intro hn p hp
    rcases List.mem_cons.mp hp with e | hp
    · exact .inl e
    · simp only [List.map_cons, List.nodup_cons] at hn
      exact .inr ⟨.tail _ hp, fun e => hn.1 (e ▸ List.mem_map.mpr ⟨p, hp, rfl⟩)⟩
  | @there q st st' h ih =>
    intro hn p hp
    simp only [List.map_cons, List.nodup_cons] at hn
    rcases List.mem_cons.mp hp with e | hp
    · subst e
      refine .inr ⟨.head _, fun e => hn.1 ?_⟩
      rw [← h.names, e]
      have : ∀ {a b : List (Str × Slot)}, Upd x sl a b → x ∈ b.map (·.1) := by
        intro a b h
        induction h with
        | here => simp
        | there _ ih => simp [ih]
      exact this h
    · rcases ih hn.2 p hp with e | ⟨a, b⟩
      · exact .inl e
      · exact .inr ⟨.tail _ a, b⟩
theorem Ns_unique {h : Heap} {a : Addr} {m m' : Str → Option Value} (x : h.Ns a m) (y : h.Ns a m') : m = m' := by
  obtain ⟨o, es, ep, ho, hd, _, hm⟩ := x
  obtain ⟨o', es', ep', ho', hd', _, hm'⟩ := y
  rw [ho] at ho'; cases ho'
  rw [hd] at hd'; cases hd'
  funext n
  rw [← hm, ← hm']

section
variable {prog : Program} {w : World} {G : Glo} {env : Env} {X₀ : Addr → Prop} {own : List Addr} {GN : List (Str × NameKind)} {kept : Addr → Option Obj} {S : Shared} {st st' : List (Str × Slot)} {A : Around} {E : Value → Shared → Prop} {s : Shared}

theorem Rel.kp {s' : Shared} (R : Rel G env X₀ own GN kept S st s) (k : Kp s s') : Rel G env X₀ own GN kept S st s' := by
  obtain ⟨h', tk, rfl, hk⟩ := k
  exact ⟨R.e.keeps hk, fun b o e => hk b o (R.keep b o e), R.apart, let ⟨m, hm⟩ := R.ns; ⟨m, hm.keeps hk⟩, fun x c e => let ⟨v, hv⟩ := R.cells x c e; ⟨v, hv.keeps hk⟩, R.cinj, R.gk, R.xk,
    fun a ha => let ⟨o, e, m⟩ := R.ownl a ha; ⟨o, hk _ _ e, m⟩, R.nodup, R.odist, R.oin, by obtain ⟨a, b, rfl⟩ := R.sh; exact ⟨_, _, rfl⟩⟩

theorem slot_ext {X : Addr → Prop} {h h' : Heap} {a : Addr} {y : Str} (hE : Heap.ExtBut a h h') (hA : X a ∨ ∀ o xs n, h.get? a = some o → o.data ≠ .seq xs n) (hv : ∀ v, VarIs env h y v → VarIs env h' y v) :
    ∀ {sl : Slot}, (∀ b, slotAddr sl = some b → b ≠ a) → SlotIs env X h y sl → SlotIs env X h' y sl := by
  have hold : Hold X h h' := fun b o xs n hx e hd => hE b o (fun q => by
    subst q
    rcases hA with q | q
    · exact hx q
    · exact q o xs n e hd) e
  intro sl ho hs
  cases sl with
  | un => exact hs
  | val d => obtain ⟨v, a1, a2⟩ := hs; exact ⟨v, hv v a1, Den.hold hold _ _ a2⟩
  | own b ds => obtain ⟨p, q, r, vs, n, g, d⟩ := hs; exact ⟨hv _ p, q, r, vs, n, hE _ _ (ho b rfl) g, DenL.hold hold _ _ d⟩
  | ownB b bs => obtain ⟨p, q, r, g⟩ := hs; exact ⟨hv _ p, q, r, hE _ _ (ho b rfl) g⟩

theorem VarIs.ext {h h' : Heap} {a : Addr} {y : Str} {v : Value} (hE : Heap.ExtBut a h h') (hL : a ≠ env.locals) (hc : ∀ c, env.cells.lookup y = some c → a ≠ c) (x : VarIs env h y v) : VarIs env h' y v := by
  rcases x with ⟨k, m, hn, hm⟩ | ⟨k, c, h1, o, ho, hd⟩
  · exact .inl ⟨k, m, hn.extBut hE (Ne.symm hL), hm⟩
  · exact .inr ⟨k, c, h1, o, hE _ _ (Ne.symm (hc c h1)) ho, hd⟩

theorem Rel.storeG {x : Str} {k : NameKind} {sl : Slot} {v : Value} {Q : Unit → Shared → Prop} (R : Rel G env X₀ own GN kept S st s) (hk : (x, k) ∈ GN) (hk' : k = .local ∨ k = .cell) (hU : Upd x sl st st')
    (hsl : ∀ (h' : Heap) (a : Addr), Heap.ExtBut a s.heap h' → (∀ o, s.heap.get? a = some o → ¬ Mutbl o.data) → VarIs env h' x v → SlotIs env (Xof X₀ own) h' x sl) (hso : ∀ a, slotAddr sl = some a → a ∈ own ∧ ∀ p ∈ st, p.1 ≠ x → slotAddr p.2 ≠ some a)
    (h : ∀ h' tk a, Rel G env X₀ own GN kept S st' { s with heap := h', toks := tk } → Heap.ExtBut a s.heap h' → (a = env.locals ∨ ∃ y, env.cells.lookup y = some a) → Q () { s with heap := h', toks := tk }) : wpAny (model prog w) A (storeName env x v) Q E s := by
  obtain ⟨m, hn⟩ := R.ns
  have hkind : env.kindOf x = some k := R.e.gn _ hk
  have ownne : ∀ a ∈ own, ∀ o, s.heap.get? a = some o → Mutbl o.data := fun a ha o e => by
    obtain ⟨o', e', q⟩ := R.ownl a ha
    rw [e] at e'; cases e'; exact q
  have nd' : (Str.ofString "__debug__") ∉ GN.map (·.1) ∧ (Str.ofString "__debug__") ∉ st'.map (·.1) := by rw [hU.names]; exact R.e.nd
  have od' : ∀ p ∈ st', ∀ q ∈ st', ∀ a, slotAddr p.2 = some a → slotAddr q.2 = some a → p.1 = q.1 := fun p hp q hq a e1 e2 => by
    rcases hU.mem R.nodup p hp with rfl | ⟨p1, p2⟩
    · rcases hU.mem R.nodup q hq with rfl | ⟨q1, q2⟩
      · rfl
      · exact absurd e2 ((hso a e1).2 q q1 q2)
    · rcases hU.mem R.nodup q hq with rfl | ⟨q1, _⟩
      · exact absurd e1 ((hso a e2).2 p p1 p2)
      · exact R.odist p p1 q q1 a e1 e2
  have oi' : ∀ p ∈ st', ∀ a, slotAddr p.2 = some a → a ∈ own := fun p hp a e1 => by
    rcases hU.mem R.nodup p hp with rfl | ⟨p1, _⟩
    · exact (hso a e1).1
    · exact R.oin p p1 a e1
  have build : ∀ (h' : Heap) (tk : Nat) (a : Addr), Heap.ExtBut a s.heap h' → (∀ o, s.heap.get? a = some o → ¬ Mutbl o.data) → (a = env.locals ∨ ∃ y, env.cells.lookup y = some a) → (∃ m, h'.Ns env.locals m) → (∀ y c, env.cells.lookup y = some c → ∃ v, h'.IsCell c v) →
      VarIs env h' x v → (∀ y u, y ≠ x → VarIs env s.heap y u → VarIs env h' y u) → Rel G env X₀ own GN kept S st' { s with heap := h', toks := tk } := by
    intro h' tk a hE hM hA hns hcl hvx hvy
    have kp' : ∀ b o, kept b = some o → h'.get? b = some o := fun b o e => hE b o (by
      have q := R.apart b o e
      rcases hA with rfl | ⟨y, hy⟩
      · exact q.1
      · exact q.2.1 y a hy) (R.keep b o e)
    have own' : ∀ b ∈ own, ∃ o, h'.get? b = some o ∧ Mutbl o.data := fun b hb => by
      obtain ⟨o, e, q⟩ := R.ownl b hb
      exact ⟨o, hE _ _ (fun z => by subst z; exact hM o e q) e, q⟩
    have nseq : ∀ o xs n, s.heap.get? a = some o → o.data ≠ .seq xs n := fun o xs n e q => hM o e (.inl ⟨_, _, q⟩)
    refine ⟨⟨R.gk h' kp', R.e.kd, R.e.gl, R.e.bl, R.e.gn, R.e.cn, nd', fun b hb => ?_, fun p hp => ?_⟩, kp', R.apart, hns, hcl, R.cinj, R.gk, R.xk, own', by rw [hU.names]; exact R.nodup, od', oi', by obtain ⟨a, b, rfl⟩ := R.sh; exact ⟨_, _, rfl⟩⟩
    · rcases hb with hb | hb
      · obtain ⟨o, e⟩ := R.xk b hb; exact ⟨o, kp' b o e⟩
      · obtain ⟨o, e, _⟩ := own' b hb; exact ⟨o, e⟩
    · rcases hU.mem R.nodup p hp with rfl | ⟨hp1, hp2⟩
      · exact hsl h' a hE hM hvx
      · refine slot_ext hE (.inr nseq) (fun u hu => hvy _ u hp2 hu) (fun b hb z => ?_) (R.e.vars p hp1)
        subst z
        have q := R.e.vars p hp1
        cases hsl : p.2 with
        | own b ds => rw [hsl] at hb q; cases hb; obtain ⟨_, _, _, vs, n, g, _⟩ := q; exact hM _ g (.inl ⟨_, _, rfl⟩)
        | ownB b bs => rw [hsl] at hb q; cases hb; obtain ⟨_, _, _, g⟩ := q; exact hM _ g (.inr ⟨_, _, rfl⟩)
        | _ => rw [hsl] at hb; cases hb
  rcases hk' with rfl | rfl
  · refine wpAny_storeName_local hkind hn (fun h' hn' hs' => h _ _ env.locals ?_ hs'.extBut (.inl rfl)) (by rw [R.e.kd]; rfl)
    have hdict : ∀ o, s.heap.get? env.locals = some o → ¬ Mutbl o.data := fun o e q => by
      obtain ⟨o', es, ep, e', hd, _⟩ := hn
      rw [e] at e'; cases e'
      rw [hd] at q
      rcases q with ⟨_, _, q⟩ | ⟨_, _, q⟩ <;> cases q
    have cellne : ∀ y c, env.cells.lookup y = some c → c ≠ env.locals := fun y c e z => by
      subst z
      obtain ⟨u, o, e1, e2⟩ := R.cells y _ e
      obtain ⟨o', es, ep, e', hd, _⟩ := hn
      rw [e1] at e'; cases e'
      rw [hd] at e2; cases e2
    refine build h' _ env.locals hs'.extBut hdict (.inl rfl) ⟨_, hn'⟩ (fun y c e => ?_) (.inl ⟨hkind, _, hn', by simp⟩) fun y u hy hu => ?_
    · obtain ⟨u, hu⟩ := R.cells y c e
      exact ⟨u, hu.sameBut hs' (cellne y c e)⟩
    · rcases hu with ⟨k, m', hm', e⟩ | ⟨k, c, e1, hc⟩
      · refine .inl ⟨k, _, hn', ?_⟩
        rw [Ns_unique hm' hn] at e
        simpa [hy] using e
      · exact .inr ⟨k, c, e1, hc.sameBut hs' (cellne y c e1)⟩
  · obtain ⟨c, hc⟩ := R.e.cn x hk
    obtain ⟨v₀, hv₀⟩ := R.cells x c hc
    refine wpAny_storeName_cell R.e.kd hkind hc hv₀ fun h' hv' hs' => h _ s.toks c ?_ hs'.extBut (.inr ⟨x, hc⟩)
    have hcell : ∀ o, s.heap.get? c = some o → ¬ Mutbl o.data := fun o e q => by
      obtain ⟨o', e', hd⟩ := hv₀
      rw [e] at e'; cases e'
      rw [hd] at q
      rcases q with ⟨_, _, q⟩ | ⟨_, _, q⟩ <;> cases q
    have lne : env.locals ≠ c := fun z => by
      subst z
      obtain ⟨o, e1, e2⟩ := hv₀
      obtain ⟨o', es, ep, e', hd, _⟩ := hn
      rw [e1] at e'; cases e'
      rw [hd] at e2; cases e2
    refine build h' s.toks c hs'.extBut hcell (.inr ⟨x, hc⟩) ⟨m, hn.sameBut hs' lne⟩ (fun y c' e => ?_) (.inr ⟨hkind, c, hc, hv'⟩) fun y u hy hu => ?_
    · by_cases z : c' = c
      · subst z; exact ⟨_, hv'⟩
      · obtain ⟨u, hu⟩ := R.cells y c' e
        exact ⟨u, hu.sameBut hs' z⟩
    · refine VarIs.ext hs'.extBut (Ne.symm lne) (fun c' e z => ?_) hu
      subst z
      exact hy (R.cinj _ _ _ e hc)
theorem Rel.store {x : Str} {k : NameKind} {d : V} {v : Value} {Q : Unit → Shared → Prop} (R : Rel G env X₀ own GN kept S st s) (hk : (x, k) ∈ GN) (hk' : k = .local ∨ k = .cell) (hU : Upd x (.val d) st st') (hD : Den (Xof X₀ own) s.heap d v)
    (h : ∀ h' tk a, Rel G env X₀ own GN kept S st' { s with heap := h', toks := tk } → Heap.ExtBut a s.heap h' → (a = env.locals ∨ ∃ y, env.cells.lookup y = some a) → Q () { s with heap := h', toks := tk }) : wpAny (model prog w) A (storeName env x v) Q E s :=
  R.storeG hk hk' hU (fun h' a hE hM hv => ⟨v, hv, Den.hold (fun b o xs n hx e hd => hE b o (fun z => by subst z; exact hM o e (.inl ⟨_, _, hd⟩)) e) _ _ hD⟩) (fun a e => nomatch e) h
end
end Mine
end

section
open PySem PyProof.Rows
set_option Elab.async false
set_option linter.unusedVariables false
namespace Mine

section
variable {prog : Program} {w : World} {G : Glo} {env : Env} {X₀ : Addr → Prop} {own : List Addr} {GN : List (Str × NameKind)} {kept : Addr → Option Obj} {S : Shared} {st st' : List (Str × Slot)} {A : Around} {E : Value → Shared → Prop} {s : Shared}
  {rest : List Stmt} {Q : Flow → Shared → Prop}

theorem st_nil (h : Q .next s) : wpAny (model prog w) A (execs [] env) Q E s := wpAny_execs_nil h

theorem st_assign {x : Str} {px pos : Pos} {value : Expr} {d : V} {k : NameKind} (hE : Ev prog w G env (Xof X₀ own) GN st A value d) (hU : Upd x (.val d) st st') (hk : (x, k) ∈ GN) (hk' : k = .local ∨ k = .cell)
    (hsw : swapsWith value (some (.Name x px)) pos.line env = pure false) (R : Rel G env X₀ own GN kept S st s) (h : ∀ s', Rel G env X₀ own GN kept S st' s' → wpAny (model prog w) A (execs rest env) Q E s') :
    wpAny (model prog w) A (execs (.Assign [.Name x px] value pos :: rest) env) Q E s := by
  refine wpAny_execs_cons (wpAny_Assign_Name (wpAny_mono (hE s E R.e) (fun v s1 q => ?_) fun _ _ e => e) hsw)
  obtain ⟨k1, D⟩ := q
  exact (R.kp k1).store hk hk' hU D fun h' tk a R' _ _ => h _ R'

theorem st_ret {e : Expr} {pos : Pos} {d : V} (hE : Ev prog w G env (Xof X₀ own) GN st A e d) (R : Rel G env X₀ own GN kept S st s) (h : ∀ v s', Rel G env X₀ own GN kept S st s' → Den (Xof X₀ own) s'.heap d v → Q (.ret v) s') :
    wpAny (model prog w) A (execs (.Return (some e) pos :: rest) env) Q E s := by
  refine wpAny_execs_cons (wpAny_Return_some (wpAny_mono (hE s E R.e) (fun v s1 q => ?_) fun _ _ e => e))
  obtain ⟨k1, D⟩ := q
  exact h v s1 (R.kp k1) D

theorem st_if {t : Expr} {body orelse : List Stmt} {pos : Pos} {b : Bool} (ht : Tst prog w G env (Xof X₀ own) GN st A t b) (R : Rel G env X₀ own GN kept S st s)
    (h1 : b = true → ∀ s', Rel G env X₀ own GN kept S st s' → wpAny (model prog w) A (execs body env) (fun f s' => match f with | .next => wpAny (model prog w) A (execs rest env) Q E s' | f => Q f s') E s')
    (h2 : b = false → ∀ s', Rel G env X₀ own GN kept S st s' → wpAny (model prog w) A (execs orelse env) (fun f s' => match f with | .next => wpAny (model prog w) A (execs rest env) Q E s' | f => Q f s') E s') :
    wpAny (model prog w) A (execs (.If t body orelse pos :: rest) env) Q E s := by
  refine wpAny_execs_cons (wpAny_If (wpAny_mono (ht s E R.e) (fun v s1 q => ?_) fun _ _ e => e))
  obtain ⟨k1, rfl⟩ := q
  cases v with
  | true => exact h1 rfl s1 (R.kp k1)
  | false => exact h2 rfl s1 (R.kp k1)

inductive Wkn : List (Str × Slot) → List (Str × Slot) → Prop
  | nil : Wkn [] []
  | same {p : Str × Slot} {a b : List (Str × Slot)} (h : Wkn a b) : Wkn (p :: a) (p :: b)
  | drop {x : Str} {sl : Slot} {a b : List (Str × Slot)} (h : Wkn a b) : Wkn ((x, sl) :: a) ((x, .un) :: b)
theorem Wkn.refl : ∀ a, Wkn a a
  | [] => .nil
  | _ :: a => .same (Wkn.refl a)
theorem Wkn.names {a b : List (Str × Slot)} (h : Wkn a b) : b.map (·.1) = a.map (·.1) := by
  induction h with
  | nil => rfl
  | same _ ih => simp [ih]
  | drop _ ih => simp [ih]
theorem Wkn.mem {a b : List (Str × Slot)} (h : Wkn a b) : ∀ p ∈ b, p ∈ a ∨ p.2 = .un := by
  induction h with
  | nil => intro p hp; cases hp
  | same _ ih =>
    intro p hp
    rcases List.mem_cons.mp hp with rfl | hp
    · exact .inl (.head _)
    · exact (ih p hp).imp (.tail _) id
  | drop _ ih =>
    intro p hp
    rcases List.mem_cons.mp hp with rfl | hp
    · exact .inr rfl
    · exact (ih p hp).imp (.tail _) id
theorem Rel.weaken (R : Rel G env X₀ own GN kept S st s) (h : Wkn st st') : Rel G env X₀ own GN kept S st' s :=
  ⟨⟨R.e.g, R.e.kd, R.e.gl, R.e.bl, R.e.gn, R.e.cn, (by rw [h.names]; exact R.e.nd), R.e.xo, fun p hp => (by
      rcases h.mem p hp with q | q
      · exact R.e.vars p q
      · rw [q]; trivial)⟩, R.keep, R.apart, R.ns, R.cells, R.cinj, R.gk, R.xk, R.ownl, (by rw [h.names]; exact R.nodup), (fun p hp q hq a e1 e2 => by
      rcases h.mem p hp with p1 | p1
      · rcases h.mem q hq with q1 | q1
        · exact R.odist p p1 q q1 a e1 e2
        · rw [q1] at e2; cases e2
      · rw [p1] at e1; cases e1), (fun p hp a e1 => by
      rcases h.mem p hp with p1 | p1
      · exact R.oin p p1 a e1
      · rw [p1] at e1; cases e1), R.sh⟩

inductive UpdAll : List Str → List V → List (Str × Slot) → List (Str × Slot) → Prop
  | nil {st : List (Str × Slot)} : UpdAll [] [] st st
  | cons {x : Str} {xs : List Str} {d : V} {ds : List V} {a b c : List (Str × Slot)} (h1 : Upd x (.val d) a b) (h2 : UpdAll xs ds b c) : UpdAll (x :: xs) (d :: ds) a c

theorem Rel.bindAll {xs : List Str} {ds : List V} {st st' : List (Str × Slot)} (hU : UpdAll xs ds st st') : ∀ {vals : List Value} {s : Shared} {Q : Unit → Shared → Prop}, (∀ x ∈ xs, (x, NameKind.local) ∈ GN ∨ (x, NameKind.cell) ∈ GN) → Rel G env X₀ own GN kept S st s → DenL (Xof X₀ own) s.heap ds vals →
    (∀ s', Rel G env X₀ own GN kept S st' s' → (∀ b o, b ≠ env.locals → (∀ y, env.cells.lookup y ≠ some b) → s.heap.get? b = some o → s'.heap.get? b = some o) → Q () s') → BindAll (model prog w) A env xs vals Q E s := by
  induction hU with
  | nil =>
    intro vals s Q _ R _ h
    simp only [BindAll]
    exact h s R fun _ _ _ _ e => e
  | @cons x xs d ds a b c h1 h2 ih =>
    intro vals s Q hk R hD h
    simp only [DenL] at hD
    obtain ⟨v, vs, rfl, D1, D2⟩ := hD
    have hx : ∃ k, (x, k) ∈ GN ∧ (k = .local ∨ k = .cell) := (hk x (.head _)).elim (fun q => ⟨_, q, .inl rfl⟩) fun q => ⟨_, q, .inr rfl⟩
    obtain ⟨k, hk1, hk2⟩ := hx
    obtain ⟨m, hn⟩ := R.ns
    simp only [BindAll]
    refine R.store hk1 hk2 h1 D1 fun h' tk a R' hE hA => ?_
    refine ih (fun y hy => hk y (.tail _ hy)) R' (DenL.hold (fun b o xs' n hx e hd => hE b o (fun z => ?_) e) _ _ D2) fun s' R'' hk' => h s' R'' fun b o b1 b2 e => hk' b o b1 b2 (hE b o (fun z => ?_) e)
    · subst z
      rcases hA with rfl | ⟨y, hy⟩
      · obtain ⟨o', es, ep, e', hd', _⟩ := hn
        rw [e] at e'; cases e'
        rw [hd] at hd'; cases hd'
      · obtain ⟨u, o', e', hd'⟩ := R.cells y b hy
        rw [e] at e'; cases e'
        rw [hd] at hd'; cases hd'
    · subst z
      rcases hA with rfl | ⟨y, hy⟩
      · exact b1 rfl
      · exact b2 y hy

theorem Rel.move {X₁ X₂ : Addr → Prop} {kept₁ kept₂ : Addr → Option Obj} {h' : Heap} {wr : List Addr} (tk : Nat) (R : Rel G env X₁ own GN kept₁ S st s) (hX1 : ∀ b ∈ wr, X₁ b) (hb : ∀ b o, b ∉ wr → s.heap.get? b = some o → h'.get? b = some o)
    (hne : ∀ b ∈ wr, b ≠ env.locals ∧ (∀ x c, env.cells.lookup x = some c → b ≠ c) ∧ b ∉ own) (hle : ∀ a, X₂ a → X₁ a)
    (hk2 : ∀ b o, kept₂ b = some o → h'.get? b = some o ∧ b ≠ env.locals ∧ (∀ x c, env.cells.lookup x = some c → b ≠ c) ∧ b ∉ own)
    (hg2 : ∀ h'', (∀ b o, kept₂ b = some o → h''.get? b = some o) → G.P h'') (hx2 : ∀ a, X₂ a → ∃ o, kept₂ a = some o) : Rel G env X₂ own GN kept₂ S st { s with heap := h', toks := tk } := by
  have lne : env.locals ∉ wr := fun q => (hne _ q).1 rfl
  have cne : ∀ y c, env.cells.lookup y = some c → c ∉ wr := fun y c e q => (hne _ q).2.1 y c e rfl
  have one : ∀ a ∈ own, a ∉ wr := fun a ha q => (hne _ q).2.2 ha
  have hold : Hold (Xof X₁ own) s.heap h' := fun b o xs n hx e hd => hb b o (fun q => hx (.inl (hX1 b q))) e
  have hxle : ∀ a, Xof X₂ own a → Xof X₁ own a := fun a q => q.imp (hle a) id
  refine ⟨⟨hg2 h' fun b o e => (hk2 b o e).1, R.e.kd, R.e.gl, R.e.bl, R.e.gn, R.e.cn, R.e.nd, fun a ha => ?_, fun p hp => ?_⟩, fun b o e => (hk2 b o e).1, fun b o e => (hk2 b o e).2, ?_, fun x c e => ?_, R.cinj, hg2, hx2, fun a ha => ?_, R.nodup, R.odist, R.oin, ?_⟩
  · rcases ha with ha | ha
    · obtain ⟨o, e⟩ := hx2 a ha; exact ⟨o, (hk2 a o e).1⟩
    · obtain ⟨o, e, _⟩ := R.ownl a ha; exact ⟨o, hb _ _ (one a ha) e⟩
  · have q := R.e.vars p hp
    have var : ∀ v, VarIs env s.heap p.1 v → VarIs env h' p.1 v := fun v x => by
      rcases x with ⟨k, m, hn, hm⟩ | ⟨k, c, h1, o, ho, hd⟩
      · exact .inl ⟨k, m, hn.at' fun o e => hb _ o lne e, hm⟩
      · exact .inr ⟨k, c, h1, o, hb _ _ (cne _ _ h1) ho, hd⟩
    cases hsl : p.2 with
    | un => trivial
    | val d => rw [hsl] at q; obtain ⟨v, a1, a2⟩ := q; exact ⟨v, var v a1, (Den.hold hold _ _ a2).less hxle⟩
    | own b ds =>
      rw [hsl] at q
      obtain ⟨p1, q1, r, vs, n, g, d⟩ := q
      have hbo : b ∈ own := R.oin p hp b (by rw [hsl]; rfl)
      exact ⟨var _ p1, .inr hbo, r, vs, n, hb _ _ (one b hbo) g, (DenL.hold hold _ _ d).less hxle⟩
    | ownB b bs =>
      rw [hsl] at q
      obtain ⟨p1, q1, r, g⟩ := q
      have hbo : b ∈ own := R.oin p hp b (by rw [hsl]; rfl)
      exact ⟨var _ p1, .inr hbo, r, hb _ _ (one b hbo) g⟩
  · obtain ⟨m, hn⟩ := R.ns; exact ⟨m, hn.at' fun o e => hb _ o lne e⟩
  · obtain ⟨v, o, ho, hd⟩ := R.cells x c e; exact ⟨v, o, hb _ _ (cne _ _ e) ho, hd⟩
  · obtain ⟨o, e, q⟩ := R.ownl a ha; exact ⟨o, hb _ _ (one a ha) e, q⟩
  · obtain ⟨a, b, rfl⟩ := R.sh; exact ⟨_, _, rfl⟩

noncomputable def Mt (env : Env) (own : List Addr) (b : Addr) : Prop := b = env.locals ∨ (∃ y, env.cells.lookup y = some b) ∨ b ∈ own
theorem apart_of {b : Addr} (h : ¬ Mt env own b) : b ≠ env.locals ∧ (∀ x c, env.cells.lookup x = some c → b ≠ c) ∧ b ∉ own :=
  ⟨fun e => h (.inl e), fun x c e q => h (.inr (.inl ⟨x, q ▸ e⟩)), fun e => h (.inr (.inr e))⟩
theorem not_Mt {b : Addr} (h : b ≠ env.locals ∧ (∀ x c, env.cells.lookup x = some c → b ≠ c) ∧ b ∉ own) : ¬ Mt env own b := fun q => by
  rcases q with q | ⟨y, q⟩ | q
  · exact h.1 q
  · exact h.2.1 y b q rfl
  · exact h.2.2 q

open Classical in
theorem st_for {σ : Type} {tgt iter : Expr} {body : List Stmt} {pos : Pos} {xs : List Str} {items : List (List V)} (stL : σ → List (Str × Slot)) (stB : List V → σ → List (Str × Slot)) (P : Nat → σ → Prop) (c₀ : σ)
    (hW : EvW prog w G env (Xof X₀ own) GN st A iter tgt xs items) (hU : ∀ ds ∈ items, ∀ c, UpdAll xs ds (stL c) (stB ds c)) (hk : ∀ x ∈ xs, (x, NameKind.local) ∈ GN ∨ (x, NameKind.cell) ∈ GN) (hw : Wkn st (stL c₀)) (h0 : P 0 c₀)
    (R : Rel G env X₀ own GN kept S st s)
    (hbody : ∀ i ds c X₁ kept' s' (E' : Value → Shared → Prop), items[i]? = some ds → P i c → (∀ a, X₀ a → X₁ a) → (∀ b o, kept b = some o → kept' b = some o) → Rel G env X₁ own GN kept' S (stB ds c) s' →
      wpAny (model prog w) A (execs body env) (fun f s₂ => match f with
        | .next | .cont => ∃ c' st2, P (i + 1) c' ∧ Rel G env X₁ own GN kept' S st2 s₂ ∧ Wkn st2 (stL c')
        | .brk => False
        | .ret v => Q (.ret v) s₂) E' s')
    (hdone : ∀ c s', P items.length c → Rel G env X₀ own GN kept S (stL c) s' → wpAny (model prog w) A (execs rest env) Q E s')
    (hfs : ∀ x, foldedSetIterable iter env x = pure x := by intro _; rfl) :
    wpAny (model prog w) A (execs (.For tgt iter body [] pos :: rest) env) Q E s := by
  refine wpAny_execs_cons (wpAny_For (wpAny_mono (hW s E R.e) (fun x s1 q => ?_) fun _ _ e => e) hfs)
  obtain ⟨K1, h₁, k1, k2, hq⟩ := q
  refine hq E _ fun I fp wr St s2 W hst hfp K2 => ?_
  have R2 := ((R.kp K1).kp K2).weaken hw
  have k2' : HK h₁ s2.heap := fun b o e => K2.hk b o (k2 b o e)
  have mtin : ∀ b, Mt env own b → ∃ o, s.heap.get? b = some o ∧ ((∃ xs n, o.data = .seq xs n) → b ∈ own) := fun b hm => by
    rcases hm with rfl | ⟨y, hy⟩ | hm
    · obtain ⟨m, o, es, ep, e, hd, _⟩ := R.ns
      exact ⟨o, e, fun ⟨_, _, q⟩ => by rw [hd] at q; cases q⟩
    · obtain ⟨v, o, e, hd⟩ := R.cells y b hy
      exact ⟨o, e, fun ⟨_, _, q⟩ => by rw [hd] at q; cases q⟩
    · obtain ⟨o, e, _⟩ := R.ownl b hm
      exact ⟨o, e, fun _ => hm⟩
  have fpm : ∀ b ∈ fp, ¬ Mt env own b := fun b hb hm => by
    obtain ⟨o, e, hseq⟩ := mtin b hm
    have e1 := k1 b o e
    rcases W.foot b hb with q | ⟨hX, o', xs', n, e', hd⟩
    · rw [e1] at q; cases q
    · rw [e1] at e'; cases e'
      exact hX (.inr (hseq ⟨_, _, hd⟩))
  have wrm : ∀ b ∈ wr, ¬ Mt env own b := fun b hb => fpm b (W.sub b hb)
  have freshm : ∀ b o, kept b = some o → b ∉ wr := fun b o q hb => by
    have := k1 b o (R.keep b o q)
    rw [W.fresh b hb] at this; cases this
  have newX : ∀ a o, ((X₀ a ∨ a ∈ wr) ∨ a ∈ own) → s.heap.get? a = some o → X₀ a ∨ a ∈ own := fun a o q e => by
    rcases q with (q | q) | q
    · exact .inl q
    · have := k1 _ _ e; rw [W.fresh a q] at this; cases this
    · exact .inr q
  -- the loop's own view: what the iterator writes stands apart
  let X₁ : Addr → Prop := fun a => X₀ a ∨ a ∈ wr
  let keptW : Heap → Addr → Option Obj := fun h b => if b ∈ wr then h.get? b else kept b
  have keptW_old : ∀ h b o, kept b = some o → keptW h b = some o := fun h b o e => by
    show (if b ∈ wr then h.get? b else kept b) = some o
    rw [if_neg (freshm b o e)]; exact e
  have gW : ∀ h h'', (∀ b o, keptW h b = some o → h''.get? b = some o) → G.P h'' := fun h h'' q => R.gk h'' fun b o e => q b o (keptW_old h b o e)
  have xW : ∀ h, (∀ b ∈ wr, ∃ o, h.get? b = some o) → ∀ a, X₁ a → ∃ o, keptW h a = some o := fun h ha a q => by
    rcases q with q | q
    · obtain ⟨o, e⟩ := R.xk a q; exact ⟨o, keptW_old h a o e⟩
    · obtain ⟨o, e⟩ := ha a q
      exact ⟨o, by show (if a ∈ wr then h.get? a else kept a) = some o; rw [if_pos q]; exact e⟩
  have kW : ∀ h, (∀ b o, kept b = some o → h.get? b = some o) → ∀ b o, keptW h b = some o → h.get? b = some o ∧ b ≠ env.locals ∧ (∀ x c, env.cells.lookup x = some c → b ≠ c) ∧ b ∉ own := fun h hk b o e => by
    by_cases hb : b ∈ wr
    · have e' : (if b ∈ wr then h.get? b else kept b) = some o := e
      rw [if_pos hb] at e'
      exact ⟨e', apart_of (wrm b hb)⟩
    · have e' : (if b ∈ wr then h.get? b else kept b) = some o := e
      rw [if_neg hb] at e'
      exact ⟨hk b o e', R.apart b o e'⟩
  have R0 : Rel G env X₁ own GN (keptW s2.heap) S (stL c₀) s2 := by
    have Rb : Rel G env X₁ own GN (keptW s2.heap) S st s2 := by
      have Ra := (R.kp K1).kp K2
      refine ⟨⟨Ra.e.g, R.e.kd, R.e.gl, R.e.bl, R.e.gn, R.e.cn, R.e.nd, fun a ha => ?_, fun p hp => ?_⟩, fun b o e => (kW _ Ra.keep b o e).1, fun b o e => (kW _ Ra.keep b o e).2, Ra.ns, Ra.cells, R.cinj, gW _, xW _ (W.alive _ _ hst), Ra.ownl, R.nodup, R.odist, R.oin, Ra.sh⟩
      · rcases ha with (ha | ha) | ha
        · exact Ra.e.xo a (.inl ha)
        · exact W.alive _ _ hst a ha
        · exact Ra.e.xo a (.inr ha)
      · exact (slot_more newX (fun a q => q.imp (fun z => Or.inl z) id) (R.e.vars p hp)).keeps (fun b o e => K2.hk b o (K1.hk b o e))
    exact Rb.weaken hw
  refine codeAny_forLoop_any (fun k s' => ∃ i c, i ≤ items.length ∧ k = items.length + 1 - i ∧ P i c ∧ Rel G env X₁ own GN (keptW s'.heap) S (stL c) s' ∧ St i s'.heap ∧ (∀ b o, ¬ Mt env own b → h₁.get? b = some o → s'.heap.get? b = some o)) ?_ (items.length + 1)
    ⟨0, c₀, Nat.zero_le _, rfl, h0, R0, hst, fun b o _ e => k2' b o e⟩
  rintro k s' ⟨i, c, hi, rfl, hP, R', hSt, hK⟩
  have holdK : Hold (Xof X₀ own) h₁ s'.heap := fun b o xs' n hx e hd => by
    refine hK b o (fun hm => ?_) e
    obtain ⟨o', e', hs'⟩ := mtin b hm
    rw [k1 _ _ e'] at e; cases e
    exact hx (.inr (hs' ⟨_, _, hd⟩))
  by_cases hlt : i < items.length
  · have hit : items[i]? = some items[i] := List.getElem?_eq_getElem hlt
    refine wpAny_mono (W.item i items[i] s' env _ hit hSt holdK (Q := fun _ s₂ => wpAny (model prog w) A (execs body env) (fun f s₃ => match f with
          | .next | .cont => ∃ m, m < items.length + 1 - i ∧ ∃ j c, j ≤ items.length ∧ m = items.length + 1 - j ∧ P j c ∧ Rel G env X₁ own GN (keptW s₃.heap) S (stL c) s₃ ∧ St j s₃.heap ∧ (∀ b o, ¬ Mt env own b → h₁.get? b = some o → s₃.heap.get? b = some o)
          | .brk => wpAny (model prog w) A (execs rest env) Q E s₃
          | .ret v => Q (.ret v) s₃) (notedBy (model prog w) A env fun e s' => cameBackBy (model prog w) A env E e s') s₂) ?_) (fun v s₁ hv => ?_) fun _ _ e => e
    · intro vals h4 tk4 hDv hlen hSt4 hk4
      have keep4 : ∀ b o, kept b = some o → h4.get? b = some o := fun b o e => hk4 b o (freshm b o e) (R'.keep b o (keptW_old _ b o e))
      have R4 : Rel G env X₁ own GN (keptW h4) S (stL c) { s' with heap := h4, toks := tk4 } :=
        R'.move tk4 (fun b hb => .inr hb) hk4 (fun b hb => apart_of (wrm b hb)) (fun a q => q) (kW h4 keep4) (gW h4) (xW h4 (W.alive _ _ hSt4))
      have hK4 : ∀ b o, ¬ Mt env own b → h₁.get? b = some o → h4.get? b = some o := fun b o hm e => hk4 b o (fun q => by rw [W.fresh b q] at e; cases e) (hK b o hm e)
      have hD4 : DenL (Xof X₁ own) h4 items[i] vals := by
        have hD1 : DenL (Xof X₁ own) h₁ items[i] vals := DenL.imp (fun a o q e => by
          rcases q with (q | q) | q
          · exact .inl q
          · rw [W.fresh a q] at e; cases e
          · exact .inr q) (fun _ _ _ e => e) _ _ hDv
        refine DenL.hold (fun b o xs' n hx e hd => hK4 b o (fun hm => ?_) e) _ _ hD1
        obtain ⟨o', e', hs'⟩ := mtin b hm
        rw [k1 _ _ e'] at e; cases e
        exact hx (.inr (hs' ⟨_, _, hd⟩))
      refine Rel.bindAll (hU _ (List.mem_of_getElem? hit) c) hk R4 hD4 fun s5 R5 hk5 => ?_
      have hk5' : ∀ b o, ¬ Mt env own b → h4.get? b = some o → s5.heap.get? b = some o := fun b o hm e => hk5 b o (apart_of hm).1 (fun y q => (apart_of hm).2.1 y b q rfl) e
      have hSt5 : St (i + 1) s5.heap := W.frame _ _ _ hSt4 fun b hb o e => hk5' b o (fpm b hb) e
      -- all that the frame does not write
      let keptB : Addr → Option Obj := fun b => if Mt env own b then none else s5.heap.get? b
      have kB : ∀ b o, ¬ Mt env own b → s5.heap.get? b = some o → keptB b = some o := fun b o hm e => by
        show (if Mt env own b then none else s5.heap.get? b) = some o
        rw [if_neg hm]; exact e
      have kB' : ∀ b o, keptB b = some o → ¬ Mt env own b ∧ s5.heap.get? b = some o := fun b o e => by
        have e' : (if Mt env own b then none else s5.heap.get? b) = some o := e
        by_cases hm : Mt env own b
        · rw [if_pos hm] at e'; cases e'
        · rw [if_neg hm] at e'; exact ⟨hm, e'⟩
      have keep5 : ∀ b o, keptW h4 b = some o → keptB b = some o := fun b o e => kB b o (not_Mt (R5.apart b o e)) (R5.keep b o e)
      have R5' : Rel G env X₁ own GN keptB S (stB items[i] c) s5 := by
        have := R5.move (kept₂ := keptB) (X₂ := X₁) (wr := []) s5.toks (fun b hb => nomatch hb) (fun b o _ e => e) (fun b hb => nomatch hb) (fun a q => q) (fun b o e => ⟨(kB' b o e).2, apart_of (kB' b o e).1⟩) (fun h'' q => R5.gk h'' fun b o e => q b o (keep5 b o e)) (fun a q => by
          obtain ⟨o, e⟩ := R5.xk a q; exact ⟨o, keep5 a o e⟩)
        exact this
      refine wpAny_mono (hbody i items[i] c X₁ keptB s5 _ hit hP (fun a q => .inl q) (fun b o e => keep5 b o (keptW_old _ b o e)) R5') (fun f s6 q6 => ?_) fun _ _ e => e
      have cont : (∃ c' st2, P (i + 1) c' ∧ Rel G env X₁ own GN keptB S st2 s6 ∧ Wkn st2 (stL c')) → ∃ m, m < items.length + 1 - i ∧ ∃ j c, j ≤ items.length ∧ m = items.length + 1 - j ∧ P j c ∧ Rel G env X₁ own GN (keptW s6.heap) S (stL c) s6 ∧ St j s6.heap ∧ (∀ b o, ¬ Mt env own b → h₁.get? b = some o → s6.heap.get? b = some o) := by
        rintro ⟨c', st2, hP', R6, hw6⟩
        have hSt6 : St (i + 1) s6.heap := W.frame _ _ _ hSt5 fun b hb o e => R6.keep b o (kB b o (fpm b hb) e)
        have keep6 : ∀ b o, kept b = some o → s6.heap.get? b = some o := fun b o e => R6.keep b o (keep5 b o (keptW_old _ b o e))
        refine ⟨items.length + 1 - (i + 1), by exact ar59 hlt, i + 1, c', hlt, rfl, hP', ?_, hSt6, fun b o hm e => R6.keep b o (kB b o hm (hk5' b o hm (hK4 b o hm e)))⟩
        have := (R6.weaken hw6).move (kept₂ := keptW s6.heap) (X₂ := X₁) (wr := []) s6.toks (fun b hb => nomatch hb) (fun b o _ e => e) (fun b hb => nomatch hb) (fun a q => q) (kW _ keep6) (gW _) (xW _ (W.alive _ _ hSt6))
        exact this
      cases f with
      | next => exact cont q6
      | cont => exact cont q6
      | brk => exact q6.elim
      | ret v => exact q6
    · cases v with
      | none => exact hv.elim
      | some v => exact hv
  · have hie : i = items.length := Nat.le_antisymm hi (Nat.not_lt.mp hlt)
    subst hie
    refine W.done s' _ _ hSt fun h4 tk4 hk4 => ?_
    refine wpAny_execs_nil ?_
    refine hdone c _ hP ?_
    refine R'.move tk4 (fun b hb => .inr hb) hk4 (fun b hb => apart_of (wrm b hb)) (fun a q => .inl q) (fun b o e => ⟨hk4 b o (freshm b o e) (R'.keep b o (keptW_old _ b o e)), R.apart b o e⟩) R.gk R.xk
end
end Mine
end

section
open PySem PyProof.Rows
set_option Elab.async false
set_option linter.unusedVariables false
namespace Mine

section
variable {prog : Program} {w : World} {G : Glo} {env : Env} {X₀ : Addr → Prop} {own : List Addr} {GN : List (Str × NameKind)} {kept : Addr → Option Obj} {S : Shared} {st st' : List (Str × Slot)} {A : Around} {E : Value → Shared → Prop} {s : Shared}
  {rest : List Stmt} {Q : Flow → Shared → Prop}

theorem st_while {σ : Type} {test : Expr} {body orelse : List Stmt} {pos : Pos} (stL : σ → List (Str × Slot)) (P : σ → Prop) (μ : σ → Nat) (b : σ → Bool) (c₀ : σ) (hw : Wkn st (stL c₀)) (h0 : P c₀) (R : Rel G env X₀ own GN kept S st s)
    (htest : ∀ c, P c → Tst prog w G env (Xof X₀ own) GN (stL c) A test (b c))
    (hbody : ∀ c s' (E' : Value → Shared → Prop), P c → b c = true → Rel G env X₀ own GN kept S (stL c) s' →
      wpAny (model prog w) A (execs body env) (fun f s₂ => match f with
        | .next | .cont => ∃ c' st2, P c' ∧ μ c' < μ c ∧ Rel G env X₀ own GN kept S st2 s₂ ∧ Wkn st2 (stL c')
        | .brk => wpAny (model prog w) A (execs rest env) Q E s₂
        | .ret v => Q (.ret v) s₂) E' s')
    (helse : ∀ c s' (E' : Value → Shared → Prop), P c → b c = false → Rel G env X₀ own GN kept S (stL c) s' →
      wpAny (model prog w) A (execs orelse env) (fun f s₂ => match f with | .next => wpAny (model prog w) A (execs rest env) Q E s₂ | f => Q f s₂) E' s') :
    wpAny (model prog w) A (execs (.While test body orelse pos :: rest) env) Q E s := by
  refine wpAny_execs_cons (wpAny_While ?_)
  refine codeAny_whileLoop (fun n s' => ∃ c, P c ∧ n = μ c ∧ Rel G env X₀ own GN kept S (stL c) s') ?_ (μ c₀) ⟨c₀, h0, rfl, R.weaken hw⟩
  rintro n s' ⟨c, hP, rfl, R'⟩
  refine wpAny_mono (htest c hP s' _ R'.e) (fun v s1 q => ?_) fun _ _ e => e
  obtain ⟨k1, rfl⟩ := q
  cases hb : b c with
  | true =>
    simp only [if_true]
    refine wpAny_mono (hbody c s1 _ hP hb (R'.kp k1)) (fun f s2 q => ?_) fun _ _ e => e
    have cont : (∃ c' st2, P c' ∧ μ c' < μ c ∧ Rel G env X₀ own GN kept S st2 s2 ∧ Wkn st2 (stL c')) → ∃ m, m < μ c ∧ ∃ c, P c ∧ m = μ c ∧ Rel G env X₀ own GN kept S (stL c) s2 := by
      rintro ⟨c', st2, a1, a2, a3, a4⟩
      exact ⟨μ c', a2, c', a1, rfl, a3.weaken a4⟩
    cases f with
    | next => exact cont q
    | cont => exact cont q
    | brk => exact q
    | ret v => exact q
  | false =>
    simp only [Bool.false_eq_true, if_false]
    exact wpAny_mono (helse c s1 _ hP hb (R'.kp k1)) (fun f s2 q => q) fun _ _ e => e

noncomputable def EvN (prog : Program) (w : World) (G : Glo) (env : Env) (X : Addr → Prop) (GN : List (Str × NameKind)) (st : List (Str × Slot)) (A : Around) (e : Expr) (ds : List V) : Prop :=
  ∀ (s : Shared) (E : Value → Shared → Prop), RelE G env X GN st s.heap → wpAny (model prog w) A (eval e env) (fun v s' => Kp s s' ∧ ds.length ≤ sizeLine ∧ ∃ a vs n, v = .ref a ∧ s.heap.get? a = none ∧ s'.heap.get? a = some (lobj vs n) ∧ DenL (fun b => X b ∨ b = a) s'.heap ds vs) E s
theorem none_back {s s1 : Shared} {a : Addr} (k : Kp s s1) (h : s1.heap.get? a = none) : s.heap.get? a = none := by
  cases e : s.heap.get? a with
  | none => rfl
  | some o => rw [k.hk _ _ e] at h; cases h
theorem denL_new {X : Addr → Prop} {h : Heap} {a : Addr} {ds : List V} {vs : List Value} (hn : h.get? a = none) (x : DenL X h ds vs) : DenL (fun b => X b ∨ b = a) h ds vs :=
  DenL.imp (fun b o q e => q.elim id fun z => by subst z; rw [hn] at e; cases e) (fun _ _ _ e => e) _ _ x
theorem evn_list {X : Addr → Prop} {es : List Expr} {pos : Pos} {ds : List V} (h : EvL prog w G env X GN st A es ds) (hl : ds.length ≤ sizeLine) : EvN prog w G env X GN st A (.List es pos) ds := by
  intro s E r
  refine List_ (wpAny_mono (h.2 s E pos r) (fun vs s1 q => ?_) fun _ _ e => e)
  obtain ⟨k, D⟩ := q
  have hlen := D.length
  refine wpAny_newObj_type ?_ (by show vs.toArray.size ≤ sizeLine; rw [List.size_toArray, hlen]; exact hl)
  exact ⟨k.trans (.push s1 _ _), hl, _, vs, 0, rfl, none_back k fresh_none, Heap.get?_push_size _ rfl, (denL_new fresh_none D).keeps fun _ _ e => Heap.get?_push_of_some _ e⟩
theorem evn_mul {X : Addr → Prop} {e0 e2 : Expr} {pos p2 : Pos} {d : V} {x : Int} (h1 : Ev prog w G env X GN st A e0 d) (h2 : Ev prog w G env X GN st A e2 (.int x)) (h0 : 0 ≤ x) (hl : x ≤ 16777216)
    (he : starEach [e0] env = (false, eval e0 env) :: starEach [] env := by rfl) : EvN prog w G env X GN st A (.BinOp (.List [e0] p2) .Mult e2 pos) (List.replicate x.toNat d) := by
  intro s E r
  refine wpAny_BinOp (wpAny_mono (ev_list (pos := p2) (evl_cons h1 evl_nil he) (by simp [sizeLine]) s E r) (fun v1 s1 q1 => ?_) fun _ _ e => e)
  obtain ⟨k1, D1⟩ := q1
  refine wpAny_mono (h2 s1 E (r.keeps k1.hk)) (fun v2 s2 q2 => ?_) fun _ _ e => e
  obtain ⟨k2, D2⟩ := q2
  have D1' := D1.keeps k2.hk
  simp only [Den] at D1' D2
  obtain ⟨_, l, vs, k, rfl, hX, hg, hd⟩ := D1'
  obtain ⟨u, rfl⟩ := D2
  simp only [DenL] at hd
  obtain ⟨v, vs', rfl, hv, rfl⟩ := hd
  refine wpAny_binaryOp_repeat_ref (T := "list") (U := "int") (by decide) ⟨_, hg, rfl⟩ (fun s' => typeIs_int s' x u) noFill_list_mul F.fills_int_mul F.slot_int_rmul repeat_list F.slot_int_index.lookup
    (call_meets F.slot_int_rmul (typeIs_int s2 x u) F.entry_int_rmul (F.args_int_rmul_2 _ _) (int___rmul___int_list x u l [v].toArray k)
      ⟨hg, rfl, ⟨_, hg, rfl⟩, call_meets F.slot_list_mul ⟨_, hg, rfl⟩ F.entry_list_mul (F.args_list_mul_2 _ _)
        (AutoListH.list___mul___list_int_3 l [v].toArray k x u (by simp [Builtin.List.listFitsIndex]; exact ar60 h0 hl) (by simp; exact ar61 hl) (by simp [Builtin.List.listTooLong, sizeLine]; exact hl))
        ⟨hg, (k1.trans k2).trans (.push s2 _ _), ?_⟩⟩)
  have e : List.foldl (fun x1 x2 => x1 ++ x2) #[] (List.replicate (if ([v].toArray).isEmpty = true then 0 else x.toNat) [v].toArray) = (List.replicate x.toNat v).toArray := by
    rw [show ([v].toArray).isEmpty = false from rfl]
    simp only [Bool.false_eq_true, if_false]
    rw [foldl_rep]; simp
  refine ⟨by simp [sizeLine]; exact hl, _, List.replicate x.toNat v, 0, rfl, none_back (k1.trans k2) fresh_none, ?_, ?_⟩
  · rw [Heap.get?_push_size _ rfl, e]
  · refine DenL.keeps (fun _ _ e => Heap.get?_push_of_some _ e) ?_
    exact denL_new fresh_none (DenL.replicate hv _)

theorem Rel.join {s1 : Shared} {a : Addr} {o : Obj} (R : Rel G env X₀ own GN kept S st s) (k : Kp s s1) (hn : s.heap.get? a = none) (hg : s1.heap.get? a = some o) (hm : Mutbl o.data) : Rel G env X₀ (a :: own) GN kept S st s1 := by
  have R1 := R.kp k
  refine ⟨⟨R1.e.g, R1.e.kd, R1.e.gl, R1.e.bl, R1.e.gn, R1.e.cn, R1.e.nd, fun b hb => ?_, fun p hp => ?_⟩, R1.keep, fun b o' e => ?_, R1.ns, R1.cells, R1.cinj, R1.gk, R1.xk, fun b hb => ?_, R1.nodup, R1.odist, fun p hp b e => .tail _ (R1.oin p hp b e), R1.sh⟩
  · rcases hb with hb | hb
    · exact R1.e.xo b (.inl hb)
    · rcases List.mem_cons.mp hb with rfl | hb
      · exact ⟨o, hg⟩
      · exact R1.e.xo b (.inr hb)
  · refine (slot_more (X' := Xof X₀ (a :: own)) (fun b o' q e => ?_) (fun b q => q.imp id (.tail _)) (R.e.vars p hp)).keeps k.hk
    rcases q with q | q
    · exact .inl q
    · rcases List.mem_cons.mp q with rfl | q
      · rw [hn] at e; cases e
      · exact .inr q
  · have q := R1.apart b o' e
    refine ⟨q.1, q.2.1, fun z => ?_⟩
    rcases List.mem_cons.mp z with rfl | z
    · rw [R.keep _ _ e] at hn; cases hn
    · exact q.2.2 z
  · rcases List.mem_cons.mp hb with rfl | hb
    · exact ⟨o, hg, hm⟩
    · exact R1.ownl b hb

theorem st_own {x : Str} {px pos : Pos} {value : Expr} {ds : List V} {k : NameKind} {st' : Addr → List (Str × Slot)} (hE : EvN prog w G env (Xof X₀ own) GN st A value ds) (hU : ∀ a, Upd x (.own a ds) st (st' a)) (hk : (x, k) ∈ GN) (hk' : k = .local ∨ k = .cell)
    (hsw : swapsWith value (some (.Name x px)) pos.line env = pure false) (R : Rel G env X₀ own GN kept S st s) (h : ∀ a s', Rel G env X₀ (a :: own) GN kept S (st' a) s' → wpAny (model prog w) A (execs rest env) Q E s') :
    wpAny (model prog w) A (execs (.Assign [.Name x px] value pos :: rest) env) Q E s := by
  refine wpAny_execs_cons (wpAny_Assign_Name (wpAny_mono (hE s E R.e) (fun v s1 q => ?_) fun _ _ e => e) hsw)
  obtain ⟨k1, hl, a, vs, n, rfl, hn, hg, hd⟩ := q
  have R1 := R.join k1 hn hg (.inl ⟨_, _, rfl⟩)
  have hd' : DenL (Xof X₀ (a :: own)) s1.heap ds vs := hd.less fun b q => by
    rcases q with q | q
    · exact .inl (.inl q)
    · rcases List.mem_cons.mp q with rfl | q
      · exact .inr rfl
      · exact .inl (.inr q)
  refine R1.storeG hk hk' (hU a) (fun h' b hE' hM hv => ⟨hv, .inr (.head _), hl, vs, n, hE' _ _ (fun z => ?_) hg, DenL.hold (fun c o xs m hx e hd => hE' c o (fun z => ?_) e) _ _ hd'⟩) (fun b e => ?_) fun h' tk b R' _ _ => h a _ R'
  · subst z; exact hM _ hg (.inl ⟨_, _, rfl⟩)
  · subst z; exact hM _ e (.inl ⟨_, _, hd⟩)
  · cases e
    refine ⟨.head _, fun p hp _ e => ?_⟩
    have := R.oin p hp a e
    obtain ⟨o, e', _⟩ := R.ownl a this
    rw [hn] at e'; cases e'

theorem Rel.mutate {x : Str} {a : Addr} {ds ds' : List V} {h' : Heap} {vs : List Value} {n : Nat} (tk : Nat) (R : Rel G env X₀ own GN kept S st s) (hx : (x, Slot.own a ds) ∈ st) (hU : Upd x (.own a ds') st st') (hE : Heap.ExtBut a s.heap h') (hg : h'.get? a = some (lobj vs n))
    (hd : DenL (Xof X₀ own) h' ds' vs) (hl : ds'.length ≤ sizeLine) : Rel G env X₀ own GN kept S st' { s with heap := h', toks := tk } := by
  have hao : a ∈ own := R.oin _ hx a rfl
  obtain ⟨m, hn⟩ := R.ns
  obtain ⟨o0, e0, m0⟩ := R.ownl a hao
  have hL : a ≠ env.locals := fun z => by
    obtain ⟨o', es, ep, e', hd', _⟩ := hn
    rw [← z, e0] at e'; cases e'
    rw [hd'] at m0
    rcases m0 with ⟨_, _, q⟩ | ⟨_, _, q⟩ <;> cases q
  have hC : ∀ y c, env.cells.lookup y = some c → a ≠ c := fun y c e z => by
    obtain ⟨u, o', e', hd'⟩ := R.cells y c e
    rw [← z, e0] at e'; cases e'
    rw [hd'] at m0
    rcases m0 with ⟨_, _, q⟩ | ⟨_, _, q⟩ <;> cases q
  have kp' : ∀ b o, kept b = some o → h'.get? b = some o := fun b o e => hE b o (fun z => (R.apart b o e).2.2 (z ▸ hao)) (R.keep b o e)
  have own' : ∀ b ∈ own, ∃ o, h'.get? b = some o ∧ Mutbl o.data := fun b hb => by
    by_cases z : b = a
    · subst z; exact ⟨_, hg, .inl ⟨_, _, rfl⟩⟩
    · obtain ⟨o, e, q⟩ := R.ownl b hb; exact ⟨o, hE _ _ z e, q⟩
  have var : ∀ y v, VarIs env s.heap y v → VarIs env h' y v := fun y v q => VarIs.ext hE hL (fun c e => hC y c e) q
  refine ⟨⟨R.gk h' kp', R.e.kd, R.e.gl, R.e.bl, R.e.gn, R.e.cn, by rw [hU.names]; exact R.e.nd, fun b hb => ?_, fun p hp => ?_⟩, kp', R.apart, ⟨m, hn.extBut hE (Ne.symm hL)⟩, fun y c e => ?_, R.cinj, R.gk, R.xk, own', by rw [hU.names]; exact R.nodup, fun p hp q hq b e1 e2 => ?_, fun p hp b e1 => ?_, ?_⟩
  · rcases hb with hb | hb
    · obtain ⟨o, e⟩ := R.xk b hb; exact ⟨o, kp' b o e⟩
    · obtain ⟨o, e, _⟩ := own' b hb; exact ⟨o, e⟩
  · rcases hU.mem R.nodup p hp with rfl | ⟨hp1, hp2⟩
    · obtain ⟨q1, q2, _⟩ := R.e.vars _ hx
      exact ⟨var _ _ q1, q2, hl, vs, n, hg, hd⟩
    · refine slot_ext hE (.inl (.inr hao)) (var p.1) (fun b hb z => ?_) (R.e.vars p hp1)
      subst z
      exact hp2 (R.odist p hp1 _ hx b hb rfl)
  · obtain ⟨u, o', e', hd'⟩ := R.cells y c e
    exact ⟨u, o', hE _ _ (Ne.symm (hC y c e)) e', hd'⟩
  · have back : ∀ p ∈ st', ∀ b, slotAddr p.2 = some b → ∃ p' ∈ st, p'.1 = p.1 ∧ slotAddr p'.2 = some b := fun p hp b e => by
      rcases hU.mem R.nodup p hp with rfl | ⟨hp1, hp2⟩
      · exact ⟨_, hx, rfl, e⟩
      · exact ⟨p, hp1, rfl, e⟩
    obtain ⟨p', p1, p2, p3⟩ := back p hp b e1
    obtain ⟨q', q1, q2, q3⟩ := back q hq b e2
    rw [← p2, ← q2]
    exact R.odist p' p1 q' q1 b p3 q3
  · rcases hU.mem R.nodup p hp with rfl | ⟨hp1, hp2⟩
    · cases e1; exact hao
    · exact R.oin p hp1 b e1
  · obtain ⟨a, b, rfl⟩ := R.sh; exact ⟨_, _, rfl⟩

theorem not_interactive (R : Rel G env X₀ own GN kept S st s) : interactive env = false := by
  unfold interactive; rw [R.e.kd]; rfl

theorem st_append {x : Str} {px ap cp pos : Pos} {e : Expr} {a : Addr} {ds : List V} {d : V} (hx : (x, Slot.own a ds) ∈ st) (hE : Ev prog w G env (Xof X₀ own) GN st A e d) (hl : ds.length < sizeLine) (hU : Upd x (.own a (ds ++ [d])) st st') (R : Rel G env X₀ own GN kept S st s)
    (h : ∀ s', Rel G env X₀ own GN kept S st' s' → wpAny (model prog w) A (execs rest env) Q E s') (hline : (ap.endLine == cp.line) = true := by rfl) (he : starEach [e] env = (false, eval e env) :: starEach [] env := by rfl) :
    wpAny (model prog w) A (execs (.Expr (.Call (.Attribute (.Name x px) (Str.ofString "append") ap) [e] [] cp) pos :: rest) env) Q E s := by
  refine wpAny_execs_cons (wpAny_Expr ?_ (not_interactive R) rfl)
  refine wpAny_Call_append rfl (by rw [he]; rfl) hline (by rw [he]; rfl) ?_
  obtain ⟨q1, q2, q3, vs, n, hg, hd⟩ := R.e.vars _ hx
  refine var_load R.e hx q1 ⟨a, vs.toArray, rfl, ⟨_, n, hg, rfl, rfl, rfl⟩, ?_⟩
  refine wpAny_mono (hE s E R.e) (fun v s1 q => ?_) fun _ _ e => e
  obtain ⟨k1, D⟩ := q
  have hlen := hd.length
  refine wpAny_list_append_plain ⟨n, k1.hk _ _ hg⟩ (fun h' hp hs' => ?_) (by simp [hlen]; exact q3)
  obtain ⟨n', g'⟩ := hp
  have hold : Hold (Xof X₀ own) s1.heap h' := fun b o xs m hx' e' hd' => hs'.extBut b o (fun z => hx' (z ▸ q2)) e'
  refine h _ ((R.kp k1).mutate (vs := vs ++ [v]) (n := n') s1.toks hx hU hs'.extBut (by rw [g']; simp [lobj]) ?_ (by simp; exact ar62 hl))
  exact .snoc (DenL.hold hold _ _ (hd.keeps k1.hk)) (Den.hold hold _ _ D)

theorem setItem_plain {l : Addr} {vs : List Value} {n : Nat} {k : Int} {t : Tok} {v : Value} {Q : Unit → Shared → Prop} (hg : s.heap.get? l = some (lobj vs n)) (h0 : 0 ≤ k) (hfit : k < 2 ^ 63) (hn : k < vs.toArray.size)
    (hQ : ∀ h' n', h'.get? l = some (lobj (vs.set k.toNat v) n') → Heap.SameBut l s.heap h' → Q () { s with heap := h' }) : wpAny (model prog w) A (setItem (.ref l) (.int k t) v) Q E s := by
  have hT : s.TypeIs (.ref l) "list" := ⟨_, hg, rfl⟩
  unfold setItem
  try with_reducible refine wpAny_holding ?_
  first | refine wpAny_bind (wpAny_pure ?_) | skip
  refine wpAny_bind (wpAny_sequenceKey hT (by decide) ?_)
  refine wpAny_bind (wpAny_callSpecial?_slot (name := Str.ofString "__setitem__") hT slot_list_setitem (wpAny_call_entry slot_list_setitem hT entry_list_setitem ?_ (args_list_setitem _ _ _)))
  show wpAny _ _ (Builtin.List.listSubscript? (.int k t) >>= _) _ _ s
  refine wpAny_bind (wpAny_listSubscript_int (fitsIndex_of h0 hfit) ?_)
  clear hfit
  obtain ⟨j, rfl⟩ := Int.eq_ofNat_of_zero_le h0
  have hj : j < vs.toArray.size := by exact ar63 hn
  have hx' : vs.toArray[j]? = some vs.toArray[j] := Array.getElem?_eq_getElem hj
  show wpAny _ _ ((seqItemAt l j >>= fun r => pure (r.map (j, ·))) >>= _) _ _ s
  refine wpAny_bind (wpAny_bind (wpAny_seqItemAt hg rfl (wpAny_pure ?_)))
  rw [hx']
  show wpAny _ _ (setSeqItemAt l j v >>= _) _ _ s
  have hfin := IsL.update (l := l) (items := vs.toArray) (n := n) hg (·.setIfInBounds j v)
  have hfin' : (s.heap.update l (Obj.mapSeq (·.setIfInBounds j v))).get? l = some (lobj (vs.set ((j : Int).toNat) v) (if (vs.toArray.setIfInBounds j v).size == vs.toArray.size then n else n + 1)) := by
    rw [show _ = _ from hfin]; simp [lobj]
  refine wpAny_bind (wpAny_setSeqItemAt hg rfl ?_)
  first
    | exact wpAny_bind (wpAny_pure (wpAny_pure ⟨.none, rfl, wpAny_pure (hQ _ _ hfin' (Heap.SameBut.update ..))⟩))
    | exact wpAny_pure ⟨.none, rfl, wpAny_pure (hQ _ _ hfin' (Heap.SameBut.update ..))⟩

theorem st_set {x : Str} {px sp pos : Pos} {i value : Expr} {a : Addr} {ds : List V} {k : Int} {d : V} (hx : (x, Slot.own a ds) ∈ st) (hv : Ev prog w G env (Xof X₀ own) GN st A value d) (hi : Ev prog w G env (Xof X₀ own) GN st A i (.int k)) (h0 : 0 ≤ k) (h1 : k < ds.length)
    (hU : Upd x (.own a (ds.set k.toNat d)) st st') (R : Rel G env X₀ own GN kept S st s) (h : ∀ s', Rel G env X₀ own GN kept S st' s' → wpAny (model prog w) A (execs rest env) Q E s')
    (hs : swapsWith value (some (.Subscript (.Name x px) i sp)) pos.line env = pure false := by rfl) :
    wpAny (model prog w) A (execs (.Assign [.Subscript (.Name x px) i sp] value pos :: rest) env) Q E s := by
  refine wpAny_execs_cons (wpAny_Assign_Subscript (wpAny_mono (hv s E R.e) (fun v s1 q => ?_) fun _ _ e => e) hs)
  obtain ⟨k1, D⟩ := q
  have R1 := R.kp k1
  obtain ⟨q1, q2, q3, vs, n, hg, hd⟩ := R1.e.vars _ hx
  refine var_load R1.e hx q1 (wpAny_mono (hi s1 E R1.e) (fun iv s2 q => ?_) fun _ _ e => e)
  obtain ⟨k2, Di⟩ := q
  simp only [Den] at Di
  obtain ⟨t, rfl⟩ := Di
  have hlen := hd.length
  have hg2 := k2.hk _ _ hg
  have hL : s2.heap.IsList a vs.toArray := ⟨_, hg2, rfl, n, rfl⟩
  have hkn : k < 2 ^ 63 := by simp only [sizeLine] at q3; exact ar64 q3 h1
  refine setItem_plain hg2 h0 hkn (by simp [hlen]; exact h1) fun h' n' g' hs' => ?_
  have hold : Hold (Xof X₀ own) s2.heap h' := fun b o xs m hx' e' hd' => hs'.extBut b o (fun z => hx' (z ▸ q2)) e'
  refine h _ ((R1.kp k2).mutate (vs := vs.set k.toNat v) (n := n') s2.toks hx hU hs'.extBut g' ?_ (by simpa using q3))
  exact DenL.set (Den.hold hold _ _ (D.keeps k2.hk)) (DenL.hold hold _ _ (hd.keeps k2.hk)) k.toNat
end
end Mine
end

section
open PySem PyProof.Rows
set_option Elab.async false
set_option linter.unusedVariables false
namespace Mine

noncomputable def Ret (G : Glo) (env : Env) (GN : List (Str × NameKind)) (X₀ : Addr → Prop) (kept : Addr → Option Obj) (S : Shared) (d : V) (Q : Flow → Shared → Prop) : Prop :=
  ∀ (X₁ : Addr → Prop) (own : List Addr) (kept₁ : Addr → Option Obj) (st : List (Str × Slot)) (v : Value) (s' : Shared), (∀ a, X₀ a → X₁ a) → (∀ b o, kept b = some o → kept₁ b = some o) → Rel G env X₁ own GN kept₁ S st s' → Den (Xof X₁ own) s'.heap d v → Q (.ret v) s'
structure FnIs (G : Glo) (f : Addr) (fd : FuncData) (body : List Stmt) : Prop where
  there : ∃ o, o.data = .func fd ∧ ∀ h, G.P h → h.get? f = some o ∧ h.CodeRec fd.code fd.qualname
  body : fd.body = .stmts body
  clo : fd.closure = []
  gl : fd.globals = mainGlobals
  bl : fd.builtins = builtinsNs
theorem FnIs.def {G : Glo} {f : Addr} {fd : FuncData} {body : List Stmt} (h : FnIs G f fd body) : Def G f := let ⟨o, a, b⟩ := h.there; ⟨o, fd, a, fun h' hp => (b h' hp).1⟩

noncomputable def fnOk (scope : Scope) (ps : List Str) (nms : List Str) : Bool :=
  scope.names.all (fun p => scope.names.lookup p.1 == some p.2 && p.1 != Str.ofString "__debug__") && scope.kind == .function && !scope.isCoroutine && !scope.isGenerator
    && ps.all (fun x => scope.names.lookup x == some .local || scope.names.lookup x == some .cell) && decide ps.Nodup && decide nms.Nodup && nms.all (fun x => x != Str.ofString "__debug__")

theorem cellsFrom_mem {x : Str} : ∀ (names : List (Str × NameKind)) (n : Nat) (acc : List (Str × Addr)), (x, NameKind.cell) ∈ names ∨ (∃ c, (x, c) ∈ acc) → ∃ c, (x, c) ∈ cellsFrom n names acc
  | [], n, acc, h => by
    rcases h with h | h
    · cases h
    · exact h
  | (y, k) :: r, n, acc, h => by
    unfold cellsFrom
    by_cases hk : (k == NameKind.cell) = true
    · rw [if_pos hk]
      refine cellsFrom_mem r _ _ ?_
      rcases h with h | ⟨c, h⟩
      · rcases List.mem_cons.mp h with e | h
        · simp only [Prod.mk.injEq] at e
          exact .inr ⟨n, by rw [e.1]; exact .head _⟩
        · exact .inl h
      · exact .inr ⟨c, .tail _ h⟩
    · rw [if_neg hk]
      refine cellsFrom_mem r n acc ?_
      rcases h with h | h
      · rcases List.mem_cons.mp h with e | h
        · simp only [Prod.mk.injEq] at e
          rw [← e.2] at hk; simp at hk
        · exact .inl h
      · exact .inr h
theorem cellsFrom_look {x : Str} {names : List (Str × NameKind)} {n : Nat} (h : (x, NameKind.cell) ∈ names) : ∃ c, (cellsFrom n names []).lookup x = some c :=
  let ⟨c, e, _⟩ := lookup_of_mem (cellsFrom_mem names n [] (.inl h)); ⟨c, e⟩

theorem bindL_get {kindOf : Str → Option NameKind} {x : Str} {v : Value} : ∀ (ps : List Str) (vs : List Value) (m : Str → Option Value), ps.Nodup → (x, v) ∈ ps.zip vs → kindOf x = some .local → bindL kindOf (ps.zip vs) m x = some v
  | [], vs, m, _, h, _ => by simp at h
  | p :: ps, [], m, _, h, _ => by simp at h
  | p :: ps, u :: vs, m, hn, h, hk => by
    rw [List.zip_cons_cons] at h ⊢
    unfold bindL
    have keep : ∀ (qs : List Str) (us : List Value) (m : Str → Option Value), x ∉ qs → bindL kindOf (qs.zip us) m x = m x := by
      intro qs
      induction qs with
      | nil => intro us m _; simp [bindL]
      | cons q qs ih =>
        intro us m hq
        cases us with
        | nil => simp [bindL]
        | cons u us =>
          rw [List.zip_cons_cons]
          unfold bindL
          rw [ih us _ (fun z => hq (.tail _ z))]
          split
          · have : x ≠ q := fun z => hq (z ▸ .head _)
            simp [this]
          · rfl
    rcases List.mem_cons.mp h with e | h
    · simp only [Prod.mk.injEq] at e
      obtain ⟨rfl, rfl⟩ := e
      rw [keep ps vs _ (List.nodup_cons.mp hn).1]
      simp [hk]
    · exact bindL_get ps vs _ (List.nodup_cons.mp hn).2 h hk
theorem bindC_get {kindOf : Str → Option NameKind} {x : Str} {v : Value} : ∀ (ps : List Str) (vs : List Value) (m : Str → Option Value), ps.Nodup → (x, v) ∈ ps.zip vs → kindOf x = some .cell → bindC kindOf (ps.zip vs) m x = some v
  | [], vs, m, _, h, _ => by simp at h
  | p :: ps, [], m, _, h, _ => by simp at h
  | p :: ps, u :: vs, m, hn, h, hk => by
    rw [List.zip_cons_cons] at h ⊢
    unfold bindC
    have keep : ∀ (qs : List Str) (us : List Value) (m : Str → Option Value), x ∉ qs → bindC kindOf (qs.zip us) m x = m x := by
      intro qs
      induction qs with
      | nil => intro us m _; simp [bindC]
      | cons q qs ih =>
        intro us m hq
        cases us with
        | nil => simp [bindC]
        | cons u us =>
          rw [List.zip_cons_cons]
          unfold bindC
          rw [ih us _ (fun z => hq (.tail _ z))]
          split
          · rfl
          · have : x ≠ q := fun z => hq (z ▸ .head _)
            simp [this]
    rcases List.mem_cons.mp h with e | h
    · simp only [Prod.mk.injEq] at e
      obtain ⟨rfl, rfl⟩ := e
      rw [keep ps vs _ (List.nodup_cons.mp hn).1]
      simp [hk]
    · exact bindC_get ps vs _ (List.nodup_cons.mp hn).2 h hk

section
variable {prog : Program} {w : World} {G : Glo} {A : Around}

theorem fun_def {f : Addr} {fd : FuncData} {body : List Stmt} {ps nms : List Str} {ds : List V} {d : V} {st0 : List (Str × Slot)} (k : Nat) (hF : FnIs G f fd body) (hA : Room (k + 1) A) (hb : ∀ vals : List Value, vals.length = ds.length → bindArgs fd ⟨vals, []⟩ = pure (ps.zip vals)) (hlen : ds.length = ps.length)
    (hok : fnOk fd.scope ps nms = true) (hnm : st0.map (·.1) = nms) (hst : ∀ p ∈ st0, p.2 = .un ∨ ∃ e, p.2 = .val e ∧ (p.1, e) ∈ ps.zip ds)
    (hbody : ∀ (env : Env) (X₀ : Addr → Prop) (kept : Addr → Option Obj) (S s : Shared) (Q : Flow → Shared → Prop) (E : Value → Shared → Prop), Room k (A.deeper env) → Rel G env X₀ [] fd.scope.names kept S st0 s → Ret G env fd.scope.names X₀ kept S d Q →
      wpAny (model prog w) (A.deeper env) (execs body env) Q E s) : Fun prog w G A (.ref f) ds d := by
  intro X s E vs hx hg hd
  obtain ⟨o, ho1, ho2⟩ := hF.there
  have hvl := hd.length
  unfold fnOk at hok
  simp only [Bool.and_eq_true, List.all_eq_true, beq_iff_eq, bne_iff_ne, decide_eq_true_eq, Bool.or_eq_true, Bool.not_eq_true'] at hok
  obtain ⟨⟨⟨⟨⟨⟨⟨o1, o2⟩, o3⟩, o4⟩, o5⟩, o6⟩, o7⟩, o8⟩ := hok
  have hk : ∀ p ∈ ps.zip vs, fd.scope.names.lookup p.1 = some .local ∨ (fd.scope.names.lookup p.1 = some .cell ∧ ((cellsFrom (s.heap.objs.size + 1) fd.scope.names []).lookup p.1).isSome = true) := fun p hp => by
    rcases o5 p.1 (List.of_mem_zip hp).1 with q | q
    · exact .inl q
    · refine .inr ⟨q, ?_⟩
      obtain ⟨c, e⟩ := cellsFrom_look (n := s.heap.objs.size + 1) (lookup_mem q)
      rw [e]; rfl
  refine wpAny_call (codeAny_call_cells (by have := hA.2.1; exact ar9 this) (ho2 _ hg).1 ho1 (G.nolimit _ hg) (ho2 _ hg).2 hF.body (hb vs hvl) hF.clo hk (fun s₁ x => ?_) o3 o4 o2)
  generalize henv : callEnvC fd s.heap.objs.size f = env at x ⊢
  have esc : env.scope = fd.scope := by rw [← henv]; rfl
  have eloc : env.locals = s.heap.objs.size := by rw [← henv]; rfl
  have ecel : env.cells = cellsFrom (s.heap.objs.size + 1) fd.scope.names [] := by rw [← henv]; rfl
  have ekind : ∀ y, env.kindOf y = fd.scope.names.lookup y := fun y => by unfold Env.kindOf; rw [esc]
  have room : Room k (A.deeper env) := by
    obtain ⟨r1, r2, r3⟩ := hA
    refine ⟨r1, ?_, ?_⟩
    · show A.depth + 1 + k < recursionLimit; exact ar10 r2
    · show A.units + 3 + 8 * k + 64 < cLine; exact ar11 r3
  have kp : HK s.heap s₁.heap := x.toInCall.keep
  have rel : Rel G env X [] fd.scope.names (fun b => s.heap.get? b) s st0 s₁ := by
    refine ⟨⟨G.keeps _ _ hg kp, by rw [esc]; exact o2, by rw [← henv]; exact hF.gl, by rw [← henv]; exact hF.bl, fun p hp => by rw [ekind]; exact (o1 p hp).1, fun y hy => by rw [ecel]; exact cellsFrom_look hy, ⟨?_, ?_⟩, fun a ha => ?_, fun p hp => ?_⟩, kp, fun b o' e => ⟨?_, fun y c e' => ?_, by simp⟩, ⟨_, x.toInCall.ns⟩, fun y c e' => ⟨_, x.cell y c e'⟩, fun y z c e1 e2 => ?_, fun h' q => G.keeps _ _ hg q, hx, (fun a ha => nomatch ha), ?_, fun p hp q hq a e1 => ?_, fun p hp a e1 => ?_, x.toInCall.same⟩
    · intro q
      obtain ⟨p, hp, e⟩ := List.mem_map.mp q
      exact (o1 p hp).2 e
    · intro q
      rw [hnm] at q
      exact o8 _ q rfl
    · rcases ha with ha | ha
      · obtain ⟨o', e⟩ := hx a ha; exact ⟨o', kp _ _ e⟩
      · cases ha
    · rcases hst p hp with e | ⟨t, e, hm⟩
      · rw [e]; trivial
      · rw [e]
        obtain ⟨i, hi⟩ := List.mem_iff_getElem?.mp hm
        have hz := List.getElem?_zip_eq_some.mp hi
        obtain ⟨v, hv, Dv⟩ := hd.get hz.2
        have hmem : (p.1, v) ∈ ps.zip vs := List.mem_iff_getElem?.mpr ⟨i, List.getElem?_zip_eq_some.mpr ⟨hz.1, hv⟩⟩
        refine ⟨v, ?_, (Dv.keeps kp).less fun a q => q.elim id fun z => nomatch z⟩
        rcases o5 p.1 (List.of_mem_zip hmem).1 with q | q
        · exact .inl ⟨by rw [ekind]; exact q, _, x.toInCall.ns, bindL_get ps vs _ o6 hmem (by rw [ekind]; exact q)⟩
        · obtain ⟨c, ec⟩ := cellsFrom_look (n := s.heap.objs.size + 1) (lookup_mem q)
          have ec' : env.cells.lookup p.1 = some c := by rw [ecel]; exact ec
          refine .inr ⟨by rw [ekind]; exact q, c, ec', ?_⟩
          have := x.cell p.1 c ec'
          rwa [bindC_get ps vs _ o6 hmem (by rw [ekind]; exact q)] at this
    · rw [eloc]; exact Nat.ne_of_lt (Heap.lt_size e)
    · have := x.above y c (mem_of_lookup e')
      rw [eloc] at this
      exact Nat.ne_of_lt (Nat.lt_trans (Heap.lt_size e) this)
    · exact name_of_addr x.apart (mem_of_lookup e1) (mem_of_lookup e2)
    · rw [hnm]; exact o7
    · rcases hst p hp with e | ⟨t, e, _⟩ <;> (rw [e] at e1; cases e1)
    · rcases hst p hp with e | ⟨t, e, _⟩ <;> (rw [e] at e1; cases e1)
  refine hbody env X _ s s₁ _ _ room rel ?_
  intro X₁ own kept₁ st v s' a1 a2 R D
  obtain ⟨h', tk, rfl⟩ := R.sh
  exact ⟨⟨h', tk, rfl, fun b o' e => R.keep b o' (a2 b o' e)⟩, D.less fun a q => .inl (a1 a q)⟩

theorem Rel.freeze {env : Env} {X₀ : Addr → Prop} {own own' : List Addr} {GN : List (Str × NameKind)} {kept : Addr → Option Obj} {S : Shared} {st st' : List (Str × Slot)} {s : Shared} {x : Str} {a : Addr} {ds : List V} (R : Rel G env X₀ own GN kept S st s) (hx : (x, Slot.own a ds) ∈ st)
    (hU : Upd x (.val (.list ds)) st st') (h1 : ∀ b ∈ own', b ∈ own ∧ b ≠ a) (h2 : ∀ b ∈ own, b ≠ a → b ∈ own') : Rel G env X₀ own' GN kept S st' s := by
  have hao := R.oin _ hx a rfl
  have hle : ∀ b, Xof X₀ own' b → Xof X₀ own b := fun b q => q.imp id fun z => (h1 b z).1
  have hna : ¬ Xof X₀ own' a := fun q => by
    rcases q with q | q
    · obtain ⟨o, e⟩ := R.xk a q; exact (R.apart a o e).2.2 hao
    · exact (h1 a q).2 rfl
  refine ⟨⟨R.e.g, R.e.kd, R.e.gl, R.e.bl, R.e.gn, R.e.cn, by rw [hU.names]; exact R.e.nd, fun b hb => R.e.xo b (hle b hb), fun p hp => ?_⟩, R.keep, fun b o e => ⟨(R.apart b o e).1, (R.apart b o e).2.1, fun z => (R.apart b o e).2.2 (h1 b z).1⟩, R.ns, R.cells, R.cinj, R.gk, R.xk, fun b hb => R.ownl b (h1 b hb).1, by rw [hU.names]; exact R.nodup, fun p hp q hq b e1 e2 => ?_, fun p hp b e1 => ?_, R.sh⟩
  · rcases hU.mem R.nodup p hp with rfl | ⟨p1, p2⟩
    · obtain ⟨q1, q2, q3, vs, n, hg, hd⟩ := R.e.vars _ hx
      refine ⟨_, q1, ?_⟩
      simp only [Den]
      exact ⟨q3, a, vs, n, rfl, hna, hg, hd.less hle⟩
    · have q := R.e.vars p p1
      cases hsl : p.2 with
      | un => trivial
      | val e => rw [hsl] at q; obtain ⟨v, b1, b2⟩ := q; exact ⟨v, b1, b2.less hle⟩
      | own b es =>
        rw [hsl] at q
        obtain ⟨b1, b2, b3, vs, n, b4, b5⟩ := q
        have hbo := R.oin p p1 b (by rw [hsl]; rfl)
        exact ⟨b1, .inr (h2 b hbo fun z => p2 (R.odist p p1 _ hx a (by rw [hsl, z]; rfl) rfl)), b3, vs, n, b4, b5.less hle⟩
      | ownB b es =>
        rw [hsl] at q
        obtain ⟨b1, b2, b3, b4⟩ := q
        have hbo := R.oin p p1 b (by rw [hsl]; rfl)
        exact ⟨b1, .inr (h2 b hbo fun z => p2 (R.odist p p1 _ hx a (by rw [hsl, z]; rfl) rfl)), b3, b4⟩
  · rcases hU.mem R.nodup p hp with rfl | ⟨p1, p2⟩
    · cases e1
    · rcases hU.mem R.nodup q hq with rfl | ⟨q1, q2⟩
      · cases e2
      · exact R.odist p p1 q q1 b e1 e2
  · rcases hU.mem R.nodup p hp with rfl | ⟨p1, p2⟩
    · cases e1
    · exact h2 b (R.oin p p1 b e1) fun z => p2 (R.odist p p1 _ hx a (by rw [e1, z]) rfl)
end
end Mine
end

section
open PySem PyProof.Rows
set_option Elab.async false
set_option linter.unusedVariables false
namespace Mine

inductive SeqV : V → List Int → Prop
  | bytes (c : List UInt8) : SeqV (.bytes c) (c.map fun u => (u.toNat : Int))
  | lst (l : List Int) : SeqV (.ints l) l

section
variable {prog : Program} {w : World} {G : Glo} {env : Env} {X : Addr → Prop} {GN : List (Str × NameKind)} {st : List (Str × Slot)} {A : Around}
theorem fun_lenS {d : V} {xs : List Int} (h : SeqV d xs) : Fun prog w G A (.builtin "len") [d] (.int xs.length) := by
  cases h with
  | bytes c => rw [List.length_map]; exact fun_lenB
  | lst l => have := fun_lenL (prog := prog) (w := w) (G := G) (A := A) (ds := xs.map .int); rwa [List.length_map] at this
theorem ev_idxS {b i : Expr} {pos : Pos} {d : V} {xs : List Int} {k : Int} (h : SeqV d xs) (hb : Ev prog w G env X GN st A b d) (hi : Ev prog w G env X GN st A i (.int k)) (h0 : 0 ≤ k) (h1 : k < xs.length)
    (hs : ∀ o v, subscripted i false o v = operate [o, v] (getItem o v) := by intros; rfl) : Ev prog w G env X GN st A (.Subscript b i pos) (.int (xs.getD k.toNat 0)) := by
  cases h with
  | bytes c =>
    rw [List.length_map] at h1
    have := ev_idxB hb hi h0 h1 hs (pos := pos)
    have e : ((c.getD k.toNat 0).toNat : Int) = (c.map fun u => (u.toNat : Int)).getD k.toNat 0 := by
      have hk : k.toNat < c.length := by exact ar65 h0 h1
      simp [List.getD, List.getElem?_eq_getElem hk]
    rw [← e]; exact this
  | lst l =>
    refine ev_idx (evs_of hb) hi h0 ?_ hs
    have hk : k.toNat < xs.length := by exact ar65 h0 h1
    rw [List.getElem?_map, List.getElem?_eq_getElem hk]
    simp [List.getD, List.getElem?_eq_getElem hk]
theorem ev_idxI {b i : Expr} {pos : Pos} {xs : List Int} {k : Int} (hb : EvS prog w G env X GN st A b (xs.map .int)) (hi : Ev prog w G env X GN st A i (.int k)) (h0 : 0 ≤ k) (h1 : k < xs.length)
    (hs : ∀ o v, subscripted i false o v = operate [o, v] (getItem o v) := by intros; rfl) : Ev prog w G env X GN st A (.Subscript b i pos) (.int (xs.getD k.toNat 0)) := by
  refine ev_idx hb hi h0 ?_ hs
  have hk : k.toNat < xs.length := by exact ar65 h0 h1
  rw [List.getElem?_map, List.getElem?_eq_getElem hk]
  simp [List.getD, List.getElem?_eq_getElem hk]
end

/-! ## borders -/
noncomputable def Bd (xs : List Int) (n k : Nat) : Prop := k < n ∧ ∀ j, j < k → xs.getD j 0 = xs.getD (n - k + j) 0
noncomputable def bdB (xs : List Int) (n k : Nat) : Bool := decide (k < n) && (List.range k).all fun j => xs.getD j 0 == xs.getD (n - k + j) 0
theorem bdB_iff {xs : List Int} {n k : Nat} : bdB xs n k = true ↔ Bd xs n k := by
  unfold bdB Bd
  simp only [Bool.and_eq_true, decide_eq_true_eq, List.all_eq_true, List.mem_range, beq_iff_eq]
noncomputable def lb (xs : List Int) (n : Nat) : Nat := ((List.range n).reverse.find? fun k => bdB xs n k).getD 0
theorem lb_spec (xs : List Int) {n : Nat} (hn : 0 < n) : Bd xs n (lb xs n) ∧ ∀ k, Bd xs n k → k ≤ lb xs n := by
  unfold lb
  have h0 : Bd xs n 0 := ⟨hn, fun j h => absurd h (Nat.not_lt_zero _)⟩
  cases e : (List.range n).reverse.find? fun k => bdB xs n k with
  | none =>
    rw [List.find?_eq_none] at e
    exact absurd (bdB_iff.mpr h0) (by simpa using e 0 (by simp [hn]))
  | some k =>
    have h1 := List.find?_some e
    refine ⟨bdB_iff.mp h1, fun j hj => ?_⟩
    show j ≤ k
    rw [List.find?_eq_some_iff_append] at e
    obtain ⟨_, as, bs, e1, e2⟩ := e
    by_cases q : j ≤ k
    · exact q
    · exfalso
      have hjn : j ∈ (List.range n).reverse := by simp [hj.1]
      have hkl : k < n := (bdB_iff.mp h1).1
      -- j comes ahead of k in the reversed range
      have pw : (List.range n).reverse.Pairwise (· > ·) := by
        rw [List.pairwise_reverse]
        exact List.pairwise_lt_range
      rw [e1] at hjn pw
      rcases List.mem_append.mp hjn with h | h
      · have := e2 j h
        rw [bdB_iff.mpr hj] at this; simp at this
      · rcases List.mem_cons.mp h with h | h
        · exact ar66 h q
        · have := (List.pairwise_cons.mp (List.pairwise_append.mp pw).2.1).1 j h
          exact ar67 this q
theorem lb_unique {xs : List Int} {n k : Nat} (h1 : Bd xs n k) (h2 : ∀ j, Bd xs n j → j ≤ k) : lb xs n = k := by
  have hn : 0 < n := Nat.lt_of_le_of_lt (Nat.zero_le _) h1.1
  obtain ⟨a, b⟩ := lb_spec xs hn
  exact Nat.le_antisymm (h2 _ a) (b _ h1)
noncomputable def tab (xs : List Int) : List Int := (List.range xs.length).map fun i => (lb xs (i + 1) : Int)
theorem tab_length (xs : List Int) : (tab xs).length = xs.length := by simp [tab]
theorem tab_get (xs : List Int) {i : Nat} (h : i < xs.length) : (tab xs).getD i 0 = (lb xs (i + 1) : Int) := by simp [tab, List.getD, h]

theorem Bd.trans {xs : List Int} {n k j : Nat} (h : Bd xs n k) (h' : Bd xs k j) : Bd xs n j := by
  refine ⟨Nat.lt_trans h'.1 h.1, fun i hi => ?_⟩
  have a := h'.2 i hi
  have b := h.2 (k - j + i) (by have := h'.1; exact ar68 this hi)
  rw [a, b]
  congr 1
  have := h.1; have := h'.1; exact ar69 (by assumption) this
theorem Bd.below {xs : List Int} {n k j : Nat} (h : Bd xs n k) (h' : Bd xs n j) (hj : j < k) : Bd xs k j := by
  refine ⟨hj, fun i hi => ?_⟩
  have a := h'.2 i hi
  have b := h.2 (k - j + i) (by exact ar68 hj hi)
  rw [a, b]
  congr 1
  have := h.1; exact ar70 hj this
theorem Bd.succ {xs : List Int} {n k : Nat} : Bd xs (n + 1) (k + 1) ↔ Bd xs n k ∧ xs.getD k 0 = xs.getD n 0 := by
  constructor
  · rintro ⟨h1, h2⟩
    refine ⟨⟨by exact ar71 h1, fun j hj => ?_⟩, ?_⟩
    · have := h2 j (by exact ar72 hj)
      rw [this]; congr 1; exact ar73
    · have := h2 k (by exact ar74)
      rw [this]; congr 1; exact ar75 h1
  · rintro ⟨⟨h1, h2⟩, h3⟩
    refine ⟨by exact ar76 h1, fun j hj => ?_⟩
    by_cases q : j < k
    · rw [h2 j q]; congr 1; exact ar77
    · have : j = k := by exact ar78 hj q
      subst this
      rw [h3]; congr 1; exact ar79 h1
theorem Bd.zero {xs : List Int} {n : Nat} (h : 0 < n) : Bd xs n 0 := ⟨h, fun j hj => absurd hj (Nat.not_lt_zero _)⟩

noncomputable def Scan (xs : List Int) (i idx : Nat) : Prop := Bd xs i idx ∧ ∀ k, Bd xs (i + 1) (k + 1) → k ≤ idx
theorem scan_start {xs : List Int} {i : Nat} (h : 0 < i) : Scan xs i (lb xs i) :=
  ⟨(lb_spec xs h).1, fun k hk => (lb_spec xs h).2 k (Bd.succ.mp hk).1⟩
theorem scan_hit {xs : List Int} {i idx : Nat} (h : Scan xs i idx) (e : xs.getD i 0 = xs.getD idx 0) : lb xs (i + 1) = idx + 1 :=
  lb_unique (Bd.succ.mpr ⟨h.1, e.symm⟩) fun j hj => by
    cases j with
    | zero => exact ar80
    | succ j => have := h.2 j hj; exact ar81 this
theorem scan_zero {xs : List Int} {i : Nat} (h : Scan xs i 0) (e : xs.getD i 0 ≠ xs.getD 0 0) : lb xs (i + 1) = 0 :=
  lb_unique (Bd.zero (by exact ar82)) fun j hj => by
    cases j with
    | zero => exact ar83
    | succ j =>
      have := h.2 j hj
      have : j = 0 := by exact ar84 this
      subst this
      exact absurd (Bd.succ.mp hj).2.symm e
theorem scan_next {xs : List Int} {i idx : Nat} (h : Scan xs i idx) (e : xs.getD i 0 ≠ xs.getD idx 0) (hp : 0 < idx) : Scan xs i (lb xs idx) ∧ lb xs idx < idx := by
  obtain ⟨a, b⟩ := lb_spec xs hp
  refine ⟨⟨h.1.trans a, fun k hk => ?_⟩, a.1⟩
  have q := h.2 k hk
  have hk' := Bd.succ.mp hk
  have hne : k ≠ idx := fun z => by subst z; exact e hk'.2.symm
  exact b k (h.1.below hk'.1 (by exact ar85 q hne))
end Mine
end

section
open PySem PyProof.Rows
set_option Elab.async false
set_option linter.unusedVariables false
namespace Mine
theorem st_break {prog : Program} {w : World} {A : Around} {env : Env} {pos : Pos} {rest : List Stmt} {Q : Flow → Shared → Prop} {E : Value → Shared → Prop} {s : Shared} (h : Q .brk s) : wpAny (model prog w) A (execs (.Break pos :: rest) env) Q E s :=
  wpAny_execs_cons (wpAny_bind (M := model prog w) (wpAny_standAt (wpAny_pure h)))
section
variable {prog : Program} {w : World} {G : Glo} {env : Env} {X : Addr → Prop} {GN : List (Str × NameKind)} {st : List (Str × Slot)} {A : Around}
theorem evn_eq {e : Expr} {ds ds' : List V} (h : EvN prog w G env X GN st A e ds) (e' : ds = ds') : EvN prog w G env X GN st A e ds' := e' ▸ h
theorem ev_b1 {x : Str} {id : String} {p pos : Pos} {e : Expr} {d r : V} (hb : (x, Value.builtin id) ∈ bnames) (hm : (x, NameKind.globalImplicit) ∈ GN) (h : Ev prog w G env X GN st A e d) (hf : Fun prog w G A (.builtin id) [d] r)
    (he : starEach [e] env = (false, eval e env) :: starEach [] env := by rfl) : Ev prog w G env X GN st A (.Call (.Name x p) [e] [] pos) r := ev_callB hm hb (evl_cons h evl_nil he) hf
theorem ev_t1 {x : Str} {T : String} {p pos : Pos} {e : Expr} {d r : V} (hb : (x, Value.type T) ∈ bnames) (hm : (x, NameKind.globalImplicit) ∈ GN) (h : Ev prog w G env X GN st A e d) (hf : Fun prog w G A (.type T) [d] r)
    (he : starEach [e] env = (false, eval e env) :: starEach [] env := by rfl) : Ev prog w G env X GN st A (.Call (.Name x p) [e] [] pos) r := ev_callT hm hb (evl_cons h evl_nil he) hf
theorem ev_len {p pos : Pos} {e : Expr} {d : V} {n : Int} (hm : (Str.ofString "len", NameKind.globalImplicit) ∈ GN) (h : Ev prog w G env X GN st A e d) (hf : Fun prog w G A (.builtin "len") [d] (.int n))
    (he : starEach [e] env = (false, eval e env) :: starEach [] env := by rfl) : Ev prog w G env X GN st A (.Call (.Name (Str.ofString "len") p) [e] [] pos) (.int n) := ev_b1 (by simp [bnames]) hm h hf he
theorem ev_sum {p pos : Pos} {e : Expr} {l : List Int} (hh : A.handled = none) (hm : (Str.ofString "sum", NameKind.globalImplicit) ∈ GN) (h : Ev prog w G env X GN st A e (.ints l))
    (he : starEach [e] env = (false, eval e env) :: starEach [] env := by rfl) : Ev prog w G env X GN st A (.Call (.Name (Str.ofString "sum") p) [e] [] pos) (.int l.sum) := ev_b1 (by simp [bnames]) hm h (fun_sum hh) he
theorem ev_type {p pos : Pos} {e : Expr} {d : V} {T : String} (hm : (Str.ofString "type", NameKind.globalImplicit) ∈ GN) (h : Ev prog w G env X GN st A e d) (hf : Fun prog w G A (.type "type") [d] (.ty T))
    (he : starEach [e] env = (false, eval e env) :: starEach [] env := by rfl) : Ev prog w G env X GN st A (.Call (.Name (Str.ofString "type") p) [e] [] pos) (.ty T) := ev_t1 (by simp [bnames]) hm h hf he
theorem ev_bytesOf {p pos : Pos} {e : Expr} {l : List Int} (hh : A.handled = none) (hm : (Str.ofString "bytes", NameKind.globalImplicit) ∈ GN) (h : Ev prog w G env X GN st A e (.ints l)) (hr : ∀ n ∈ l, 0 ≤ n ∧ n < 256)
    (he : starEach [e] env = (false, eval e env) :: starEach [] env := by rfl) : Ev prog w G env X GN st A (.Call (.Name (Str.ofString "bytes") p) [e] [] pos) (.bytes (l.map fun n => n.toNat.toUInt8)) := ev_t1 (by simp [bnames]) hm h (fun_bytes hh hr) he
theorem ev_f1 {x : Str} {f : Addr} {p pos : Pos} {e : Expr} {d r : V} (hm : (x, NameKind.globalImplicit) ∈ GN) (hb : G.top x (.ref f)) (hd : Def G f) (h : Ev prog w G env X GN st A e d) (hf : Fun prog w G A (.ref f) [d] r)
    (he : starEach [e] env = (false, eval e env) :: starEach [] env := by rfl) : Ev prog w G env X GN st A (.Call (.Name x p) [e] [] pos) r := ev_call hm hb hd (evl_cons h evl_nil he) hf
theorem ev_f2 {x : Str} {f : Addr} {p pos : Pos} {e1 e2 : Expr} {d1 d2 r : V} (hm : (x, NameKind.globalImplicit) ∈ GN) (hb : G.top x (.ref f)) (hd : Def G f) (h1 : Ev prog w G env X GN st A e1 d1) (h2 : Ev prog w G env X GN st A e2 d2) (hf : Fun prog w G A (.ref f) [d1, d2] r)
    (he1 : starEach [e1, e2] env = (false, eval e1 env) :: starEach [e2] env := by rfl) (he2 : starEach [e2] env = (false, eval e2 env) :: starEach [] env := by rfl) : Ev prog w G env X GN st A (.Call (.Name x p) [e1, e2] [] pos) r := ev_call hm hb hd (evl_cons h1 (evl_cons h2 evl_nil he2) he1) hf
end
theorem rng_one {a b : Int} : rng a b 1 = (List.range (b - a).toNat).map fun (i : Nat) => a + (i : Int) := by
  unfold rng
  rw [rangeSize_nat, Int.toNat_natCast]
  simp only [Int.mul_one]
end Mine
end

section
open PySem PyProof.Rows
set_option Elab.async false
set_option linter.unusedVariables false
namespace Mine

noncomputable def dec : Code → Bool
  | .builtin id _ => Builtin.Bytes.decodersThatHold.contains id
  | _ => false
noncomputable def Cln (Γ : Ctx) : Prop := dec Γ.code = false ∧ ∀ x ∈ Γ.below, dec x.1 = false
noncomputable def wpC {α : Type} (M : Model) (A : Around) (t : Sem α) (Q : α → Shared → Prop) (E : Value → Shared → Prop) (s : Shared) : Prop :=
  ∀ Γ p, Γ.In A → Cln Γ → Sem.wp M Γ t (fun a _ s' => Q a s') (fun e _ s' => E e s') p s
noncomputable def codeC (M : Model) (A : Around) (c : Code) (R : Result → Shared → Prop) (s : Shared) : Prop :=
  ∀ Γ p, Γ.code = c → Γ.Below A → (∀ x ∈ Γ.below, dec x.1 = false) → wpCode M Γ R p s

section
variable {α β : Type} {M : Model} {A : Around} {E : Value → Shared → Prop} {s : Shared} {env : Env}
theorem wpC_any {t : Sem α} {Q : α → Shared → Prop} (h : wpAny M A t Q E s) : wpC M A t Q E s := fun Γ p hΓ _ => h Γ p hΓ
theorem codeC_any {c : Code} {R : Result → Shared → Prop} (h : codeAny M A c R s) : codeC M A c R s := fun Γ p hc hΓ _ => h Γ p hc hΓ
theorem wpC_pure {a : α} {Q : α → Shared → Prop} (h : Q a s) : wpC M A (pure a) Q E s := wpC_any (wpAny_pure h)
theorem wpC_mono {t : Sem α} {Q Q' : α → Shared → Prop} {E' : Value → Shared → Prop} (h : wpC M A t Q E s) (hQ : ∀ a s, Q a s → Q' a s) (hE : ∀ e s, E e s → E' e s) : wpC M A t Q' E' s :=
  fun Γ p hΓ hc => Sem.wp_mono M Γ t (fun a _ s => hQ a s) (fun e _ s => hE e s) p s (h Γ p hΓ hc)
theorem wpC_bind {m : Sem α} {f : α → Sem β} {Q : β → Shared → Prop} (h : wpC M A m (fun a s' => wpC M A (f a) Q E s') E s) : wpC M A (m >>= f) Q E s := fun Γ p hΓ hc => by
  rw [Sem.wp_bind']
  exact Sem.wp_mono M Γ m (fun a p' s' h' => h' Γ p' hΓ hc) (fun _ _ _ h' => h') p s (h Γ p hΓ hc)
theorem wpC_onRaise {m : Sem α} {k : Value → Sem Unit} {Q : α → Shared → Prop} (h : wpC M A m Q (fun e s' => wpC M A (k e) (fun _ s'' => E e s'') E s') s) : wpC M A (m.onRaise k) Q E s := fun Γ p hΓ hc => by
  rw [Sem.wp_onRaise]
  exact Sem.wp_mono M Γ m (fun _ _ _ h' => h') (fun e p' s' h' => h' Γ p' hΓ hc) p s (h Γ p hΓ hc)
theorem wpC_holding {vs : List Value} {m : Sem α} {Q : α → Shared → Prop} (h : wpC M A m Q E s) : wpC M A (holding vs m) Q E s := fun Γ p hΓ hc => by rw [Sem.wp_holding]; exact h Γ p hΓ hc
theorem wpC_of_eq {m m' : Sem α} {Q : α → Shared → Prop} (e : m = m') (h : wpC M A m' Q E s) : wpC M A m Q E s := e ▸ h
theorem wpC_first {m : Sem α} {f : α → Sem β} {Q : β → Shared → Prop} (h : wpAny M A m (fun a s' => wpC M A (f a) Q E s') E s) : wpC M A (m >>= f) Q E s := wpC_bind (wpC_any h)

theorem wpC_runOf {c : Code} {h : Option Value} {Q : Flow → Shared → Prop} (hc : codeC M (A.mark h) c (fun r s' => match r with | .ok f => Q f s' | .error e => E e s') s) (hnb : h ≠ some byPass := by intro x; cases x) :
    wpC M A (run c h) Q E s := fun Γ p hΓ hcl => by
  rw [Sem.wp_run]
  exact hc _ p rfl (hΓ.enter c h p hnb) fun x hx => by
    rcases List.mem_cons.mp hx with e | hx
    · rw [e]; exact hcl.1
    · exact hcl.2 x hx
theorem wpC_runValue {c : Code} {Q : Value → Shared → Prop} (hc : codeC M A c (fun r s' => match r with | .ok (.ret v) => Q v s' | .ok _ => False | .error e => E e s') s) : wpC M A (runValue c) Q E s := fun Γ p hΓ hcl => by
  rw [Sem.wp_runValue]
  exact hc _ p rfl (hΓ.enter c none p (by intro x; cases x)) fun x hx => by
    rcases List.mem_cons.mp hx with e | hx
    · rw [e]; exact hcl.1
    · exact hcl.2 x hx
theorem codeC_mono {c : Code} {R R' : Result → Shared → Prop} (h : codeC M A c R s) (hR : ∀ r s, R r s → R' r s) : codeC M A c R' s := fun Γ p hc hΓ hb => wpCode_mono hR (h Γ p hc hΓ hb)
theorem codeC_tree {c : Code} {R : Result → Shared → Prop} (hd : dec c = false)
    (h : wpC M (A.under c) (M.den c) (fun fin s' => match fin with | .done f => R (.ok f) s' | .again c' => c'.quiet = true ∧ codeC M A c' R s') (fun e s' => R (.error e) s') s) : codeC M A c R s := fun Γ p hc hΓ hb => by
  rw [wpCode_iff_wp, hc]
  refine Sem.wp_mono M Γ _ (fun fin p' s' h' => ?_) (fun _ _ _ h' => h') p s (h Γ p (hc ▸ hΓ.in) ⟨by rw [hc]; exact hd, hb⟩)
  cases fin with
  | done f => exact h'
  | again c' => exact ⟨h'.1, h'.2 (Γ.goto c') p' rfl (hΓ.goto c') hb⟩
theorem codeC_turns {c : Code} {R : Result → Shared → Prop} (hd : dec c = false) (hq : c.quiet = true) (I : Nat → Shared → Prop)
    (turn : ∀ n s, I n s → wpC M (A.under c) (M.den c) (fun fin s' => match fin with
        | .done f => R (.ok f) s'
        | .again c' => (c' = c ∧ ∃ m, m < n ∧ I m s') ∨ (c'.quiet = true ∧ codeC M A c' R s')) (fun e s' => R (.error e) s') s)
    (n : Nat) (h : I n s) : codeC M A c R s := by
  induction n using Nat.strongRecOn generalizing s with
  | ind n ih =>
    refine codeC_tree hd (wpC_mono (turn n s h) (fun fin s' hf => ?_) fun _ _ h' => h')
    cases fin with
    | done f => exact hf
    | again c' =>
      rcases hf with ⟨rfl, m, hm, hI⟩ | hf
      · exact ⟨hq, ih m hm hI⟩
      · exact hf

theorem dneg {c : Prop} {d : Decidable c} {t : c → Bool} {e : ¬ c → Bool} (h : ¬ c) (k : ¬ (e h = true)) : ¬ (@dite _ c d t e = true) := by rw [dif_neg h]; exact k
theorem wpC_exported {self : Value} {g : List Code} {Q : Bool → Shared → Prop} (hg : A.guards = some g) (hn : g = []) (h : Q false s) : wpC M A (Builtin.Bytes.exported self) Q E s := fun Γ p hΓ hc => by
  subst hn
  have hgu : guardsOf ((Γ.code, p) :: Γ.below) = [] := by rw [guardsOf_cons]; exact hΓ.2.2.2.1 [] hg
  have hcl : ∀ x ∈ ((Γ.code, p) :: Γ.below), dec x.1 = false := fun x hx => by
    rcases List.mem_cons.mp hx with e | hx
    · rw [e]; exact hc.1
    · exact hc.2 x hx
  unfold Builtin.Bytes.exported
  rw [Sem.wp_bind']
  show Sem.wp M Γ (.stack .pure) _ _ p s
  rw [Sem.wp_stack, Sem.wp_pure]
  refine cast (congrArg (fun b => Q b s) (Eq.symm ?_)) h
  rw [List.any_eq_false]
  rintro ⟨c, q⟩ hx
  have h1 := hcl _ hx
  have h2 : c.isGuard = false := by
    cases hgc : c.isGuard with
    | false => rfl
    | true =>
      have : c ∈ guardsOf ((Γ.code, p) :: Γ.below) := List.mem_filter.mpr ⟨List.mem_map.mpr ⟨_, hx, rfl⟩, hgc⟩
      rw [hgu] at this; cases this
  clear hx hcl hgu hΓ hc h
  cases c with
  | builtin id args =>
    have n1 : ∀ x, guardIds.contains x = true → ¬ id = x := fun x hx e => by
      subst e
      exact absurd (h2.symm.trans hx) Bool.false_ne_true
    delta Builtin.Bytes.exported.match_1
    refine dneg (n1 "bytearray.__contains__" (by decide +kernel)) ?_
    refine dneg (n1 "bytearray.__mod__" (by decide +kernel)) ?_
    refine dneg (n1 "bytearray.__rmod__" (by decide +kernel)) ?_
    refine dneg (n1 "_struct.pack_into.held" (by decide +kernel)) ?_
    refine dneg (n1 "bytearray.find.held" (by decide +kernel)) ?_
    obtain ⟨pos, kw⟩ := args
    cases pos with
    | nil => exact Bool.false_ne_true
    | cons v r =>
      have h1 : Builtin.Bytes.decodersThatHold.contains id = false := h1
      show ¬ (Builtin.Bytes.sameRef v self && Builtin.Bytes.decodersThatHold.contains id) = true
      rw [h1, Bool.and_false]; exact Bool.false_ne_true
  | _ => exact Bool.false_ne_true
end
end Mine
end

section
open PySem PyProof.Rows
set_option Elab.async false
set_option linter.unusedVariables false
set_option maxRecDepth 100000
namespace Mine

theorem mro_ba : mroOf (.type "bytearray") = pure [.type "bytearray", .type "object"] := by rw [mroOf_type]; kernel_rfl
theorem lookup_ba_new : typeLookup (.type "bytearray") "__new__" = pure (some (.builtin "bytearray.__new__")) := by rw [typeLookup_type, builtinLookup_eq_fast]; kernel_rfl
theorem slot_ba_init : PySem.Slot "bytearray" "__init__" "bytearray.__init__" :=
  .of (owner := "bytearray") (n := "__init__") (by rw [typeLookup_type, builtinLookup_eq_fast]; kernel_rfl) (by decide +kernel) (by decide +kernel) (by decide +kernel) (.inl (by decide +kernel)) (by rw [isSubtype_type]; kernel_rfl)
theorem called_ba : TypeCalled "bytearray" "bytearray.__new__" "bytearray.__init__" :=
  ⟨by decide +kernel, by decide +kernel, ⟨_, _, mro_ba⟩, madeBy_type mro_ba lookup_ba_new (by decide +kernel), by decide +kernel, by rw [isSubtype_type]; kernel_rfl, slot_ba_init⟩
theorem typeCall_ba (a : Value) : checkTypeCall "bytearray" ⟨[a], []⟩ = pure () := by kernel_rfl
theorem newCall_ba (a : Value) : checkBuiltinCall "bytearray.__new__" ⟨[.type "bytearray", a], []⟩ = pure () := by kernel_rfl
theorem entry_ba_new : entryFor table "bytearray.__new__" = some Builtin.«list.__new__» :=
  entryFor_alias (id' := "list.__new__") (by rw [fastTable_eq_tree]; kernel_rfl) (by decide +kernel) (by decide +kernel) (by rw [fastTable_eq_tree]; kernel_rfl)
theorem entry_ba_init : entryFor table "bytearray.__init__" = some Builtin.«bytearray.__init__» := entryFor_of_tree (by kernel_rfl)
theorem plain_ba_new : plainId "bytearray.__new__" = true := by decide +kernel
theorem sub_ba : isSubtype (.type "bytearray") (.type "bytearray") = pure true := by rw [isSubtype_type]; kernel_rfl
set_option maxRecDepth 1000000 in
set_option maxHeartbeats 4000000 in
theorem owner_ba_new : ("bytearray.__new__".splitOn ".__new__").headD "" = "bytearray" := by simp +decide [String.splitOn, String.splitOnAux]
theorem args_ba_init (a b : Value) : argsOk "bytearray.__init__" ⟨[a, b], []⟩ := by
  unfold argsOk; kernel_rfl

section
variable {prog : Program} {w : World} {A : Around} {E : Value → Shared → Prop} {s : Shared}
theorem code_ba_new (a : Value) {Q₁ : Value → Shared → Prop} (h : Q₁ (.ref s.heap.objs.size) { s with heap := s.heap.push { cls := .type "bytearray", data := .bytearray #[] } }) :
    codeAny (model prog w) A (.call (.builtin "bytearray.__new__") ⟨[.type "bytearray", a], []⟩) (wants Q₁ E) s := by
  refine codeAny_of_tree ?_
  show wpAny _ A.in1 (do checkBuiltinCall "bytearray.__new__" ⟨[.type "bytearray", a], []⟩; again (.builtin "bytearray.__new__" ⟨[.type "bytearray", a], []⟩)) _ _ s
  refine wpAny_bind (wpAny_of_eq (newCall_ba a) (wpAny_pure ⟨plainId_quiet plain_ba_new _, codeAny_builtin_stack entry_ba_new rfl fun p st => ?_⟩))
  rw [Around.under_plainId plain_ba_new _]
  have hsub := sub_ba
  have hown := owner_ba_new
  obtain ⟨hp, g, d, tk, os⟩ := s
  simp only [hown]
  wp_walk
  exact h
end
end Mine
end

section
open PySem PyProof.Rows
set_option Elab.async false
set_option linter.unusedVariables false
set_option maxRecDepth 100000
namespace Mine
section
variable {M : Model} {A : Around} {E : Value → Shared → Prop} {s : Shared} {S : Addr}

theorem lookup_ba_release : typeLookup (.type "bytearray") "__release_buffer__" = pure (some (.builtin "bytearray.__release_buffer__")) := by rw [typeLookup_type, builtinLookup_eq_fast]; kernel_rfl
theorem ends_ba_release : ("bytearray.__release_buffer__".endsWith ("." ++ "__release_buffer__")) = true := by decide +kernel
theorem drop_ba_release : ("bytearray.__release_buffer__".dropRight ("__release_buffer__".length + 1)) = "bytearray" := by decide +kernel

theorem own_release {Q : Bool → Shared → Prop} (hT : s.TypeIs (.ref S) "bytearray") (h : Q false s) : wpAny M A (Builtin.Bytes.ownRelease (.ref S)) Q E s := by
  unfold Builtin.Bytes.ownRelease Builtin.Bytes.slotIsOwn
  refine wpAny_bind (wpAny_bind (wpAny_specialOf hT lookup_ba_release ?_))
  dsimp only
  rw [ends_ba_release, drop_ba_release]
  exact wpAny_isInstance hT sub_ba (wpAny_pure h)

theorem write_ba {b : List UInt8} {f : Array UInt8 → Array UInt8} {c : List UInt8} {Q : Unit → Shared → Prop} (hS : s.heap.get? S = some (bobj b)) (hf : f b.toArray = c.toArray) (hc : c.length ≤ sizeLine)
    (h : ∀ h', h'.get? S = some (bobj c) → Heap.SameBut S s.heap h' → Q () { s with heap := h' }) : wpAny M A (Builtin.Bytes.write (.ref S) f) Q E s := by
  unfold Builtin.Bytes.write updateBytearray
  refine wpAny_bind (wpAny_load hS ?_)
  dsimp only
  have e2 : (s.heap.update S (Obj.mapBytearray f)).get? S = some (bobj c) := by
    rw [Heap.get?_update_self (Obj.mapBytearray f) hS rfl]
    simp only [Obj.mapBytearray, hf]
  refine wpAny_bind (wpAny_update hS (wpAny_lookBehind e2 ?_ (h _ e2 ?_)))
  · show (if c.toArray.size > sizeLine then some "bytearray:memory" else none) = none
    exact if_neg (by simpa using hc)
  · exact ⟨Heap.size_update .., fun b hb => Heap.get?_update_other _ _ (Ne.symm hb)⟩
end
end Mine
end

section
open PySem PyProof.Rows
set_option Elab.async false
set_option linter.unusedVariables false
set_option maxRecDepth 100000
namespace Mine
section
variable {M : Model} {A : Around} {E : Value → Shared → Prop} {s : Shared} {S : Addr}

theorem bind_ba_init (v : Value) : Builtin.Bytes.bindOptional "bytearray.__init__" "bytearray" ["source", "encoding", "errors"] [v] [] = pure [some v, none, none] := by rfl

theorem init_ba {n : Int} {t : Tok} {Q : Fin → Shared → Prop} (hg : A.guards = some []) (hS : s.heap.get? S = some (bobj [])) (h0 : 0 ≤ n) (hz : n ≤ sizeLine)
    (h : ∀ h', h'.get? S = some (bobj (List.replicate n.toNat 0)) → Heap.SameBut S s.heap h' → Q (.done (.ret .none)) { s with heap := h' }) :
    wpC M A (Builtin.«bytearray.__init__» ⟨[.ref S, .int n t], []⟩) Q E s := by
  have hT : s.TypeIs (.ref S) "bytearray" := ⟨_, hS, rfl⟩
  unfold Builtin.«bytearray.__init__»
  dsimp only
  refine wpC_first (own_release hT ?_)
  rw [if_neg Bool.false_ne_true]
  refine wpC_bind (wpC_of_eq (bind_ba_init _) (wpC_pure ?_))
  dsimp only
  refine wpC_bind (wpC_pure ?_)
  refine wpC_bind (wpC_pure ?_)
  refine wpC_bind (wpC_bind (wpC_exported hg rfl ?_))
  show wpC M A (Builtin.Bytes.exportsOf (.ref S) >>= fun x => pure (decide (x > 0))) _ _ s
  refine wpC_any (wpAny_bind ?_)
  unfold Builtin.Bytes.exportsOf
  refine wpAny_bind (wpAny_load hS ?_)
  refine wpAny_pure (wpAny_pure ?_)
  rw [if_neg (by simp)]
  refine wpC_any ?_
  refine wpAny_bind (write_ba (c := []) hS rfl (Nat.zero_le _) fun h1 e1 sb1 => ?_)
  refine wpAny_bind (wpAny_pure ?_)
  rw [if_neg (by simp)]
  rw [if_neg (by simp), if_neg (by simp)]
  refine wpAny_bind (wpAny_pure ?_)
  refine wpAny_bind (wpAny_specialOf (T := "int") (v := .int n t) rfl PySem.int_index ?_)
  rw [if_pos (show (some (Value.builtin "int.__index__")).isSome = true from rfl)]
  refine wpAny_bind (wpAny_attempt ?_)
  refine wpAny_bind (wpAny_pure ?_)
  refine wpAny_pure ?_
  dsimp only
  have f1 : Builtin.Bytes.fitsIndex n = true := by
    unfold Builtin.Bytes.fitsIndex
    have : (sizeLine : Int) < 2 ^ 63 := by decide
    simp only [Bool.and_eq_true, decide_eq_true_eq]
    exact ar0 this h0 hz
  have f2 : (n == 2 ^ 63 - 1) = false := by
    have : (sizeLine : Int) < 2 ^ 63 - 1 := by decide
    simp only [beq_eq_false_iff_ne]; exact ar1 this hz
  have f3 : Builtin.Bytes.tooLong n.toNat = false := by
    unfold Builtin.Bytes.tooLong
    simp only [decide_eq_false_iff_not]; exact ar2 hz
  rw [f1, if_neg (by simp), if_neg (by exact ar3 h0), f2, if_neg (by simp), f3, if_neg (by simp)]
  refine wpAny_bind (wpAny_rule ?_)
  by_cases hp : n > 0
  · rw [if_pos hp]
    refine wpAny_bind (write_ba (c := List.replicate n.toNat 0) e1 (by simp) (by rw [List.length_replicate]; exact ar4 hz) fun h2 e2 sb2 => ?_)
    refine wpAny_pure (h h2 e2 ?_)
    exact ⟨sb2.1.trans sb1.1, fun b hb => (sb2.2 b hb).trans (sb1.2 b hb)⟩
  · rw [if_neg hp]
    have : n = 0 := by exact ar5 h0 hp
    subst this
    exact wpAny_pure (h h1 e1 sb1)
end
end Mine
end

section
open PySem PyProof.Rows
set_option Elab.async false
set_option linter.unusedVariables false
set_option maxRecDepth 100000
namespace Mine
section
variable {prog : Program} {w : World} {A : Around} {E : Value → Shared → Prop} {s : Shared} {R : Result → Shared → Prop}

theorem codeC_builtin {id : String} {args : Args} {b : Builtin} (hd : dec (.builtin id args) = false) (hb : entryFor table id = some b)
    (h : wpC (model prog w) (A.under (.builtin id args)) (b args) (fun fin s' => match fin with | .done f => R (.ok f) s' | .again c' => c'.quiet = true ∧ codeC (model prog w) A c' R s') (fun e s' => R (.error e) s') s) :
    codeC (model prog w) A (.builtin id args) R s := by
  refine codeC_tree hd ?_
  show wpC _ _ (match entryFor table id with | some b => b args | none => unsupported ((withoutEnding? id "#data").getD id)) _ _ s
  rw [hb]; exact h

theorem dec_id {id : String} {args : Args} (h : Builtin.Bytes.decodersThatHold.contains id = false) : dec (.builtin id args) = false := h
theorem codeC_call_builtin {id : String} {args : Args} {b : Builtin} (hd : Builtin.Bytes.decodersThatHold.contains id = false) (hq : plainId id = true) (hb : entryFor table id = some b)
    (h : wpAny (model prog w) A.in1 (checkBuiltinCall id args) (fun _ s₁ => wpC (model prog w) A.in1 (b args)
      (fun fin s' => match fin with | .done f => R (.ok f) s' | .again c' => c'.quiet = true ∧ codeC (model prog w) A c' R s') (fun e s' => R (.error e) s') s₁) (fun e s' => R (.error e) s') s) : codeC (model prog w) A (.call (.builtin id) args) R s := by
  refine codeC_tree rfl ?_
  show wpC _ A.in1 (do checkBuiltinCall id args; again (.builtin id args)) _ _ s
  refine wpC_first (wpAny_mono h (fun _ s₁ h₁ => wpC_pure ⟨plainId_quiet hq args, codeC_builtin (dec_id hd) hb ?_⟩) fun _ _ h' => h')
  rw [Around.under_plainId hq args]; exact h₁

theorem call_ba {n : Int} {t : Tok} {Q : Value → Shared → Prop} (hg : A.guards = some []) (h0 : 0 ≤ n) (hz : n ≤ sizeLine)
    (h : ∀ h', h'.get? s.heap.objs.size = some (bobj (List.replicate n.toNat 0)) → (∀ b o, s.heap.get? b = some o → h'.get? b = some o) → Q (.ref s.heap.objs.size) { s with heap := h' }) :
    wpC (model prog w) A (call (.type "bytearray") [.int n t]) Q E s := by
  have ft := called_ba
  obtain ⟨c, tl, hmro⟩ := ft.mro
  refine wpC_runValue (codeC_tree rfl ?_)
  show wpC _ _ (callAny (.type "bytearray") _) _ _ _
  refine wpC_pure ⟨Code.quiet_builtin _ (by decide +kernel), codeC_builtin (show dec (.builtin "type.__call__" _) = false from dec_id (by decide)) F.entry_type_call ?_⟩
  rw [Around.under_plain (weight_type_call_type "bytearray" [.int n t] []) rfl]
  unfold Builtin.«type.__call__»
  dsimp only
  rw [ft.notType, if_neg Bool.false_ne_true, ft.canCreate, if_neg Bool.false_ne_true]
  refine wpC_bind (wpC_of_eq (typeCall_ba _) (wpC_pure ?_))
  refine wpC_bind (wpC_of_eq hmro (wpC_pure ?_))
  rw [if_neg (by simp)]
  refine wpC_bind (wpC_of_eq ft.made (wpC_pure ?_))
  dsimp only
  refine wpC_bind (wpC_pure ?_)
  refine wpC_first (wpAny_holding (wpAny_runValue ?_))
  refine codeAny_mono (code_ba_new (.int n t) (E := fun e s' => False) (Q₁ := fun v s₁ => v = .ref s.heap.objs.size ∧ s₁ = { s with heap := s.heap.push { cls := .type "bytearray", data := .bytearray #[] } }) ⟨rfl, rfl⟩) fun r s₁ hr => ?_
  cases r with
  | error e => exact hr.elim
  | ok fl =>
    cases fl with
    | ret obj =>
      obtain ⟨rfl, rfl⟩ := hr
      have hS : (s.heap.push { cls := .type "bytearray", data := .bytearray #[] }).get? s.heap.objs.size = some (bobj []) := Heap.get?_push_size _ rfl
      have hT : ({ s with heap := s.heap.push { cls := .type "bytearray", data := .bytearray #[] } } : Shared).TypeIs (.ref s.heap.objs.size) "bytearray" := ⟨_, hS, rfl⟩
      refine wpC_first (wpAny_isInstance hT sub_ba ?_)
      rw [if_neg (by simp)]
      refine wpC_bind (wpC_holding ?_)
      unfold callSpecial?
      refine wpC_first (wpAny_specialOf hT ft.init.lookup ?_)
      dsimp only
      refine wpC_holding ?_
      refine wpC_bind (wpC_of_eq (ft.init.bind _) (wpC_pure ?_))
      dsimp only
      refine wpC_bind (wpC_runValue (codeC_call_builtin (by decide) ft.init.plain entry_ba_init (ft.init.check _ _ _ _ _ _ _ _ hT (args_ba_init _ _) ?_)))
      refine init_ba (by exact hg) hS h0 hz fun h' e' sb => ?_
      refine wpC_pure ?_
      dsimp only
      rw [if_neg (by simp)]
      refine wpC_pure (h h' e' fun b o e => ?_)
      exact sb.extBut b o (Nat.ne_of_lt (Heap.lt_size e)) (Heap.get?_push_of_some _ e)
    | _ => exact hr.elim
end
end Mine
end

section
open PySem PyProof.Rows
set_option Elab.async false
set_option linter.unusedVariables false
set_option maxRecDepth 100000
namespace Mine
section
variable {M : Model} {A : Around} {E : Value → Shared → Prop} {s : Shared} {env : Env}

theorem stC_one {st : Stmt} {rest : List Stmt} {Q : Flow → Shared → Prop} (h : wpAny M A (execs [st] env) (fun f s' => match f with | .next => wpC M A (execs rest env) Q E s' | f => Q f s') E s) :
    wpC M A (execs (st :: rest) env) Q E s := fun Γ p hΓ hc => by
  have h1 := h Γ p hΓ
  rw [execs_cons, Sem.wp_bind'] at h1 ⊢
  refine Sem.wp_mono M Γ _ (fun f p' s' h' => ?_) (fun _ _ _ h' => h') _ _ h1
  cases f with
  | next =>
    have h2 : Sem.wp M Γ (execs [] env) (fun a _ s' => match a with | .next => wpC M A (execs rest env) Q E s' | f => Q f s') (fun e _ s' => E e s') p' s' := h'
    exact h2 Γ p' hΓ hc
  | _ => exact h'

theorem wpC_execs_cons {st : Stmt} {rest : List Stmt} {Q : Flow → Shared → Prop} (h : wpC M A (exec st env) (fun f s' => match f with | .next => wpC M A (execs rest env) Q E s' | f => Q f s') E s) :
    wpC M A (execs (st :: rest) env) Q E s := fun Γ p hΓ hc => by
  rw [execs_cons, Sem.wp_bind']
  refine Sem.wp_mono M Γ _ (fun f p' s' h' => ?_) (fun _ _ _ h' => h') _ _ (h Γ p hΓ hc)
  cases f with
  | next => exact h' Γ p' hΓ hc
  | _ => exact h'

theorem wpC_assign {x : Str} {px pos : Pos} {value : Expr} {Q : Flow → Shared → Prop} (h : wpC M A (eval value env) (fun v s₁ => wpAny M A (storeName env x v) (fun _ => Q .next) E s₁) E s)
    (hs : swapsWith value (some (.Name x px)) pos.line env = pure false) : wpC M A (exec (.Assign [.Name x px] value pos) env) Q E s := by
  rw [exec_Assign_Name env x px value pos hs]
  refine wpC_first (wpAny_standAt (wpC_bind (wpC_mono h (fun v s₁ h₁ => ?_) fun _ _ e => e)))
  refine wpC_first (wpAny_standAt (wpC_first ?_))
  refine fun Γ p hΓ => ?_
  rw [Sem.wp_bindName]
  refine Sem.wp_mono M Γ _ (post := fun _ _ s₂ => Q .next s₂) (fun _ _ s₂ h₂ => ?_) (fun _ _ _ h' => h') _ _ (h₁ Γ p hΓ)
  exact wpC_pure h₂

theorem wpC_keep {α : Type} {vs : List Value} {m : Sem α} {Q : α → Shared → Prop} (h : wpC M A m Q E s) : wpC M A (m.keep vs) Q E s := fun Γ p hΓ hc => by rw [Sem.wp_keep]; exact h Γ p hΓ hc

theorem wpC_Call {id : Str} {p pos : Pos} {args : List Expr} {Q : Value → Shared → Prop} (h : wpAny M A (eval (.Name id p) env) (fun f s₁ => wpC M A (callWith pos f [] (backTo pos (starEach args env)) []) Q E s₁) E s) :
    wpC M A (eval (.Call (.Name id p) args [] pos) env) Q E s := by
  show wpC M A (do callWith pos (← eval (.Name id p) env) [] (backTo pos (starEach args env)) (backToKw pos (keywordEach [] env))) Q E s
  exact wpC_first h

theorem wpC_callWith {pos : Pos} {a : Addr} {o : Obj} {fd : FuncData} {args : List (Bool × Sem Value)} {Q : Value → Shared → Prop} (hp : args.any (·.1) = false)
    (h : wpAny M A (evalArgs (.ref a) true args []) (fun x s₁ => (s₁.heap.get? a = some o ∧ o.data = .func fd) ∧ wpC M A (call (.ref a) x.pos x.kw) Q E s₁) E s) : wpC M A (callWith pos (.ref a) [] args []) Q E s := by
  unfold callWith
  refine wpC_first (wpAny_holding (wpAny_mono h (fun x s₁ h₁ => wpC_first (wpAny_standAt ?_)) fun _ _ x => x))
  have tail : ∀ {t : Sem Value}, wpC M A t Q E s₁ → wpC M A (t >>= fun r => holding [r] point >>= fun _ => pure r) Q E s₁ :=
    fun ht => wpC_bind (wpC_mono ht (fun r s₂ hr => wpC_any (wpAny_bind (wpAny_holding (wpAny_point (wpAny_pure hr))))) fun _ _ x => x)
  simp only [hp, List.any_nil, Bool.or_false]
  refine wpC_first (m := keeperOf (.ref a)) ?_
  unfold keeperOf
  refine wpAny_bind (wpAny_load h₁.1.1 ?_)
  rw [h₁.1.2]
  refine wpAny_pure ?_
  dsimp only
  split
  · exact tail h₁.2
  · exact tail (by unfold callMarked; exact wpC_keep h₁.2)

theorem wpC_callWithT {pos : Pos} {T : String} {args : List (Bool × Sem Value)} {Q : Value → Shared → Prop} (hp : args.any (·.1) = false)
    (h : wpAny M A (evalArgs (.type T) true args []) (fun x s₁ => wpC M A (call (.type T) x.pos x.kw) Q E s₁) E s) : wpC M A (callWith pos (.type T) [] args []) Q E s := by
  unfold callWith
  refine wpC_first (wpAny_holding (wpAny_mono h (fun x s₁ h₁ => wpC_first (wpAny_standAt ?_)) fun _ _ x => x))
  simp only [hp, List.any_nil, Bool.or_false]
  refine wpC_bind (wpC_pure ?_)
  exact wpC_bind (wpC_mono h₁ (fun r s₂ hr => wpC_any (wpAny_bind (wpAny_holding (wpAny_point (wpAny_pure hr))))) fun _ _ x => x)
end
end Mine
end

section
open PySem PyProof.Rows
set_option Elab.async false
set_option linter.unusedVariables false
set_option maxRecDepth 100000
namespace Mine

theorem slot_ba_setitem : PySem.Slot "bytearray" "__setitem__" "bytearray.__setitem__" :=
  .of (owner := "bytearray") (n := "__setitem__") (by rw [typeLookup_type, builtinLookup_eq_fast]; kernel_rfl) (by decide +kernel) (by decide +kernel) (by decide +kernel) (.inl (by decide +kernel)) (by rw [isSubtype_type]; kernel_rfl)
theorem entry_ba_setitem : entryFor table "bytearray.__setitem__" = some Builtin.«bytearray.__setitem__» := entryFor_of_tree (by kernel_rfl)
theorem args_ba_setitem (a b c : Value) : argsOk "bytearray.__setitem__" ⟨[a, b, c], []⟩ := by
  unfold argsOk; kernel_rfl
theorem ba_no_bytes : typeLookup (.type "bytearray") "__bytes__" = pure none := by rw [typeLookup_type, builtinLookup_eq_fast]; kernel_rfl
theorem ba_no_index : typeLookup (.type "bytearray") "__index__" = pure none := by rw [typeLookup_type, builtinLookup_eq_fast]; kernel_rfl
theorem ba_buffer : typeLookup (.type "bytearray") "__buffer__" = pure (some (.builtin "bytearray.__buffer__")) := by rw [typeLookup_type, builtinLookup_eq_fast]; kernel_rfl
theorem ends_ba_buffer : ("bytearray.__buffer__".endsWith ("." ++ "__buffer__")) = true := by decide +kernel
theorem drop_ba_buffer : ("bytearray.__buffer__".dropRight ("__buffer__".length + 1)) = "bytearray" := by decide +kernel

section
variable {prog : Program} {w : World} {A : Around} {E : Value → Shared → Prop} {s : Shared} {S : Addr}

theorem payload_ba {b : List UInt8} {Q : Array UInt8 → Shared → Prop} (hS : s.heap.get? S = some (bobj b)) (h : Q b.toArray s) : wpAny (model prog w) A (Builtin.Bytes.payload (.ref S)) Q E s := by
  unfold Builtin.Bytes.payload Builtin.Bytes.payload?
  refine wpAny_bind (wpAny_bind (wpAny_load hS ?_))
  exact wpAny_pure (wpAny_pure h)

theorem subscript_int {k : Int} {t : Tok} {Q : Option Int → Shared → Prop} (h0 : 0 ≤ k) (h1 : k < 2 ^ 63) (h : Q (some k) s) : wpAny (model prog w) A (Builtin.Bytes.subscript? (.int k t)) Q E s := by
  unfold Builtin.Bytes.subscript?
  refine wpAny_bind (wpAny_specialOf (T := "int") (v := .int k t) rfl PySem.int_index ?_)
  refine bm_if_false rfl ?_
  refine wpAny_bind (wpAny_of_eq (rfl : asIndex (.int k t) = pure k) ?_)
  refine bm_if_false ?_ (wpAny_pure h)
  unfold Builtin.Bytes.fitsIndex
  simp only [Bool.not_eq_false', Bool.and_eq_true, decide_eq_true_eq]
  exact ar6 h0 h1
theorem byteValue_int {v : Int} {u : Tok} {Q : UInt8 → Shared → Prop} (h0 : 0 ≤ v) (h1 : v < 256) (h : Q v.toNat.toUInt8 s) : wpAny (model prog w) A (Builtin.Bytes.byteValue (.int v u)) Q E s := by
  unfold Builtin.Bytes.byteValue
  refine wpAny_bind (wpAny_of_eq (rfl : asIndex (.int v u) = pure v) ?_)
  exact bm_if_false (by simp only [Bool.or_eq_false_iff, decide_eq_false_iff_not]; exact ar7 h0 h1) (wpAny_pure h)
theorem setItem_ba {b : List UInt8} {k v : Int} {t u : Tok} {Q : Unit → Shared → Prop} (hS : s.heap.get? S = some (bobj b)) (hz : b.length ≤ sizeLine) (h0 : 0 ≤ k) (h1 : k < b.length) (v0 : 0 ≤ v) (v1 : v < 256)
    (hQ : ∀ h', h'.get? S = some (bobj (b.set k.toNat v.toNat.toUInt8)) → Heap.SameBut S s.heap h' → Q () { s with heap := h' }) :
    wpAny (model prog w) A (setItem (.ref S) (.int k t) (.int v u)) Q E s := by
  have hT : s.TypeIs (.ref S) "bytearray" := ⟨_, hS, rfl⟩
  unfold setItem
  try with_reducible refine wpAny_holding ?_
  first | refine wpAny_bind (wpAny_pure ?_) | skip
  refine wpAny_bind (wpAny_sequenceKey hT (by decide) ?_)
  refine wpAny_bind (wpAny_callSpecial?_slot (name := Str.ofString "__setitem__") hT slot_ba_setitem (wpAny_call_entry slot_ba_setitem hT entry_ba_setitem ?_ (args_ba_setitem _ _ _)))
  unfold Builtin.«bytearray.__setitem__»
  dsimp only
  rw [if_neg (by simp)]
  refine wpAny_bind (subscript_int h0 (by have : (sizeLine : Int) < 2 ^ 63 := by decide
                                          exact ar8 this hz h1) ?_)
  dsimp only
  refine wpAny_bind (byteValue_int v0 v1 ?_)
  refine wpAny_bind (payload_ba hS ?_)
  rw [show seqIndex? k b.toArray.size = some k.toNat from seqIndex_of h0 (by simpa using h1)]
  dsimp only
  refine wpAny_bind (write_ba (c := b.set k.toNat v.toNat.toUInt8) hS (by simp) (by simpa using hz) fun h' e' sb => ?_)
  first
    | exact wpAny_pure ⟨.none, rfl, wpAny_pure (hQ h' e' sb)⟩
    | exact wpAny_bind (wpAny_pure (wpAny_pure ⟨.none, rfl, wpAny_pure (hQ h' e' sb)⟩))


theorem bytes_ba {b : List UInt8} {Q : Value → Shared → Prop} (hS : s.heap.get? S = some (bobj b)) (hz : b.length ≤ sizeLine)
    (hQ : ∀ t k, Q (.bytes b.toArray t) { s with toks := k }) :
    codeAny (model prog w) A (.call (.builtin "bytes.__new__") ⟨[.type "bytes", .ref S], []⟩) (wants Q E) s := by
  refine codeAny_of_tree ?_
  show wpAny _ A.in1 (do checkBuiltinCall "bytes.__new__" ⟨[.type "bytes", .ref S], []⟩; again (.builtin "bytes.__new__" ⟨[.type "bytes", .ref S], []⟩)) _ _ s
  refine wpAny_bind (wpAny_of_eq (F.bm_newCall _) (wpAny_pure ⟨plainId_quiet F.bm_plain _, codeAny_builtin F.bm_entry ?_⟩))
  rw [Around.under_plainId F.bm_plain _]
  have hT : s.TypeIs (.ref S) "bytearray" := ⟨_, hS, rfl⟩
  unfold Builtin.«bytes.__new__»
  refine wpAny_bind (wpAny_of_eq (a := true) rfl ?_)
  refine bm_if_false rfl ?_
  refine wpAny_bind (wpAny_of_eq F.bm_sub ?_)
  refine bm_if_false rfl ?_
  refine wpAny_bind (wpAny_of_eq (F.bm_bind _) ?_)
  refine wpAny_bind (wpAny_of_eq (a := ()) rfl ?_)
  refine wpAny_bind (wpAny_of_eq (a := ()) rfl ?_)
  refine bm_if_false rfl ?_
  refine wpAny_bind (wpAny_specialOf hT ba_no_bytes ?_)
  refine wpAny_bind (wpAny_bind ?_)
  show wpAny _ _ (load S >>= _) _ _ _
  refine wpAny_bind (wpAny_load hS ?_)
  refine wpAny_pure (wpAny_pure ?_)
  refine bm_if_false rfl ?_
  refine wpAny_bind (wpAny_specialOf hT ba_no_index ?_)
  refine bm_if_true rfl ?_
  first
    | show wpAny _ _ (Builtin.Bytes.buffer? "bytes.__new__" (.ref S) true >>= _) _ _ _
    | (refine wpAny_bind ?_; show wpAny _ _ (Builtin.Bytes.buffer? "bytes.__new__" (.ref S) true >>= _) _ _ _)
  refine wpAny_bind ?_
  unfold Builtin.Bytes.buffer?
  refine wpAny_bind (wpAny_specialOf hT ba_buffer ?_)
  try dsimp only
  refine wpAny_bind ?_
  unfold Builtin.Bytes.slotIsOwn
  refine wpAny_bind (wpAny_specialOf hT ba_buffer ?_)
  try dsimp only
  rw [ends_ba_buffer, drop_ba_buffer]
  refine wpAny_isInstance hT sub_ba ?_
  refine bm_if_false rfl ?_
  refine wpAny_bind (wpAny_specialOf hT ba_buffer ?_)
  try dsimp only
  refine wpAny_bind (own_release hT ?_)
  refine bm_if_false rfl ?_
  refine wpAny_bind (payload_ba hS ?_)
  refine wpAny_pure ?_
  dsimp only
  refine wpAny_bind (wpAny_rule ?_)
  refine wpAny_bind (wpAny_mkBytes ?_ (by simpa using hz))
  show wpAny _ _ (if (Value.type "bytes" == Value.type "bytes") = true then _ else _) _ _ _
  refine bm_if_true (by decide) ?_
  first
    | exact wpAny_pure (hQ _ _)
    | exact wpAny_bind (wpAny_pure (wpAny_pure (hQ _ _)))
theorem call_bytes_ba {b : List UInt8} {Q : Value → Shared → Prop} (hS : s.heap.get? S = some (bobj b)) (hz : b.length ≤ sizeLine)
    (hQ : ∀ t k, Q (.bytes b.toArray t) { s with toks := k }) : wpAny (model prog w) A (call (.type "bytes") [.ref S]) Q E s := by
  refine callType_codes (Q₁ := fun obj s₁ => s₁.TypeIs obj "bytes" ∧ Q obj s₁) F.bm_called (F.bm_typeCall _) F.entry_object_init
    (bytes_ba hS hz fun t k => ⟨PySem.W.typeIs_bytes _ _ _, hQ t k⟩) fun obj s₁ h₁ => ?_
  exact ⟨h₁.1, F.args_object_init_2 obj _, object_init_meets F.bm_called.init.lookup F.bm_called.made (by decide) prog w A.in1 _ s₁ ⟨h₁.1, rfl, h₁.2⟩⟩
end

section
variable {prog : Program} {w : World} {G : Glo} {env : Env} {X₀ : Addr → Prop} {own : List Addr} {GN : List (Str × NameKind)} {kept : Addr → Option Obj} {S : Shared} {st st' : List (Str × Slot)} {A : Around} {E : Value → Shared → Prop} {s : Shared}
  {rest : List Stmt} {Q : Flow → Shared → Prop}

theorem Rel.mutateB {x : Str} {a : Addr} {b c : List UInt8} {h' : Heap} (tk : Nat) (R : Rel G env X₀ own GN kept S st s) (hx : (x, Slot.ownB a b) ∈ st) (hU : Upd x (.ownB a c) st st') (hE : Heap.ExtBut a s.heap h') (hg : h'.get? a = some (bobj c))
    (hl : c.length ≤ sizeLine) : Rel G env X₀ own GN kept S st' { s with heap := h', toks := tk } := by
  have hao : a ∈ own := R.oin _ hx a rfl
  obtain ⟨m, hn⟩ := R.ns
  obtain ⟨o0, e0, m0⟩ := R.ownl a hao
  have hL : a ≠ env.locals := fun z => by
    obtain ⟨o', es, ep, e', hd', _⟩ := hn
    rw [← z, e0] at e'; cases e'
    rw [hd'] at m0
    rcases m0 with ⟨_, _, q⟩ | ⟨_, _, q⟩ <;> cases q
  have hC : ∀ y c, env.cells.lookup y = some c → a ≠ c := fun y c e z => by
    obtain ⟨u, o', e', hd'⟩ := R.cells y c e
    rw [← z, e0] at e'; cases e'
    rw [hd'] at m0
    rcases m0 with ⟨_, _, q⟩ | ⟨_, _, q⟩ <;> cases q
  have kp' : ∀ b o, kept b = some o → h'.get? b = some o := fun b o e => hE b o (fun z => (R.apart b o e).2.2 (z ▸ hao)) (R.keep b o e)
  have own' : ∀ b ∈ own, ∃ o, h'.get? b = some o ∧ Mutbl o.data := fun b hb => by
    by_cases z : b = a
    · subst z; exact ⟨_, hg, .inr ⟨_, _, rfl⟩⟩
    · obtain ⟨o, e, q⟩ := R.ownl b hb; exact ⟨o, hE _ _ z e, q⟩
  have var : ∀ y v, VarIs env s.heap y v → VarIs env h' y v := fun y v q => VarIs.ext hE hL (fun c e => hC y c e) q
  refine ⟨⟨R.gk h' kp', R.e.kd, R.e.gl, R.e.bl, R.e.gn, R.e.cn, by rw [hU.names]; exact R.e.nd, fun b hb => ?_, fun p hp => ?_⟩, kp', R.apart, ⟨m, hn.extBut hE (Ne.symm hL)⟩, fun y c e => ?_, R.cinj, R.gk, R.xk, own', by rw [hU.names]; exact R.nodup, fun p hp q hq b e1 e2 => ?_, fun p hp b e1 => ?_, ?_⟩
  · rcases hb with hb | hb
    · obtain ⟨o, e⟩ := R.xk b hb; exact ⟨o, kp' b o e⟩
    · obtain ⟨o, e, _⟩ := own' b hb; exact ⟨o, e⟩
  · rcases hU.mem R.nodup p hp with rfl | ⟨hp1, hp2⟩
    · obtain ⟨q1, q2, _⟩ := R.e.vars _ hx
      exact ⟨var _ _ q1, q2, hl, hg⟩
    · refine slot_ext hE (.inl (.inr hao)) (var p.1) (fun b hb z => ?_) (R.e.vars p hp1)
      subst z
      exact hp2 (R.odist p hp1 _ hx b hb rfl)
  · obtain ⟨u, o', e', hd'⟩ := R.cells y c e
    exact ⟨u, o', hE _ _ (Ne.symm (hC y c e)) e', hd'⟩
  · have back : ∀ p ∈ st', ∀ b, slotAddr p.2 = some b → ∃ p' ∈ st, p'.1 = p.1 ∧ slotAddr p'.2 = some b := fun p hp b e => by
      rcases hU.mem R.nodup p hp with rfl | ⟨hp1, hp2⟩
      · exact ⟨_, hx, rfl, e⟩
      · exact ⟨p, hp1, rfl, e⟩
    obtain ⟨p', p1, p2, p3⟩ := back p hp b e1
    obtain ⟨q', q1, q2, q3⟩ := back q hq b e2
    rw [← p2, ← q2]
    exact R.odist p' p1 q' q1 b p3 q3
  · rcases hU.mem R.nodup p hp with rfl | ⟨hp1, hp2⟩
    · cases e1; exact hao
    · exact R.oin p hp1 b e1
  · obtain ⟨a, b, rfl⟩ := R.sh; exact ⟨_, _, rfl⟩

theorem st_setB {x : Str} {px sp pos : Pos} {i value : Expr} {a : Addr} {b : List UInt8} {k v : Int} (hx : (x, Slot.ownB a b) ∈ st) (hv : Ev prog w G env (Xof X₀ own) GN st A value (.int v)) (hi : Ev prog w G env (Xof X₀ own) GN st A i (.int k)) (h0 : 0 ≤ k) (h1 : k < b.length)
    (v0 : 0 ≤ v) (v1 : v < 256) (hU : Upd x (.ownB a (b.set k.toNat v.toNat.toUInt8)) st st') (R : Rel G env X₀ own GN kept S st s) (h : ∀ s', Rel G env X₀ own GN kept S st' s' → wpAny (model prog w) A (execs rest env) Q E s')
    (hs : swapsWith value (some (.Subscript (.Name x px) i sp)) pos.line env = pure false := by rfl) :
    wpAny (model prog w) A (execs (.Assign [.Subscript (.Name x px) i sp] value pos :: rest) env) Q E s := by
  refine wpAny_execs_cons (wpAny_Assign_Subscript (wpAny_mono (hv s E R.e) (fun v s1 q => ?_) fun _ _ e => e) hs)
  obtain ⟨k1, D⟩ := q
  simp only [Den] at D
  obtain ⟨u, rfl⟩ := D
  have R1 := R.kp k1
  obtain ⟨q1, q2, q3, hg⟩ := R1.e.vars _ hx
  refine var_load R1.e hx q1 (wpAny_mono (hi s1 E R1.e) (fun iv s2 q => ?_) fun _ _ e => e)
  obtain ⟨k2, Di⟩ := q
  simp only [Den] at Di
  obtain ⟨t, rfl⟩ := Di
  refine setItem_ba (k2.hk _ _ hg) q3 h0 h1 v0 v1 fun h' e' sb => ?_
  exact h _ ((R1.kp k2).mutateB s2.toks hx hU sb.extBut e' (by simpa using q3))

theorem ev_bytesBA {x y : Str} {px p pos : Pos} {X : Addr → Prop} {a : Addr} {b : List UInt8} (hm : (Str.ofString "bytes", NameKind.globalImplicit) ∈ GN) (hy : y = Str.ofString "bytes") (hx : (x, Slot.ownB a b) ∈ st)
    (he : starEach [.Name x px] env = (false, eval (.Name x px) env) :: starEach [] env := by rfl) : Ev prog w G env X GN st A (.Call (.Name y p) [.Name x px] [] pos) (.bytes b) := by
  subst hy
  intro s E r
  have hp : (backTo pos (starEach [.Name x px] env)).any (·.1) = false := by rw [he]; rfl
  refine wpAny_Call_NameR (builtin_load r hm (v := .type "bytes") (by simp [bnames]) ?_)
  refine PyProof.Rows.callWith_type hp (evalArgs_all hp ?_)
  obtain ⟨q1, q2, q3, hg⟩ := r.vars _ hx
  refine spliced_more (var_load r hx q1 (spliced_none ?_)) he
  refine call_bytes_ba hg q3 fun t k => ⟨.toks s _, ?_⟩
  simp only [Den]
  exact ⟨q3, t, rfl⟩
end
end Mine
end

section
open PySem PyProof.Rows
set_option Elab.async false
set_option linter.unusedVariables false
set_option maxRecDepth 100000
namespace Mine

section
variable {prog : Program} {w : World} {A : Around}

theorem codeC_func {body : List Stmt} {env : Env} {R : Result → Shared → Prop} {s : Shared}
    (h : wpC (model prog w) (A.deeper env) (execs body env) (fun f s' => R (.ok (.ret (match f with | .ret v => v | _ => .none))) s') (fun _ _ => False) s) :
    codeC (model prog w) A (.func body env) R s := by
  refine codeC_tree rfl ?_
  show wpC _ (A.deeper env) (do point; match ← (execs body env).onRaise (leaving env) with | .ret v => ret v | _ => ret .none) _ _ s
  refine wpC_first (wpAny_point (wpC_bind (wpC_onRaise (wpC_mono h (fun f s' h' => ?_) fun _ _ h' => h'.elim))))
  cases f <;> exact wpC_pure h'

theorem codeC_call_cells {R : Result → Shared → Prop} {s : Shared} {a : Addr} {o : Obj} {fd : FuncData} {body : List Stmt} {vals : List Value} {binds : List (Str × Value)}
    (hroom : A.depth < recursionLimit) (ho : s.heap.get? a = some o) (hdata : o.data = .func fd) (hlim : s.heap.NoLimit) (hcd : s.heap.CodeRec fd.code fd.qualname)
    (hbody : fd.body = .stmts body) (hbind : bindArgs fd ⟨vals, []⟩ = pure binds) (hclo : fd.closure = [])
    (hkind : ∀ x ∈ binds, fd.scope.names.lookup x.1 = some .local ∨ (fd.scope.names.lookup x.1 = some .cell ∧ ((cellsFrom (s.heap.objs.size + 1) fd.scope.names []).lookup x.1).isSome = true))
    (h : ∀ s₁, InCallC s (callEnvC fd s.heap.objs.size a).locals (bindL (callEnvC fd s.heap.objs.size a).kindOf binds fun _ => none) (callEnvC fd s.heap.objs.size a).cells
        (bindC (callEnvC fd s.heap.objs.size a).kindOf binds fun _ => none) s₁ →
      wpC (model prog w) (A.deeper (callEnvC fd s.heap.objs.size a)) (execs body (callEnvC fd s.heap.objs.size a)) (fun f s' => R (.ok (.ret (match f with | .ret v => v | _ => .none))) s')
        (fun _ _ => False) s₁)
    (hco : fd.scope.isCoroutine = false) (hgen : fd.scope.isGenerator = false) (hk : fd.scope.kind = .function) :
    codeC (model prog w) A (.call (.ref a) ⟨vals, []⟩) R s := by
  refine codeC_tree rfl ?_
  show wpC _ A.in1 (callAny (.ref a) _) _ _ s
  simp only [callAny]
  refine wpC_first (wpAny_load ho ?_)
  obtain ⟨c, oc, vs, tq, hc, hoc, hdc, hq⟩ := hcd
  simp only [hdata, callFunction, hco, hgen, hbody, hc]
  refine wpC_first (m := field (.ref c) 1) (wpAny_field hoc hdc hq (wpC_bind (wpC_pure ?_)))
  rw [hbind]
  refine wpC_first (wpAny_pure ?_)
  refine wpC_first ?_
  rw [hclo]
  refine wpAny_newFunctionEnv_cells hk hkind fun env he s' x => ?_
  have h' := h s'
  rw [show callEnvC fd s.heap.objs.size a = env from by rw [he, ← hc]; rfl] at h'
  refine wpC_first (wpAny_enterFrame (hlim.keeps x.toInCall.keep) hroom (wpC_pure (And.intro rfl (codeC_func (h' x)))))

noncomputable def FunC (prog : Program) (w : World) (G : Glo) (A : Around) (f : Value) (ds : List V) (d : V) : Prop :=
  ∀ (X : Addr → Prop) (s : Shared) (E : Value → Shared → Prop) (vs : List Value), (∀ a, X a → ∃ o, s.heap.get? a = some o) → G.P s.heap → DenL X s.heap ds vs →
    wpC (model prog w) A (call f vs) (fun r s' => Kp s s' ∧ Den X s'.heap d r) E s
end

section
variable {prog : Program} {w : World} {G : Glo} {env : Env} {X₀ : Addr → Prop} {own : List Addr} {GN : List (Str × NameKind)} {kept : Addr → Option Obj} {S : Shared} {st st' : List (Str × Slot)} {A : Around} {E : Value → Shared → Prop} {s : Shared}
  {rest : List Stmt} {Q : Flow → Shared → Prop}

theorem stC_ownB {x y : Str} {px p cp pos : Pos} {e : Expr} {n : Int} {k : NameKind} {st' : Addr → List (Str × Slot)} (hm : (Str.ofString "bytearray", NameKind.globalImplicit) ∈ GN) (hy : y = Str.ofString "bytearray") (hg : A.guards = some []) (hE : Ev prog w G env (Xof X₀ own) GN st A e (.int n)) (h0 : 0 ≤ n) (hz : n ≤ sizeLine)
    (hU : ∀ a, Upd x (.ownB a (List.replicate n.toNat 0)) st (st' a)) (hk : (x, k) ∈ GN) (hk' : k = .local ∨ k = .cell) (R : Rel G env X₀ own GN kept S st s)
    (h : ∀ a s', Rel G env X₀ (a :: own) GN kept S (st' a) s' → wpC (model prog w) A (execs rest env) Q E s')
    (hsw : swapsWith (.Call (.Name y p) [e] [] cp) (some (.Name x px)) pos.line env = pure false := by rfl) (he : starEach [e] env = (false, eval e env) :: starEach [] env := by rfl) :
    wpC (model prog w) A (execs (.Assign [.Name x px] (.Call (.Name y p) [e] [] cp) pos :: rest) env) Q E s := by
  subst hy
  have hp : (backTo cp (starEach [e] env)).any (·.1) = false := by rw [he]; rfl
  refine wpC_execs_cons (wpC_assign (wpC_Call (builtin_load R.e hm (v := .type "bytearray") (by simp [bnames]) (wpC_callWithT hp (evalArgs_all hp ?_)))) hsw)
  refine spliced_more (wpAny_mono (hE s E R.e) (fun v s1 q => ?_) fun _ _ e => e) he
  refine spliced_none ?_
  obtain ⟨k1, D⟩ := q
  simp only [Den] at D
  obtain ⟨t, rfl⟩ := D
  refine call_ba hg h0 hz fun h' e' hk2 => ?_
  have k2 : Kp s1 { s1 with heap := h' } := ⟨h', s1.toks, rfl, hk2⟩
  have R1 := (R.kp k1).join (a := s1.heap.objs.size) (o := bobj (List.replicate n.toNat 0)) k2 fresh_none e' (.inr ⟨_, _, rfl⟩)
  refine R1.storeG hk hk' (hU _) (fun h2 b hE' hM hv => ⟨hv, .inr (.head _), by rw [List.length_replicate]; exact ar4 hz, hE' _ _ (fun z => ?_) e'⟩) (fun b e => ?_) fun h' tk b R' _ _ => h _ _ R'
  · subst z; exact hM _ e' (.inr ⟨_, _, rfl⟩)
  · cases e
    refine ⟨.head _, fun p hp _ e => ?_⟩
    have := R.oin p hp _ e
    obtain ⟨o, e', _⟩ := (R.kp k1).ownl _ this
    rw [fresh_none] at e'; cases e'

theorem stC_call {x y : Str} {f : Addr} {px p cp pos : Pos} {es : List Expr} {ds : List V} {d : V} {k : NameKind} (hm : (y, NameKind.globalImplicit) ∈ GN) (hb : G.top y (.ref f)) (hd : Def G f) (hEs : EvL prog w G env (Xof X₀ own) GN st A es ds) (hf : FunC prog w G A (.ref f) ds d)
    (hU : Upd x (.val d) st st') (hk : (x, k) ∈ GN) (hk' : k = .local ∨ k = .cell) (R : Rel G env X₀ own GN kept S st s)
    (h : ∀ s', Rel G env X₀ own GN kept S st' s' → wpC (model prog w) A (execs rest env) Q E s')
    (hsw : swapsWith (.Call (.Name y p) es [] cp) (some (.Name x px)) pos.line env = pure false := by rfl) :
    wpC (model prog w) A (execs (.Assign [.Name x px] (.Call (.Name y p) es [] cp) pos :: rest) env) Q E s := by
  obtain ⟨o, fd, ho, hg⟩ := hd
  refine wpC_execs_cons (wpC_assign (wpC_Call (global_load R.e hm hb (wpC_callWith (o := o) (fd := fd) (hEs.1 cp) (evalArgs_all (hEs.1 cp) ?_)))) hsw)
  refine wpAny_mono (hEs.2 s E cp R.e) (fun vs s1 q => ?_) fun _ _ e => e
  obtain ⟨k1, D⟩ := q
  have R1 := R.kp k1
  refine ⟨⟨hg _ R1.e.g, ho⟩, wpC_mono (hf _ s1 E vs R1.e.xo R1.e.g D) (fun v s2 q => ?_) fun _ _ e => e⟩
  obtain ⟨k2, D2⟩ := q
  exact (R1.kp k2).store hk hk' hU D2 fun h' tk a R' _ _ => h _ R'
end
end Mine
end

section
open PySem PyProof.Rows
set_option Elab.async false
set_option linter.unusedVariables false
namespace Mine
section
variable {prog : Program} {w : World} {G : Glo} {A : Around}

theorem callC_def {X : Addr → Prop} {s : Shared} {E : Value → Shared → Prop} {vs : List Value} {o : Obj} {f : Addr} {fd : FuncData} {body : List Stmt} {ps nms : List Str} {ds : List V} {d : V} {st0 : List (Str × Slot)} (k : Nat) (ho1 : o.data = .func fd) (ho2 : s.heap.get? f = some o ∧ s.heap.CodeRec fd.code fd.qualname) (fb : fd.body = .stmts body) (fc : fd.closure = []) (fg : fd.globals = mainGlobals) (fl : fd.builtins = builtinsNs)
    (hx : ∀ a, X a → ∃ o, s.heap.get? a = some o) (hg : G.P s.heap) (hd : DenL X s.heap ds vs) (hA : Room (k + 1) A) (hb : ∀ vals : List Value, vals.length = ds.length → bindArgs fd ⟨vals, []⟩ = pure (ps.zip vals)) (hlen : ds.length = ps.length)
    (hok : fnOk fd.scope ps nms = true) (hnm : st0.map (·.1) = nms) (hst : ∀ p ∈ st0, p.2 = .un ∨ ∃ e, p.2 = .val e ∧ (p.1, e) ∈ ps.zip ds)
    (hbody : ∀ (env : Env) (X₀ : Addr → Prop) (kept : Addr → Option Obj) (S s : Shared) (Q : Flow → Shared → Prop) (E : Value → Shared → Prop), Room k (A.deeper env) → A.guards = (A.deeper env).guards → Rel G env X₀ [] fd.scope.names kept S st0 s → Ret G env fd.scope.names X₀ kept S d Q →
      wpC (model prog w) (A.deeper env) (execs body env) Q E s) : wpC (model prog w) A (call (.ref f) vs) (fun r s' => Kp s s' ∧ Den X s'.heap d r) E s := by
  have hvl := hd.length
  unfold fnOk at hok
  simp only [Bool.and_eq_true, List.all_eq_true, beq_iff_eq, bne_iff_ne, decide_eq_true_eq, Bool.or_eq_true, Bool.not_eq_true'] at hok
  obtain ⟨⟨⟨⟨⟨⟨⟨o1, o2⟩, o3⟩, o4⟩, o5⟩, o6⟩, o7⟩, o8⟩ := hok
  have hk : ∀ p ∈ ps.zip vs, fd.scope.names.lookup p.1 = some .local ∨ (fd.scope.names.lookup p.1 = some .cell ∧ ((cellsFrom (s.heap.objs.size + 1) fd.scope.names []).lookup p.1).isSome = true) := fun p hp => by
    rcases o5 p.1 (List.of_mem_zip hp).1 with q | q
    · exact .inl q
    · refine .inr ⟨q, ?_⟩
      obtain ⟨c, e⟩ := cellsFrom_look (n := s.heap.objs.size + 1) (lookup_mem q)
      rw [e]; rfl
  refine wpC_runValue (codeC_call_cells (by have := hA.2.1; exact ar9 this) ho2.1 ho1 (G.nolimit _ hg) ho2.2 fb (hb vs hvl) fc hk (fun s₁ x => ?_) o3 o4 o2)
  generalize henv : callEnvC fd s.heap.objs.size f = env at x ⊢
  have esc : env.scope = fd.scope := by rw [← henv]; rfl
  have eloc : env.locals = s.heap.objs.size := by rw [← henv]; rfl
  have ecel : env.cells = cellsFrom (s.heap.objs.size + 1) fd.scope.names [] := by rw [← henv]; rfl
  have ekind : ∀ y, env.kindOf y = fd.scope.names.lookup y := fun y => by unfold Env.kindOf; rw [esc]
  have room : Room k (A.deeper env) := by
    obtain ⟨r1, r2, r3⟩ := hA
    refine ⟨r1, ?_, ?_⟩
    · show A.depth + 1 + k < recursionLimit; exact ar10 r2
    · show A.units + 3 + 8 * k + 64 < cLine; exact ar11 r3
  have kp : HK s.heap s₁.heap := x.toInCall.keep
  have rel : Rel G env X [] fd.scope.names (fun b => s.heap.get? b) s st0 s₁ := by
    refine ⟨⟨G.keeps _ _ hg kp, by rw [esc]; exact o2, by rw [← henv]; exact fg, by rw [← henv]; exact fl, fun p hp => by rw [ekind]; exact (o1 p hp).1, fun y hy => by rw [ecel]; exact cellsFrom_look hy, ⟨?_, ?_⟩, fun a ha => ?_, fun p hp => ?_⟩, kp, fun b o' e => ⟨?_, fun y c e' => ?_, by simp⟩, ⟨_, x.toInCall.ns⟩, fun y c e' => ⟨_, x.cell y c e'⟩, fun y z c e1 e2 => ?_, fun h' q => G.keeps _ _ hg q, hx, (fun a ha => nomatch ha), ?_, fun p hp q hq a e1 => ?_, fun p hp a e1 => ?_, x.toInCall.same⟩
    · intro q
      obtain ⟨p, hp, e⟩ := List.mem_map.mp q
      exact (o1 p hp).2 e
    · intro q
      rw [hnm] at q
      exact o8 _ q rfl
    · rcases ha with ha | ha
      · obtain ⟨o', e⟩ := hx a ha; exact ⟨o', kp _ _ e⟩
      · cases ha
    · rcases hst p hp with e | ⟨t, e, hm⟩
      · rw [e]; trivial
      · rw [e]
        obtain ⟨i, hi⟩ := List.mem_iff_getElem?.mp hm
        have hz := List.getElem?_zip_eq_some.mp hi
        obtain ⟨v, hv, Dv⟩ := hd.get hz.2
        have hmem : (p.1, v) ∈ ps.zip vs := List.mem_iff_getElem?.mpr ⟨i, List.getElem?_zip_eq_some.mpr ⟨hz.1, hv⟩⟩
        refine ⟨v, ?_, (Dv.keeps kp).less fun a q => q.elim id fun z => nomatch z⟩
        rcases o5 p.1 (List.of_mem_zip hmem).1 with q | q
        · exact .inl ⟨by rw [ekind]; exact q, _, x.toInCall.ns, bindL_get ps vs _ o6 hmem (by rw [ekind]; exact q)⟩
        · obtain ⟨c, ec⟩ := cellsFrom_look (n := s.heap.objs.size + 1) (lookup_mem q)
          have ec' : env.cells.lookup p.1 = some c := by rw [ecel]; exact ec
          refine .inr ⟨by rw [ekind]; exact q, c, ec', ?_⟩
          have := x.cell p.1 c ec'
          rwa [bindC_get ps vs _ o6 hmem (by rw [ekind]; exact q)] at this
    · rw [eloc]; exact Nat.ne_of_lt (Heap.lt_size e)
    · have := x.above y c (mem_of_lookup e')
      rw [eloc] at this
      exact Nat.ne_of_lt (Nat.lt_trans (Heap.lt_size e) this)
    · exact name_of_addr x.apart (mem_of_lookup e1) (mem_of_lookup e2)
    · rw [hnm]; exact o7
    · rcases hst p hp with e | ⟨t, e, _⟩ <;> (rw [e] at e1; cases e1)
    · rcases hst p hp with e | ⟨t, e, _⟩ <;> (rw [e] at e1; cases e1)
  refine hbody env X _ s s₁ _ _ room rfl rel ?_
  intro X₁ own kept₁ st v s' a1 a2 R D
  obtain ⟨h', tk, rfl⟩ := R.sh
  exact ⟨⟨h', tk, rfl, fun b o' e => R.keep b o' (a2 b o' e)⟩, D.less fun a q => .inl (a1 a q)⟩


theorem fun_defC {f : Addr} {fd : FuncData} {body : List Stmt} {ps nms : List Str} {ds : List V} {d : V} {st0 : List (Str × Slot)} (k : Nat) (hF : FnIs G f fd body) (hA : Room (k + 1) A) (hb : ∀ vals : List Value, vals.length = ds.length → bindArgs fd ⟨vals, []⟩ = pure (ps.zip vals)) (hlen : ds.length = ps.length)
    (hok : fnOk fd.scope ps nms = true) (hnm : st0.map (·.1) = nms) (hst : ∀ p ∈ st0, p.2 = .un ∨ ∃ e, p.2 = .val e ∧ (p.1, e) ∈ ps.zip ds)
    (hbody : ∀ (env : Env) (X₀ : Addr → Prop) (kept : Addr → Option Obj) (S s : Shared) (Q : Flow → Shared → Prop) (E : Value → Shared → Prop), Room k (A.deeper env) → A.guards = (A.deeper env).guards → Rel G env X₀ [] fd.scope.names kept S st0 s → Ret G env fd.scope.names X₀ kept S d Q →
      wpC (model prog w) (A.deeper env) (execs body env) Q E s) : FunC prog w G A (.ref f) ds d := by
  intro X s E vs hx hg hd
  obtain ⟨o, ho1, ho2⟩ := hF.there
  exact callC_def k ho1 (ho2 _ hg) hF.body hF.clo hF.gl hF.bl hx hg hd hA hb hlen hok hnm hst hbody
end
end Mine
end

section
open PySem PySem.W PyProof.Rows
set_option Elab.async false
set_option linter.unusedVariables false
set_option maxRecDepth 100000
namespace Mine

theorem calm_stack {k : List (Code × Pos) → Sem Fin} {c : Code} {p : Pos} {st : List Frame} : Thread.calm ⟨.stack k, c, p, st⟩ = true := by
  simp only [Thread.calm, Thread.atCollectorCode, Thread.atExit, Thread.yieldsInsideHandler, Bool.not_false, Bool.and_true, Bool.true_and, Bool.or_false]

theorem sched_stack {prog : Program} {w : World} {s : Shared} (hs : s.asleep) {k : List (Code × Pos) → Sem Fin} {c : Code} {p : Pos} {st : List Frame} :
    sstep (denote table) prog w (.single s ⟨.stack k, c, p, st⟩) = .go (.single s ⟨k ((c, p) :: st.map Frame.where_), c, p, st⟩) := by
  have e : step (denote table) prog w s ⟨.stack k, c, p, st⟩ = .go s ⟨k ((c, p) :: st.map Frame.where_), c, p, st⟩ := by
    obtain ⟨h, g, d, tk, os⟩ := s
    rfl
  rcases sstep_single (denote table) prog w s _ (calm_stack (k := k) (c := c) (p := p) (st := st)) hs with q | q
  · rw [q, e]; rfl
  · rw [e] at q; cases q

noncomputable def asks (t : Sem Fin) : Sem Fin := .stack fun st => if st.any (fun x => dec x.1) then .pure (.done (.ret (.bool true))) else t
theorem sched_asks {prog : Program} {w : World} {s : Shared} (hs : s.asleep) {t : Sem Fin} {n : Nat} {o : Outcome} {s' : Shared}
    (h : schedN (denote table) prog w n (.single s ⟨asks t, .builtin "claim.caller" {}, default, []⟩) = .halted o s') :
    ∃ m, schedN (denote table) prog w m (.single s ⟨t, .builtin "claim.caller" {}, default, []⟩) = .halted o s' := by
  cases n with
  | zero => simp [schedN] at h
  | succ n =>
    refine ⟨n, ?_⟩
    simp only [schedN] at h
    rw [show asks t = .stack _ from rfl, sched_stack hs] at h
    exact h
end Mine
end

section
open PySem PySem.W PySem.Spec PySem.Calls PyProof.Rows
set_option Elab.async false
set_option linter.unusedVariables false
set_option maxRecDepth 100000
namespace Mine

theorem callFrom_asks {c : ClaimW} {tree : List Value → Sem Fin} {w : World} {s : Shared} {free : Addr → Prop} {gens : Prop} {kept : Heap → Prop} (hz : s.asleep)
    (h : c.CallFrom (fun vs => ⟨asks (tree vs), .builtin "claim.caller" {}, default, []⟩) w free gens kept s) : c.CallFrom (fun vs => ⟨tree vs, .builtin "claim.caller" {}, default, []⟩) w free gens kept s := by
  intro args hp hl ord ho
  obtain ⟨vs, s₁, hlaid, n, o, s', hs, rest⟩ := h args hp hl ord ho
  have hal := layAllW_rest _ _ _ hlaid
  obtain ⟨m, hm⟩ := sched_asks (Shared.asleep_of_life hal.2.2.2 hz) hs
  exact ⟨vs, s₁, hlaid, m, o, s', hm, rest⟩

theorem openBy_asks {c : ClaimW} {tree : List Value → Sem Fin} {defs kps : List Str} {writes : Bool}
    (h : c.HoldsOpenBy (fun vs => ⟨asks (tree vs), .builtin "claim.caller" {}, default, []⟩) defs kps writes) : c.HoldsOpenBy (fun vs => ⟨tree vs, .builtin "claim.caller" {}, default, []⟩) defs kps writes := by
  obtain ⟨a, b, H⟩ := h
  refine ⟨a, b, fun w => ⟨(H w).1, fun s hs => ?_⟩⟩
  obtain ⟨s₀, h1, h2, s₁, hT, h4, h5, h6, h7⟩ := (H w).2 s hs
  have A : AfterImport (opening c.prog) w s := hs
  have z : s₀.asleep := Shared.asleep_of_life (fence_lifeW h1) A.life
  exact ⟨s₀, h1, h2, s₁, hT, h4, h5, h6, callFrom_asks (Shared.asleep_of_life hT.2.1 z) h7⟩

noncomputable abbrev WalkC (q : Program) (loose : List Str) (XP : (Str → Option Value) → Heap → Prop) (YP : World → Heap → Prop) (r : RowW) (d : DefRec) (kwd : List (Str × Expr)) : Prop :=
  ∀ (w : World) (s₀ s₁ : Shared) (mg mb : Str → Option Value), Ground q loose r.records XP w s₀ mg mb s₁.heap → YP w s₁.heap → ∀ (a : Addr) (o : Obj) (pm cd doc dV kV : Value), s₁.heap.get? a = some o →
    o.data = .func { docDef d.name d.params d.body d.scope pm cd doc with defaults := dV, kwdefaults := kV } → s₁.heap.CodeRec cd d.name → Dflts mg s₁.heap d.params kwd dV kV → mg d.name = some (.ref a) → s₁.gens = #[] →
    ∀ (args : List WData) (vals : List Value) (as : List Addr), r.claim.pre args = true → WData.layableAll args = true → ReadsAllW r.records (classAt s₀.heap) s₁.heap vals args as → WellAll w.params s₁.heap vals args → (∀ a ∈ as, (a == sysModules) = false) →
      GoodWG r.claim (classAt s₀.heap) (ExcName.means s₀.heap) args s₁ (.ok (.ret (.bool true))) s₁ ∧
      wpC (model r.prog w) callerA (call (.ref a) vals) (fun v s' => GoodWG r.claim (classAt s₀.heap) (ExcName.means s₀.heap) args s₁ (.ok (.ret v)) s')
        (fun e s' => GoodWG r.claim (classAt s₀.heap) (ExcName.means s₀.heap) args s₁ (.error e) s') s₁

noncomputable def runs (f : Value) (vs : List Value) : Sem Value := .stack fun st => if st.any (fun x => dec x.1) then .pure (.bool true) else call f vs

theorem clean_iff {Γ : PySem.Ctx} {p : Pos} : (((Γ.code, p) :: Γ.below).any (fun x => dec x.1)) = false ↔ Cln Γ := by
  rw [List.any_cons, Bool.or_eq_false_iff, List.any_eq_false]
  unfold Cln
  simp

theorem wp_asks {M : Model} {A : Around} {f : Value} {vs : List Value} {tree : Sem Fin} {Q : Fin → Shared → Prop} {E : Value → Shared → Prop} {s : Shared}
    (ht : ∀ (Q : Fin → Shared → Prop) (E : Value → Shared → Prop), wpC M A (call f vs) (fun v s' => Q (.done (.ret v)) s') E s → wpC M A tree Q E s)
    (h : wpAny M A (runs f vs) (fun v s' => Q (.done (.ret v)) s') E s) : wpAny M A (asks tree) Q E s := by
  intro Γ p hΓ
  have h0 := h Γ p hΓ
  unfold runs at h0
  unfold asks
  rw [Sem.wp_stack] at h0 ⊢
  cases hb : ((Γ.code, p) :: Γ.below).any (fun x => dec x.1) with
  | true =>
    rw [hb] at h0
    simp only [if_true] at h0 ⊢
    first | (simp only [Sem.wp_pure, Sem.wp_pure'] at h0 ⊢; exact h0) | exact h0
  | false =>
    simp only [Bool.false_eq_true, if_false]
    refine ht Q E (fun Γ' p' hΓ' hc' => ?_) Γ p hΓ (clean_iff.mp hb)
    have h1 := h Γ' p' hΓ'
    unfold runs at h1
    rw [Sem.wp_stack, clean_iff.mpr hc'] at h1
    simpa using h1

theorem carry_open {r : OpenRow} {q : Program} {loose : List Str} {Xt : Shared → Bool} {XP : (Str → Option Value) → Heap → Prop} {α : Type} {Yf : Shared → α} {Ya : World → α} {YP : World → Heap → Prop} {d : DefRec} {kwd : List (Str × Expr)} {N : Nat}
    (left : LeftO r.prog q loose Xt Yf Ya N) (hY : ∀ w s, Yf s = Ya w → YP w s.heap) (hYk : ∀ w h h', YP w h → (∀ b o, h.get? b = some o → h'.get? b = some o) → YP w h')
    (hX : ∀ s, Xt s = true → XP (s.heap.nsMap mainGlobals) s.heap) (hXk : ∀ mg h h', XP mg h → (∀ b o, h.get? b = some o → h'.get? b = some o) → XP mg h')
    (hdef : defOf q r.name = some (d, kwd)) (hp : r.prog.theDef r.name = some (d.params, d.body, d.scope)) (hk : kwWritten? d.params.kwonlyargs d.params.kw_defaults = some kwd) (hRf : ∀ s, Xt s = true → RecFacts r.records s.heap) (hwr : (!r.writes || r.records.isEmpty) = true)
    (k1 : r.wellSaid = true) (ok : (chainsOk q && opensWell r.prog && (PySem.W.frees r.toRowW && r.within.isEmpty)) = true) (hb : r.prog.bare) (hw : r.toRowW.promised)
    (call : WalkC q loose XP YP r.toRowW d kwd) : r.Holds := by
  refine ⟨k1, hw, openBy_asks (open_anyG (r := r.toRowW) (run := runs) (tree := fun vs => asks (do match ← nsGet mainNs r.name with
      | some f => do ret (← PySem.call f vs)
      | none => unsupported "claim.caller:no-such-global")) left hY hYk hX hXk hRf hwr ok hb hw
    (fun vs w s mg f Q E hg hf h => wp_asks (fun Q E h => wpC_first (wpAny_nsGet hg (by rw [hf]; exact wpC_bind (wpC_mono h (fun _ _ x => wpC_pure x) fun _ _ x => x)))) h)
    (fun w s hg G n hn => ?_) fun w s₀ s₁ mg mb G Y args vs as hpre hlay L low => ?_)⟩
  · obtain rfl : n = r.name := by split at hn <;> simp_all
    exact pinned_of_view hg G hdef hp hk
  · obtain ⟨a, o, pm, cd, doc, dV, kV, h1, h2, h3, h4, h5⟩ := G.fn hdef
    obtain ⟨g, h⟩ := call w s₀ s₁ mg mb G Y a o pm cd doc dV kV h2 h3 h4 h5 (defOf_name hdef ▸ h1) L.gens args vs as hpre hlay L.reads L.well (L.low low)
    refine ⟨.ref a, h1, fun Γ p hΓ => ?_⟩
    unfold runs
    rw [Sem.wp_stack]
    cases hc : ((Γ.code, p) :: Γ.below).any (fun x => dec x.1) with
    | true =>
      simp only [if_true]
      first | (simp only [Sem.wp_pure, Sem.wp_pure']; exact g) | exact g
    | false =>
      simp only [Bool.false_eq_true, if_false]
      exact h Γ p hΓ (clean_iff.mp hc)
end Mine
end

section
open PySem PySem.W PySem.Spec PySem.Calls PyProof.Rows
set_option Elab.async false
set_option linter.unusedVariables false
set_option maxRecDepth 100000
set_option maxHeartbeats 8000000
namespace Head02
theorem PySem.W.holds_open {r : OpenRow} {q : Program} {loose : List Str} {Xt : Shared → Bool} {XP : (Str → Option Value) → Heap → Prop} {α : Type} {Yf : Shared → α} {Ya : World → α} {YP : World → Heap → Prop} {d : DefRec} {kwd : List (Str × Expr)} {N : Nat}
    (left : LeftO r.prog q loose Xt Yf Ya N) (hY : ∀ w s, Yf s = Ya w → YP w s.heap) (hYk : ∀ w h h', YP w h → (∀ b o, h.get? b = some o → h'.get? b = some o) → YP w h')
    (hX : ∀ s, Xt s = true → XP (s.heap.nsMap mainGlobals) s.heap) (hXk : ∀ mg h h', XP mg h → (∀ b o, h.get? b = some o → h'.get? b = some o) → XP mg h')
    (hdef : defOf q r.name = some (d, kwd)) (hp : r.prog.theDef r.name = some (d.params, d.body, d.scope)) (hk : kwWritten? d.params.kwonlyargs d.params.kw_defaults = some kwd) (hRf : ∀ s, Xt s = true → RecFacts r.records s.heap) (hwr : (!r.writes || r.records.isEmpty) = true)
    (k1 : r.wellSaid = true) (ok : (chainsOk q && opensWell r.prog && (PySem.W.frees r.toRowW && r.within.isEmpty)) = true) (hb : r.prog.bare) (hw : r.toRowW.promised)
    (call : Mine.WalkC q loose XP YP r.toRowW d kwd) : r.Holds :=
  Mine.carry_open left hY hYk hX hXk hdef hp hk hRf hwr k1 ok hb hw call

open_top hd for PySem.Challenge.rw_rs0016_02
end Head02
end

section
open PySem PyProof.Rows
set_option Elab.async false
set_option linter.unusedVariables false
set_option maxRecDepth 100000
namespace Mine

local macro_rules | `(tactic| walk_at "mem") => `(tactic| with_reducible (first | exact List.mem_cons_self | (apply List.mem_cons_of_mem; walk_at "mem")))
local macro_rules | `(tactic| walk_at "upd") => `(tactic| with_reducible (first | exact Upd.here | (apply Upd.there; walk_at "upd")))

noncomputable abbrev K2 (P : Params) : PySem.W.Frag := Head02.hd.heap_39 P

noncomputable def glo2 (w : World) (p : Program) (loose : List Str) (mean : ExcName → Option Value) (mg mb : Str → Option Value) : Glo where
  P := fun h => (K2 w.params).In h ∧ Top p loose mean mg mb h
  keeps := fun h h' x k => ⟨PySem.W.Frag.In.keeps x.1 k, x.2.keeps k⟩
  nolimit := fun h x => x.2.nolimit
  top := fun x v => PySem.W.nsIn (K2 w.params) mainGlobals x = some (some v)
  gname := fun x v e h hp => ⟨mg, hp.2.g, PySem.W.mg_of hp.1 hp.2.g e⟩
  bname := fun x v e h hp => by
    have go : ∀ (x : Str) (v : Value), PySem.W.nsIn (K2 w.params) mainGlobals x = some none → bootBuiltins x = some v → x ≠ "__name__" → ∃ mg mb, h.Ns mainGlobals mg ∧ mg x = none ∧ h.Ns builtinsNs mb ∧ mb x = some v :=
      fun x v e1 e2 e3 => ⟨mg, mb, hp.2.g, PySem.W.mg_none_of hp.1 hp.2.g e1, hp.2.b, (hp.2.builtins x e3).trans e2⟩
    simp only [bnames, List.mem_cons, List.not_mem_nil, or_false, Prod.mk.injEq] at e
    rcases e with ⟨rfl, rfl⟩ | ⟨rfl, rfl⟩ | ⟨rfl, rfl⟩ | ⟨rfl, rfl⟩ | ⟨rfl, rfl⟩ | ⟨rfl, rfl⟩ | ⟨rfl, rfl⟩ | ⟨rfl, rfl⟩ | ⟨rfl, rfl⟩ | ⟨rfl, rfl⟩ | ⟨rfl, rfl⟩ | ⟨rfl, rfl⟩ | ⟨rfl, rfl⟩
    all_goals (refine go _ _ ?_ ?_ ?_ <;> first | kernel_rfl | decide +kernel)
theorem fnIs2 {w : World} {p : Program} {loose : List Str} {mean : ExcName → Option Value} {mg mb : Str → Option Value} {f : Addr} {c : Value} {od : Option Addr} {fd : FuncData} {sl : Array (Option Value)} {body : List Stmt} (h : (K2 w.params).lookup f = some ⟨c, od, .func fd, sl⟩) (hc : PySem.W.codeIn (K2 w.params) fd.code fd.qualname = true)
    (hb : fd.body = .stmts body) (h1 : fd.closure = []) (h2 : fd.globals = mainGlobals) (h3 : fd.builtins = builtinsNs) : FnIs (glo2 w p loose mean mg mb) f fd body :=
  ⟨⟨_, rfl, fun h' hp => ⟨hp.1 _ _ h, PySem.W.codeRec_of hp.1 hc⟩⟩, hb, h1, h2, h3⟩

theorem top2 {w : World} {p : Program} {loose : List Str} {mean : ExcName → Option Value} {mg mb : Str → Option Value} {x : Str} {v : Value} (h : PySem.W.nsIn (K2 w.params) mainGlobals x = some (some v)) : (glo2 w p loose mean mg mb).top x v := h

end Mine
end

section
open PySem PyProof.Rows
set_option Elab.async false
set_option linter.unusedVariables false
set_option maxRecDepth 100000
set_option maxHeartbeats 4000000
namespace Mine
local macro_rules | `(tactic| walk_at "mem") => `(tactic| with_reducible (first | exact List.mem_cons_self | (apply List.mem_cons_of_mem; walk_at "mem")))
local macro_rules | `(tactic| walk_at "upd") => `(tactic| with_reducible (first | exact Upd.here | (apply Upd.there; walk_at "upd")))

theorem overlap2 {prog : Program} {w : World} {p : Program} {loose : List Str} {mean : ExcName → Option Value} {mg mb : Str → Option Value} {A : Around} {pv : V} {xs : List Int} (hA : Room 1 A) (hs : SeqV pv xs) (hl : xs.length ≤ 16777216) :
    Fun prog w (glo2 w p loose mean mg mb) A (.ref 21) [pv] (.ints (tab xs)) := by
  refine fun_def (ps := [Str.ofString "prefix"]) (nms := [Str.ofString "prefix", Str.ofString "table", Str.ofString "i", Str.ofString "idx"])
    (st0 := [(Str.ofString "prefix", .val pv), (Str.ofString "table", .un), (Str.ofString "i", .un), (Str.ofString "idx", .un)]) 0 (fnIs2 rfl (by kernel_rfl) rfl rfl rfl rfl) hA ?_ rfl (by decide +kernel) rfl ?_ ?_
  · intro vals h
    obtain ⟨v, rfl⟩ := len1 h
    rfl
  · intro q hq
    simp only [List.mem_cons, List.not_mem_nil, or_false] at hq
    rcases hq with rfl | rfl | rfl | rfl
    · exact .inr ⟨pv, rfl, by simp⟩
    · exact .inl rfl
    · exact .inl rfl
    · exact .inl rfl
  · intro env X₀ kept S s Q E hR R hret
    dsimp only at R hret
    have hh : (A.deeper env).handled = none := hR.1
    refine st_own (k := .local) (ds := (List.replicate xs.length (0 : Int)).map V.int) (st' := fun a => [(Str.ofString "prefix", .val pv), (Str.ofString "table", .own a ((List.replicate xs.length (0 : Int)).map V.int)), (Str.ofString "i", .un), (Str.ofString "idx", .un)])
      (evn_eq (evn_mul ev_int (ev_len (by walk_at "mem") (ev_name (by walk_at "mem")) (fun_lenS hs)) (by exact ar31) (by exact ar183 hl)) (by simp)) (fun a => by walk_at "upd") (by walk_at "mem") (.inl rfl) rfl R fun a s1 R1 => ?_
    refine st_for (fun (T : List Int) => [(Str.ofString "prefix", .val pv), (Str.ofString "table", .own a (T.map V.int)), (Str.ofString "i", .un), (Str.ofString "idx", .un)])
      (fun ds T => [(Str.ofString "prefix", .val pv), (Str.ofString "table", .own a (T.map V.int)), (Str.ofString "i", .val (ds.headD .none)), (Str.ofString "idx", .un)])
      (fun i T => T.length = xs.length ∧ ∀ j, j ≤ i → j < xs.length → T.getD j 0 = (lb xs (j + 1) : Int)) (List.replicate xs.length 0)
      (evw_range2 hh (by walk_at "mem") rfl (evl_cons ev_int (evl_cons (ev_len (by walk_at "mem") (ev_name (by walk_at "mem")) (fun_lenS hs)) evl_nil)) (small_one (by exact ar184) (by exact ar185) (by exact ar171) (by exact ar186 hl)))
      ?_ ?_ (Wkn.refl _) ?_ R1 ?_ ?_
    · intro ds hds c
      obtain ⟨i, _, rfl⟩ := List.mem_map.mp hds
      exact .cons (.there (.there .here)) .nil
    · intro x hx
      rw [List.mem_singleton.mp hx]
      exact .inl (by walk_at "mem")
    · refine ⟨by simp, fun j hj hx => ?_⟩
      have : j = 0 := by exact ar84 hj
      subst this
      have h1 := (lb_spec xs (n := 1) (by exact ar187)).1.1
      have : lb xs 1 = 0 := by exact ar188 h1
      simp [List.getD, hx, this]
    · rintro i ds T X₁ kept' s2 E' hi ⟨hT, hP⟩ hX hK R2
      rw [rng_one, List.map_map, List.getElem?_map] at hi
      have hlt : i < ((xs.length : Int) - 1).toNat := by
        by_cases q : i < ((xs.length : Int) - 1).toNat
        · exact q
        · rw [List.getElem?_eq_none (by simpa using q)] at hi; simp at hi
      rw [List.getElem?_range hlt] at hi
      simp only [Option.map_some, Option.some.injEq, Function.comp] at hi
      subst hi
      dsimp only [List.headD] at R2
      have hn : i + 1 < xs.length := by exact ar189 hlt
      have ei : (1 : Int) + (i : Int) = ((i + 1 : Nat) : Int) := by exact ar46
      rw [ei] at R2
      -- idx = table[i - 1]
      refine st_assign (k := .local) (d := .int (lb xs (i + 1) : Int)) (ev_eq (ev_idxI (xs := T) (k := (i : Int)) (evs_own (by walk_at "mem")) (ev_eq (ev_bin (ev_name (by walk_at "mem")) ev_int bin_subI) (by congr 1; exact ar135)) (by exact ar31) (by exact ar190 hn hT)) (by rw [Int.toNat_natCast, hP i (Nat.le_refl _) (by exact ar191 hn)]))
        (st' := [(Str.ofString "prefix", .val pv), (Str.ofString "table", .own a (T.map V.int)), (Str.ofString "i", .val (.int ((i + 1 : Nat) : Int))), (Str.ofString "idx", .val (.int (lb xs (i + 1) : Int)))]) (by walk_at "upd") (by walk_at "mem") (.inl rfl) rfl R2 fun s3 R3 => ?_
      -- what a turn leaves
      have fin : ∀ (GN : List (Str × NameKind)) (T' : List Int) (s' : Shared) st2, T' = T.set (i + 1) (lb xs (i + 2) : Int) → Rel (glo2 w p loose mean mg mb) env X₁ [a] GN kept' S st2 s' → Wkn st2 [(Str.ofString "prefix", .val pv), (Str.ofString "table", .own a (T'.map V.int)), (Str.ofString "i", .un), (Str.ofString "idx", .un)] →
          ∃ (c' : List Int) (st2 : List (Str × Slot)), (c'.length = xs.length ∧ ∀ j, j ≤ i + 1 → j < xs.length → c'.getD j 0 = (lb xs (j + 1) : Int)) ∧ Rel (glo2 w p loose mean mg mb) env X₁ [a] GN kept' S st2 s' ∧ Wkn st2 [(Str.ofString "prefix", .val pv), (Str.ofString "table", .own a (c'.map V.int)), (Str.ofString "i", .un), (Str.ofString "idx", .un)] := by
        intro GN T' s' st2 hT' R' hw
        refine ⟨T', st2, ⟨by rw [hT']; simpa using hT, fun j hj hx => ?_⟩, R', hw⟩
        rw [hT']
        by_cases q : j = i + 1
        · subst q
          simp [List.getD, hT, hx]
        · have := hP j (by exact ar192 hj q) hx
          rw [← this]
          simp [List.getD, List.getElem?_set, Ne.symm q]
      refine st_while (fun (idx : Nat) => [(Str.ofString "prefix", .val pv), (Str.ofString "table", .own a (T.map V.int)), (Str.ofString "i", .val (.int ((i + 1 : Nat) : Int))), (Str.ofString "idx", .val (.int (idx : Int)))])
        (fun idx => Scan xs (i + 1) idx) id (fun idx => xs.getD (i + 1) 0 != xs.getD idx 0) (lb xs (i + 1)) (Wkn.refl _) (scan_start (by exact ar82)) R3 ?_ ?_ ?_
      · intro idx hS
        have := hS.1.1
        exact tst_eq (tst_cmp (ev_idxS (k := ((i + 1 : Nat) : Int)) hs (ev_name (by walk_at "mem")) (ev_name (by walk_at "mem")) (by exact ar193) (by exact ar194 hn)) (ev_idxS (k := (idx : Int)) hs (ev_name (by walk_at "mem")) (ev_name (by walk_at "mem")) (by exact ar31) (by exact ar195 this hn)) cmp_neI) (by simp only [Int.toNat_natCast])
      · intro idx s4 E4 hS hb R4
        have hlt2 := hS.1.1
        have hne : xs.getD (i + 1) 0 ≠ xs.getD idx 0 := by simpa using hb
        refine st_if (tst_cmp (ev_name (by walk_at "mem")) ev_int cmp_eqI) R4 (fun h0 s5 R5 => ?_) (fun h0 s5 R5 => ?_)
        · have hz : idx = 0 := by simpa using h0
          subst hz
          refine st_set (st' := [(Str.ofString "prefix", .val pv), (Str.ofString "table", .own a ((T.set (i + 1) 0).map V.int)), (Str.ofString "i", .val (.int ((i + 1 : Nat) : Int))), (Str.ofString "idx", .val (.int ((0 : Nat) : Int)))]) (by walk_at "mem") ev_int (ev_name (by walk_at "mem")) (by exact ar193) (by rw [List.length_map]; exact ar196 hn hT) ?_ R5 fun s6 R6 => ?_
          · rw [List.map_set, Int.toNat_natCast]; exact .there .here
          refine st_break ?_
          refine st_nil ?_
          exact fin _ _ _ _ (by rw [scan_zero hS hne]; rfl) R6 (.same (.same (.drop (.drop .nil))))
        · have hz : idx ≠ 0 := by intro z; subst z; simp at h0
          refine st_nil ?_
          obtain ⟨hS', hlt3⟩ := scan_next hS hne (by exact ar197 hz)
          refine st_assign (k := .local) (d := .int (lb xs idx : Int)) (ev_eq (ev_idxI (xs := T) (k := ((idx - 1 : Nat) : Int)) (evs_own (by walk_at "mem")) (ev_eq (ev_bin (ev_name (by walk_at "mem")) ev_int bin_subI) (by congr 1; exact ar198 hlt3)) (by exact ar199) (by exact ar200 hlt2 hT hn)) (by rw [Int.toNat_natCast, hP (idx - 1) (by exact ar201 hlt2) (by exact ar202 hlt2 hn), show idx - 1 + 1 = idx from by exact ar203 hlt3]))
            (st' := [(Str.ofString "prefix", .val pv), (Str.ofString "table", .own a (T.map V.int)), (Str.ofString "i", .val (.int ((i + 1 : Nat) : Int))), (Str.ofString "idx", .val (.int (lb xs idx : Int)))]) (by walk_at "upd") (by walk_at "mem") (.inl rfl) rfl R5 fun s6 R6 => ?_
          refine st_nil ?_
          exact ⟨lb xs idx, _, hS', hlt3, R6, Wkn.refl _⟩
      · intro idx s4 E4 hS hb R4
        have hlt2 := hS.1.1
        have heq : xs.getD (i + 1) 0 = xs.getD idx 0 := by simpa using hb
        refine st_set (st' := [(Str.ofString "prefix", .val pv), (Str.ofString "table", .own a ((T.set (i + 1) ((idx : Int) + 1)).map V.int)), (Str.ofString "i", .val (.int ((i + 1 : Nat) : Int))), (Str.ofString "idx", .val (.int (idx : Int)))]) (by walk_at "mem") (ev_bin (ev_name (by walk_at "mem")) ev_int bin_addI) (ev_name (by walk_at "mem")) (by exact ar193) (by rw [List.length_map]; exact ar196 hn hT) ?_ R4 fun s6 R6 => ?_
        · rw [List.map_set, Int.toNat_natCast]; exact .there .here
        refine st_nil ?_
        refine st_nil ?_
        exact fin _ _ _ _ (by rw [scan_hit hS heq]; congr 1) R6 (.same (.same (.drop (.drop .nil))))
    · rintro T s2 ⟨hT, hP⟩ R2
      have hTt : T = tab xs := by
        refine List.ext_getElem (by rw [hT, tab_length]) fun j h1 h2 => ?_
        have hx : j < xs.length := by rw [← hT]; exact h1
        have := hP j (by simp [rng_one]; exact ar204 h1 hT) hx
        rw [← tab_get xs hx] at this
        simpa [List.getD, h1, h2] using this
      subst hTt
      have R3 := R2.freeze (own' := []) (st' := [(Str.ofString "prefix", .val pv), (Str.ofString "table", .val (.ints (tab xs))), (Str.ofString "i", .un), (Str.ofString "idx", .un)]) (x := Str.ofString "table") (a := a) (ds := (tab xs).map V.int) (by walk_at "mem") (by walk_at "upd") (by simp) (by simp)
      exact st_ret (ev_name (by walk_at "mem")) R3 fun v s' R' D => hret _ _ _ _ _ _ (fun _ q => q) (fun _ _ q => q) R' D
end Mine
end

section
open PySem PyProof.Rows
set_option Elab.async false
set_option linter.unusedVariables false
namespace Mine

noncomputable def tgt (c : List UInt8) (n p : Nat) : UInt8 := c.getD (p / n * n + (n - 1 - p % n)) 0
noncomputable def swp (c : List UInt8) (n : Nat) : List UInt8 := (List.range c.length).map (tgt c n)
theorem swp_length (c : List UInt8) (n : Nat) : (swp c n).length = c.length := by simp [swp]

noncomputable def Sw (c : List UInt8) (n i j : Nat) (b : List UInt8) : Prop :=
  b.length = c.length ∧ ∀ p, p < c.length → (p < i * n ∨ (p < (i + 1) * n ∧ (i + 1) * n ≤ p + j)) → b.getD p 0 = tgt c n p
theorem sw_start (c : List UInt8) (n : Nat) : Sw c n 0 0 (List.replicate c.length 0) := by
  refine ⟨by simp, fun p hp h => ?_⟩
  rcases h with h | h
  · exact (ar12 h).elim
  · exact (ar13 h).elim
theorem sw_next {c b : List UInt8} {n i : Nat} (h : Sw c n i n b) : Sw c n (i + 1) 0 b := by
  refine ⟨h.1, fun p hp q => h.2 p hp ?_⟩
  rcases q with q | q
  · rcases Nat.lt_or_ge p (i * n) with z | z
    · exact .inl z
    · refine .inr ⟨q, ?_⟩
      rw [Nat.succ_mul]; exact ar14 z
  · exact ar15 q
theorem toByte (u : UInt8) : ((u.toNat : Int)).toNat.toUInt8 = u := by simp
theorem sw_step {c b : List UInt8} {n i j : Nat} (hj : j < n) (hi : (i + 1) * n ≤ c.length) (h : Sw c n i j b) :
    Sw c n i (j + 1) (b.set (i * n + n - 1 - j) (c.getD (i * n + j) 0)) := by
  have e : (i + 1) * n = i * n + n := Nat.succ_mul i n
  refine ⟨by simpa using h.1, fun p hp q => ?_⟩
  by_cases z : p = i * n + n - 1 - j
  · subst z
    have hb : i * n + n - 1 - j < b.length := by rw [h.1]; exact hp
    have e1 : (b.set (i * n + n - 1 - j) (c.getD (i * n + j) 0)).getD (i * n + n - 1 - j) 0 = c.getD (i * n + j) 0 := by
      simp [List.getD, hb]
    rw [e1]
    unfold tgt
    have hn : 0 < n := by exact ar16 hj
    have e2 : i * n + n - 1 - j = n * i + (n - 1 - j) := by rw [Nat.mul_comm n i]; exact ar17 hj
    have e3 : (i * n + n - 1 - j) / n = i := by
      rw [e2, Nat.mul_add_div hn, Nat.div_eq_of_lt (by exact ar18 hj), Nat.add_zero]
    have e4 : (i * n + n - 1 - j) % n = n - 1 - j := by
      rw [e2, Nat.mul_add_mod, Nat.mod_eq_of_lt (by exact ar18 hj)]
    rw [e3, e4]
    congr 1
    exact ar19 hj
  · have e1 : (b.set (i * n + n - 1 - j) (c.getD (i * n + j) 0)).getD p 0 = b.getD p 0 := by
      simp [List.getD, List.getElem?_set, Ne.symm z]
    rw [e1]
    refine h.2 p hp ?_
    rcases q with q | q
    · exact .inl q
    · rcases Nat.lt_or_ge p (i * n) with y | y
      · exact .inl y
      · exact .inr ⟨q.1, by exact ar20 e q z⟩
theorem sw_done {c b : List UInt8} {n m : Nat} (hm : c.length = m * n) (h : Sw c n m 0 b) : b = swp c n := by
  refine List.ext_getElem (by rw [h.1, swp_length]) fun p h1 h2 => ?_
  have hp : p < c.length := by rw [← h.1]; exact h1
  have := h.2 p hp (.inl (by exact ar21 hp hm))
  simpa [List.getD, h1, swp, hp] using this

theorem rng_words {m n : Nat} (hn : 0 < n) : rng 0 ((m * n : Nat) : Int) (n : Int) = (List.range m).map fun i => ((i * n : Nat) : Int) := by
  unfold rng
  have e : (Builtin.Range.rangeSize 0 ((m * n : Nat) : Int) (n : Int)).toNat = m := by
    unfold Builtin.Range.rangeSize
    rw [if_pos (by exact ar22 hn)]
    split
    · rename_i h
      have hmn : 0 < m * n := by exact ar23 h
      have hm : 0 < m := Nat.pos_of_mul_pos_right hmn
      have e1 : (((m * n : Nat) : Int) - 0 - 1) = ((m * n - 1 : Nat) : Int) := by exact ar24 h
      rw [e1, ← Int.natCast_ediv]
      have e2 : (m * n - 1) / n = m - 1 := by
        have : m * n - 1 = n * (m - 1) + (n - 1) := by
          obtain ⟨k, rfl⟩ := Nat.exists_eq_succ_of_ne_zero (Nat.ne_of_gt hm)
          rw [Nat.succ_mul, Nat.succ_sub_one, Nat.mul_comm n k]; exact ar25 hn
        rw [this, Nat.mul_add_div hn, Nat.div_eq_of_lt (by exact ar26 hn), Nat.add_zero]
      rw [e2]; exact ar27 hm
    · rename_i h
      have hmn : m * n = 0 := by exact ar28 h
      have hm : m = 0 := by
        rcases Nat.mul_eq_zero.mp hmn with q | q
        · exact q
        · exact ar29 hn q
      rw [hm]; rfl
  rw [e]
  exact List.map_congr_left fun i _ => by simp
theorem small_words {L n : Nat} (hn : 0 < n) (h1 : L ≤ 1000000) (h2 : n ≤ 1000000) : Builtin.Range.small 0 (L : Int) (n : Int) = true := by
  unfold Builtin.Range.small
  have hz : 0 ≤ Builtin.Range.rangeSize 0 (L : Int) (n : Int) ∧ Builtin.Range.rangeSize 0 (L : Int) (n : Int) ≤ 1000001 := by
    unfold Builtin.Range.rangeSize
    rw [if_pos (by exact ar22 hn)]
    split
    · have a1 : 0 ≤ ((L : Int) - 0 - 1) / (n : Int) := Int.ediv_nonneg (by exact ar30 (by assumption)) (by exact ar31)
      have a2 : ((L : Int) - 0 - 1) / (n : Int) ≤ (L : Int) - 0 - 1 := Int.ediv_le_self _ (by exact ar30 (by assumption))
      omega
    · exact ar32
  have hp : (n : Int) > 0 := by exact ar22 hn
  simp only [Builtin.Range.rangeFitsLong, Bool.and_eq_true, Bool.or_eq_true, decide_eq_true_eq, beq_iff_eq, if_pos hp]
  exact ar33 hz h1 h2
end Mine
end

section
open PySem PyProof.Rows
set_option Elab.async false
set_option linter.unusedVariables false
set_option maxRecDepth 100000
set_option maxHeartbeats 4000000
namespace Mine
local macro_rules | `(tactic| walk_at "mem") => `(tactic| with_reducible (first | exact List.mem_cons_self | (apply List.mem_cons_of_mem; walk_at "mem")))
local macro_rules | `(tactic| walk_at "upd") => `(tactic| with_reducible (first | exact Upd.here | (apply Upd.there; walk_at "upd")))

noncomputable abbrev stW (c : List UInt8) (n : Nat) (sw i j : Slot) : List (Str × Slot) :=
  [(Str.ofString "data", .val (.bytes c)), (Str.ofString "width", .val (.int (n : Int))), (Str.ofString "swapped_data", sw), (Str.ofString "i", i), (Str.ofString "j", j)]

theorem byteswap2 {prog : Program} {w : World} {p : Program} {loose : List Str} {mean : ExcName → Option Value} {mg mb : Str → Option Value} {A : Around} {c : List UInt8} {m n : Nat} (hA : Room 1 A) (hg : A.guards = some []) (hn : 0 < n) (hm : c.length = m * n) (hl : c.length ≤ 1000000) (hn2 : n ≤ 1000000) :
    FunC prog w (glo2 w p loose mean mg mb) A (.ref 28) [.bytes c, .int (n : Int)] (.bytes (swp c n)) := by
  refine fun_defC (ps := [Str.ofString "data", Str.ofString "width"]) (nms := [Str.ofString "data", Str.ofString "width", Str.ofString "swapped_data", Str.ofString "i", Str.ofString "j"])
    (st0 := stW c n .un .un .un) 0 (fnIs2 rfl (by kernel_rfl) rfl rfl rfl rfl) hA ?_ rfl (by decide +kernel) rfl ?_ ?_
  · intro vals h
    obtain ⟨v, u, rfl⟩ := len2 h
    rfl
  · intro q hq
    simp only [stW, List.mem_cons, List.not_mem_nil, or_false] at hq
    rcases hq with rfl | rfl | rfl | rfl | rfl
    · exact .inr ⟨_, rfl, by simp⟩
    · exact .inr ⟨_, rfl, by simp⟩
    · exact .inl rfl
    · exact .inl rfl
    · exact .inl rfl
  · intro env X₀ kept S s Q E hR hgd R hret
    dsimp only at R hret
    have hh : (A.deeper env).handled = none := hR.1
    have hz : (sizeLine : Int) = 16777216 := by decide
    have hz' : sizeLine = 16777216 := by decide
    refine stC_ownB (k := .local) (n := (c.length : Int)) (st' := fun a => stW c n (.ownB a (List.replicate (c.length : Int).toNat 0)) .un .un) (by walk_at "mem") rfl (hgd ▸ hg)
      (ev_len (by walk_at "mem") (ev_name (by walk_at "mem")) fun_lenB) (by exact ar31) (by exact ar553 hz hl) (fun a => by walk_at "upd") (by walk_at "mem") (.inl rfl) R fun a s1 R1 => wpC_any ?_
    rw [Int.toNat_natCast] at R1
    refine st_for (fun (b : List UInt8) => stW c n (.ownB a b) .un .un) (fun ds b => stW c n (.ownB a b) (.val (ds.headD .none)) .un) (fun i b => Sw c n i 0 b) (List.replicate c.length 0)
      (items := ((List.range m).map fun i => ((i * n : Nat) : Int)).map fun i => [V.int i])
      (by
        rw [← rng_words hn, ← hm]
        exact evw_range3 hh (by walk_at "mem") rfl (evl_cons ev_int (evl_cons (ev_len (by walk_at "mem") (ev_name (by walk_at "mem")) fun_lenB) (evl_cons (ev_name (by walk_at "mem")) evl_nil))) (by exact ar554 hn) (by exact ar555 hn2) (small_words hn hl hn2))
      ?_ ?_ (Wkn.refl _) (sw_start c n) R1 ?_ ?_
    · intro ds hds b
      obtain ⟨i, _, rfl⟩ := List.mem_map.mp hds
      exact .cons (.there (.there (.there .here))) .nil
    · intro x hx
      rw [List.mem_singleton.mp hx]
      exact .inl (by walk_at "mem")
    · rintro i ds b X₁ kept' s2 E' hi hP hX hK R2
      rw [List.map_map, List.getElem?_map] at hi
      have hlt : i < m := by
        by_cases q : i < m
        · exact q
        · rw [List.getElem?_eq_none (by simpa using q)] at hi; simp at hi
      rw [List.getElem?_range hlt] at hi
      simp only [Option.map_some, Option.some.injEq, Function.comp] at hi
      subst hi
      dsimp only [List.headD] at R2
      have hin : (i + 1) * n ≤ c.length := by rw [hm]; exact Nat.mul_le_mul_right n hlt
      have es : (i + 1) * n = i * n + n := Nat.succ_mul i n
      refine st_for (fun (b : List UInt8) => stW c n (.ownB a b) (.val (.int ((i * n : Nat) : Int))) .un) (fun ds b => stW c n (.ownB a b) (.val (.int ((i * n : Nat) : Int))) (.val (ds.headD .none))) (fun j b => Sw c n i j b) b
        (items := ((List.range n).map fun j => ((j : Nat) : Int)).map fun i => [V.int i])
        (by
          have e : rng 0 (n : Int) 1 = (List.range n).map fun j => ((j : Nat) : Int) := by rw [rng_one]; simp
          rw [← e]
          exact evw_range1 hh (by walk_at "mem") rfl (evl_cons (ev_name (by walk_at "mem")) evl_nil) (small_one (by exact ar169) (by exact ar170) (by exact ar171) (by exact ar556 hn2)))
        ?_ ?_ (Wkn.refl _) hP R2 ?_ ?_
      · intro ds hds b
        obtain ⟨i, _, rfl⟩ := List.mem_map.mp hds
        exact .cons (.there (.there (.there (.there .here)))) .nil
      · intro x hx
        rw [List.mem_singleton.mp hx]
        exact .inl (by walk_at "mem")
      · rintro j ds b X₂ kept2 s3 E3 hj hP3 hX3 hK3 R3
        rw [List.map_map, List.getElem?_map] at hj
        have hltj : j < n := by
          by_cases q : j < n
          · exact q
          · rw [List.getElem?_eq_none (by simpa using q)] at hj; simp at hj
        rw [List.getElem?_range hltj] at hj
        simp only [Option.map_some, Option.some.injEq, Function.comp] at hj
        subst hj
        dsimp only [List.headD] at R3
        have hb := hP3.1
        refine st_setB (k := ((i * n + n - 1 - j : Nat) : Int)) (v := ((c.getD (i * n + j) 0).toNat : Int)) (b := b) (st' := stW c n (.ownB a (b.set (i * n + n - 1 - j) (c.getD (i * n + j) 0))) (.val (.int ((i * n : Nat) : Int))) (.val (.int (j : Int)))) (by walk_at "mem")
          (ev_eq (ev_idxB (k := ((i * n + j : Nat) : Int)) (ev_name (by walk_at "mem")) (ev_eq (ev_bin (ev_name (by walk_at "mem")) (ev_name (by walk_at "mem")) bin_addI) (by congr 1)) (by exact ar557) (by exact ar558 es hin hltj)) (by rw [Int.toNat_natCast]))
          (ev_eq (ev_bin (ev_bin (ev_bin (ev_name (by walk_at "mem")) (ev_name (by walk_at "mem")) bin_addI) ev_int bin_subI) (ev_name (by walk_at "mem")) bin_subI) (by congr 1; exact ar559 hltj)) (by exact ar560) (by exact ar561 es hin hltj hb) (by exact ar31) (by have := (c.getD (i * n + j) 0).toNat_lt; exact ar562 this) ?_ R3 fun s4 R4 => ?_
        · rw [toByte, Int.toNat_natCast]
          exact .there (.there .here)
        · refine st_nil ?_
          exact ⟨_, _, sw_step hltj hin hP3, R4, .same (.same (.same (.same (.drop .nil))))⟩
      · rintro b s3 hP3 R3
        rw [List.length_map, List.length_map, List.length_range] at hP3
        refine st_nil ?_
        exact ⟨b, _, sw_next hP3, R3, .same (.same (.same (.drop (.same .nil))))⟩
    · rintro b s2 hP2 R2
      rw [List.length_map, List.length_map, List.length_range] at hP2
      have := sw_done hm hP2
      subst this
      exact st_ret (ev_bytesBA (by walk_at "mem") rfl (by walk_at "mem")) R2 fun v s' R' D => hret _ _ _ _ _ _ (fun _ q => q) (fun _ _ q => q) R' D
end Mine
end

section
open PySem PyProof.Rows
set_option Elab.async false
set_option linter.unusedVariables false
set_option maxRecDepth 100000
namespace Mine

noncomputable def onI (p : Int → Bool) : List V → Bool
  | [.int i] => p i
  | _ => false
noncomputable def gI (f : Int → V) : List V → V
  | [.int i] => f i
  | _ => .none
theorem comp_ints (p : Int → Bool) (f : Int → V) : ∀ l : List Int, ((l.map fun i => [V.int i]).filter (onI p)).map (gI f) = (l.filter p).map f
  | [] => rfl
  | i :: l => by
    have ih := comp_ints p f l
    simp only [List.map_cons, List.filter_cons]
    cases h : p i
    · simp only [onI, h, Bool.false_eq_true, if_false]; exact ih
    · simp only [onI, h, if_true, List.map_cons, gI]; rw [ih]

section
variable {prog : Program} {w : World} {G : Glo} {env : Env} {X : Addr → Prop} {GN : List (Str × NameKind)} {st : List (Str × Slot)} {A : Around}
theorem ev_compI {elt iter : Expr} {ifs : List Expr} {scope : Scope} {pos px : Pos} {x : Str} {l : List Int} {cap : List (Str × Slot)} (f : Int → V) (p : Int → Bool)
    (hi : EvW prog w G env X GN st A iter (.Name x px) [x] (l.map fun i => [V.int i])) (hsc : scopeOk scope GN [x] = true) (hcap : Cap st scope.names cap) (hsz : l.length ≤ sizeLine)
    (hif : ∀ i ∈ l, ∀ X cenv, Ifs prog w G cenv X (frees scope.names) ((x, .val (.int i)) :: cap) A ifs (p i))
    (hel : ∀ i ∈ l, p i = true → ∀ X cenv, Ev prog w G cenv X (frees scope.names) ((x, .val (.int i)) :: cap) A elt (f i))
    (hfs : ∀ x, foldedSetIterable iter env x = pure x := by intro _; rfl) :
    Ev prog w G env X GN st A (.ListComp elt [⟨.Name x px, iter, ifs, 0⟩] scope pos) (.list ((l.filter p).map f)) := by
  rw [← comp_ints]
  refine ev_comp (gI f) (onI p) hi hsc hcap (by simpa using hsz) (fun ds hds X cenv => ?_) (fun ds hds hp X cenv => ?_) hfs
  · obtain ⟨i, hi', rfl⟩ := List.mem_map.mp hds
    exact hif i hi' X cenv
  · obtain ⟨i, hi', rfl⟩ := List.mem_map.mp hds
    exact hel i hi' hp X cenv
end

theorem sw_used {elt : Expr} {gs : List Comprehension} {scope : Scope} {cp px : Pos} {x : Str} {line : Nat} {env : Env} (hk : env.scope.kind = .function) (hx : env.kindOf x = some .local) (h1 : (px.line == cp.line) = true)
    (h2 : (scope.names.any fun (n, k) => n == x && (k == .local || k == .cell)) = false) : swapsWith (.ListComp elt gs scope cp) (some (.Name x px)) line env = pure true := by
  unfold swapsWith
  dsimp only
  have e : env.blockKind = .function := by unfold Env.blockKind; rw [hk]; try rfl
  rw [e, hx, h2]
  show pure (_ && _ && (px.line == cp.line) && _) = _
  rw [h1]; rfl
section
variable {prog : Program} {w : World} {G : Glo} {env : Env} {X₀ : Addr → Prop} {own : List Addr} {GN : List (Str × NameKind)} {kept : Addr → Option Obj} {S : Shared} {st st' : List (Str × Slot)} {A : Around} {E : Value → Shared → Prop} {s : Shared}
  {rest : List Stmt} {Q : Flow → Shared → Prop}

theorem Rel.other {a : Addr} {h' : Heap} (tk : Nat) (R : Rel G env X₀ own GN kept S st s) (hE : Heap.ExtBut a s.heap h') (hL : a ≠ env.locals) (hC : ∀ y c, env.cells.lookup y = some c → a ≠ c) (hk : ∀ b o, kept b = some o → b ≠ a)
    (hs : ∀ o, s.heap.get? a = some o → ¬ Mutbl o.data) : Rel G env X₀ own GN kept S st { s with heap := h', toks := tk } := by
  have hao : a ∉ own := fun q => by obtain ⟨o, e, m⟩ := R.ownl a q; exact hs o e m
  obtain ⟨m, hn⟩ := R.ns
  have kp' : ∀ b o, kept b = some o → h'.get? b = some o := fun b o e => hE b o (hk b o e) (R.keep b o e)
  have own' : ∀ b ∈ own, ∃ o, h'.get? b = some o ∧ Mutbl o.data := fun b hb => by
    obtain ⟨o, e, q⟩ := R.ownl b hb; exact ⟨o, hE _ _ (fun z => hao (z ▸ hb)) e, q⟩
  refine ⟨⟨R.gk h' kp', R.e.kd, R.e.gl, R.e.bl, R.e.gn, R.e.cn, R.e.nd, fun b hb => ?_, fun p hp => ?_⟩, kp', R.apart, ⟨m, hn.extBut hE (Ne.symm hL)⟩, fun y c e => ?_, R.cinj, R.gk, R.xk, own', R.nodup, R.odist, R.oin, ?_⟩
  · rcases hb with hb | hb
    · obtain ⟨o, e⟩ := R.xk b hb; exact ⟨o, kp' b o e⟩
    · obtain ⟨o, e, _⟩ := own' b hb; exact ⟨o, e⟩
  · refine slot_ext hE (.inr fun o xs n e q => hs o e (.inl ⟨_, _, q⟩)) (fun u hu => VarIs.ext hE hL (fun c e => hC _ c e) hu) (fun b hb z => ?_) (R.e.vars p hp)
    subst z
    exact hao (R.oin p hp b hb)
  · obtain ⟨u, o', e', hd'⟩ := R.cells y c e
    exact ⟨u, o', hE _ _ (Ne.symm (hC y c e)) e', hd'⟩
  · obtain ⟨a, b, rfl⟩ := R.sh; exact ⟨_, _, rfl⟩

theorem st_comp {elt iter tgt : Expr} {ifs : List Expr} {scope : Scope} {pos px spos : Pos} {x : Str} {xs : List Str} {items : List (List V)} {cap : List (Str × Slot)} (g : List V → V) (p : List V → Bool)
    (hi : EvW prog w G env (Xof X₀ own) GN st A iter tgt xs items) (hsc : scopeOk scope GN xs = true) (hcap : Cap st scope.names cap) (hsz : items.length ≤ sizeLine)
    (hif : ∀ ds ∈ items, ∀ X cenv, Ifs prog w G cenv X (frees scope.names) (bnd xs ds ++ cap) A ifs (p ds))
    (hel : ∀ ds ∈ items, p ds = true → ∀ X cenv, Ev prog w G cenv X (frees scope.names) (bnd xs ds ++ cap) A elt (g ds))
    (hU : Upd x (.val (.list ((items.filter p).map g))) st st') (hk : (x, NameKind.local) ∈ GN) (R : Rel G env X₀ own GN kept S st s)
    (h : ∀ s', Rel G env X₀ own GN kept S st' s' → wpAny (model prog w) A (execs rest env) Q E s')
    (h1 : (px.line == pos.line) = true := by rfl) (h2 : (scope.names.any fun (n, k) => n == x && (k == .local || k == .cell)) = false := by decide +kernel)
    (hfs : ∀ x, foldedSetIterable iter env x = pure x := by intro _; rfl) :
    wpAny (model prog w) A (execs (.Assign [.Name x px] (.ListComp elt [⟨tgt, iter, ifs, 0⟩] scope pos) spos :: rest) env) Q E s := by
  have hs := ScopeOk.of hsc
  refine wpAny_execs_cons ?_
  rw [exec_Assign_Name_used _ _ _ _ (sw_used R.e.kd (R.e.gn _ hk) h1 h2)]
  refine wpAny_bind (wpAny_standAt (wpAny_bind ?_))
  show wpAny _ A (do let _ ← comprehension (.ListComp elt [⟨tgt, iter, ifs, 0⟩] scope pos) scope env _ (newList []) false (eval iter env) (some (assign (.Name x px) env))) _ _ s
  refine wpAny_bind (wpAny_mono (wpAny_comprehension_free (use := some (assign (.Name x px) env)) (Q := fun _ s' => wpAny (model prog w) A (execs rest env) Q E s') rfl hfs (closureFor_eq fun p hp e => R.e.cn _ (hs.free p hp e)) hs.kind (fun x hx e => (hs.look x hx).trans (by rw [e])) ?_)
    (fun _ s' hq => wpAny_pure (wpAny_pure hq)) fun _ _ e => e)
  refine wpAny_mono (hi s E R.e) (fun x s1 q => ?_) fun _ _ e => e
  obtain ⟨K1, h₁, k1, k2, hq⟩ := q
  refine hq E _ fun I fp wr St s2 W hst hfp K2 => ?_
  refine comp_core (RR := fun acc C => compPost (model prog w) A E (some (assign (.Name _ px) env)) _ acc C) W hst hfp k1 (fun b o e => K2.hk b o (k2 b o e)) R.e hs hcap hsz hif hel fun D C h' tk m' ys n hD hC hDC hN hg hY hkk => ?_
  have all : HK s.heap h' := fun b o e => by
    refine hkk b o (fun q => ?_) (K2.hk b o (k2 b o (k1 b o e)))
    have := k1 b o e; rw [W.fresh b q] at this; cases this
  have old : ∀ b o, s.heap.get? b = some o → b ≠ C := fun b o e q => by
    have e2 := K2.hk b o (k2 b o (k1 b o e))
    subst q; rw [hC] at e2; cases e2
  have R2 : Rel G env X₀ own GN kept S st { s2 with heap := h', toks := tk } := by
    refine R.kp ?_
    obtain ⟨a1, a2, rfl, _⟩ := K1
    obtain ⟨b1, b2, rfl, _⟩ := K2
    exact ⟨h', tk, rfl, all⟩
  have hDen : Den (Xof X₀ own) h' (.list ((items.filter p).map g)) (.ref D) := by
    simp only [Den]
    refine ⟨?_, D, ys, n, rfl, fun q => ?_, hg, hY⟩
    · rw [List.length_map]; exact Nat.le_trans (List.length_filter_le _ _) hsz
    · obtain ⟨o, e⟩ := R.e.xo _ q
      have := K2.hk _ _ (k2 _ _ (k1 _ _ e))
      rw [hD] at this; cases this
  obtain ⟨ml, hml⟩ := R.ns
  have hLC : env.locals ≠ C := by obtain ⟨o, es, ep, e, _⟩ := hml; exact old _ o e
  have hCC : ∀ y c, env.cells.lookup y = some c → c ≠ C := fun y c e => by obtain ⟨u, o, e', _⟩ := R.cells y c e; exact old _ o e'
  show wpAny _ A (assign (.Name _ px) env (.ref D)) _ _ _
  refine wpAny_assign_Name (R2.store hk (.inl rfl) hU hDen fun h3 tk3 a R3 hE hA => ?_)
  have haC : C ≠ a := by
    rcases hA with rfl | ⟨y, hy⟩
    · exact Ne.symm hLC
    · exact Ne.symm (hCC y a hy)
  have hN3 : h3.Ns C m' := hN.extBut hE haC
  refine ⟨m', hN3, fun h4 hs4 => h _ ?_⟩
  refine R3.other tk3 hs4.extBut (Ne.symm hLC) (fun y c e => Ne.symm (hCC y c e)) (fun b o e => old b o (R.keep b o e)) fun o e q => ?_
  obtain ⟨oc, es, ep, ec, dc, _⟩ := hN3
  rw [ec] at e; cases e
  rw [dc] at q
  rcases q with ⟨_, _, q⟩ | ⟨_, _, q⟩ <;> cases q
end
end Mine
end

section
open PySem PyProof.Rows
set_option Elab.async false
set_option linter.unusedVariables false
set_option maxRecDepth 100000
namespace Mine

section
variable {prog : Program} {w : World} {A : Around} {E : Value → Shared → Prop} {s : Shared}

theorem extend_bytes {R : Result → Shared → Prop} (hh : A.handled = none) (b : Array UInt8) (t : Tok) (S : Addr) (res : Value) (c₀ : Nat) (hn : b.size ≤ sizeLine) (hS : s.heap.get? S = some { cls := .type "list", data := .seq #[] c₀ })
    (hR : ∀ h' tk acc' c', (∀ b o, b ≠ S → s.heap.get? b = some o → h'.get? b = some o) → h'.get? S = some { cls := .type "list", dict := none, data := .seq acc' c', slots := #[] } →
      ItemsOf (fun i v => ∃ c u, b[i]? = some c ∧ v = .int (c.toNat : Int) u) acc' b.size → R (.ok (.ret res)) { s with heap := h', toks := tk }) :
    wpAny (model prog w) A.in1 (Builtin.List.listExtendWith (.ref S) (.bytes b t) res)
      (fun fin s' => match fin with | .done f => R (.ok f) s' | .again c' => c'.quiet = true ∧ codeAny (model prog w) A c' R s') (fun e s' => R (.error e) s') s := by
  have hSI : S ≠ s.heap.objs.size := Nat.ne_of_lt (Heap.lt_size hS)
  have hSf : S ∉ [s.heap.objs.size] := fun hm => hSI (List.mem_singleton.mp hm)
  unfold Builtin.List.listExtendWith
  refine wpAny_bind (wpAny_typeOf (T := "bytes") (v := .bytes b t) rfl ?_)
  have h1 : Builtin.List.listSameRef (.ref S) (.bytes b t) = false := rfl
  have h2 : (Value.type "bytes" == Value.type "list") = false := by decide
  have h3 : (Value.type "bytes" == Value.type "tuple") = false := by decide
  simp only [h1, h2, h3, Bool.or_false, Bool.false_eq_true, if_false]
  have W := PySem.W.KBw.walks (prog := prog) (w := w) (A := A.in1) hh s.heap.objs.size b t
  refine wpAny_bind (PySem.W.KBw.pyIter_bytes ?_)
  refine wpAny_bind (wpAny_holding ?_)
  unfold Builtin.List.listLengthHint
  refine wpAny_bind (wpAny_specialOf (T := "bytes") (v := .bytes b t) rfl PySem.W.FB.slot_bytes_len.lookup ?_)
  generalize hid : ("bytes.__len__" : String) = id0
  wp_delta
  rw [show splitId id0 = some ("bytes", "__len__") from by subst hid; decide +kernel]
  subst hid
  refine wpAny_bind (wpAny_isInstance (T := "bytes") (v := .bytes b t) (b := true) rfl (by rw [isSubtype_type]; kernel_rfl) ?_)
  refine wpAny_ite_split (fun hab => absurd hab (by decide)) (fun _ => ?_)
  refine wpAny_ite_split (fun _ => ?_) (fun hab => absurd (by decide +kernel) hab)
  refine wpAny_bind (wpAny_typeOf (T := "bytes") (v := .bytes b t) rfl ?_)
  refine wpAny_pure ?_
  rw [if_neg (by decide)]
  refine wpAny_pure ⟨plainId_quiet F.plain_extend_loop _, codeAny_extend_loopS W.toS hn _ hSf _ b.size 0 _ _ _ rfl (Nat.zero_le _) ⟨_, Heap.get?_push_size _ rfl, rfl, rfl⟩ (Heap.get?_push_of_some _ hS) (ItemsOf.nil _) fun s' acc' c' hm hS' hacc => ?_⟩
  rw [Moved.eq_with hm]
  refine hR s'.heap s'.toks acc' c' (fun b ob hb e => hm.heap b ob (fun hmem => ?_) (Heap.get?_push_of_some _ e)) hS' hacc
  rcases List.mem_cons.mp hmem with e' | hmem
  · exact hb e'
  · exact absurd (Heap.lt_size e) (by rw [List.mem_singleton.mp hmem]; exact Nat.lt_irrefl _)

theorem call_list_bytes {Q : Value → Shared → Prop} (hh : A.handled = none) (b : Array UInt8) (t : Tok) (hn : b.size ≤ sizeLine)
    (hQ : ∀ h' tk acc' c', (∀ b o, s.heap.get? b = some o → h'.get? b = some o) →
      h'.get? s.heap.objs.size = some { cls := .type "list", dict := none, data := .seq acc' c', slots := #[] } → ItemsOf (fun i v => ∃ c u, b[i]? = some c ∧ v = .int (c.toNat : Int) u) acc' b.size → Q (.ref s.heap.objs.size) { s with heap := h', toks := tk }) :
    wpAny (model prog w) A (call (.type "list") [.bytes b t]) Q E s := by
  refine callType_codes (Q₁ := fun obj s₁ => obj = .ref s.heap.objs.size ∧ s₁ = { s with heap := s.heap.push { cls := .type "list", data := .seq #[] } }) F.called_list (F.typeCall_list_1 _) F.entry_list_init
    (code_list_new _ ⟨rfl, rfl⟩) fun obj s₁ h₁ => ?_
  obtain ⟨rfl, rfl⟩ := h₁
  have hS : (s.heap.push { cls := .type "list", data := .seq #[] }).get? s.heap.objs.size = some { cls := .type "list", data := .seq #[] } := Heap.get?_push_size _ rfl
  refine ⟨⟨_, hS, rfl⟩, F.args_list_init_2 _ _, ?_⟩
  generalize hs1 : ({ s with heap := s.heap.push { cls := .type "list", data := .seq #[] } } : Shared) = s1
  have hS1 : s1.heap.get? s.heap.objs.size = some { cls := .type "list", data := .seq #[] } := by rw [← hs1]; exact hS
  show wpAny _ _ (do let old ← Builtin.List.listItems (.ref s.heap.objs.size); Builtin.List.listUpdate (.ref s.heap.objs.size) (fun _ => #[]); letGo old.toList.reverse; Builtin.List.listExtendWith (.ref s.heap.objs.size) (.bytes b t) .none) _ _ s1
  refine wpAny_bind ?_
  unfold Builtin.List.listItems
  refine wpAny_bind (wpAny_seqItems hS1 rfl (wpAny_pure ?_))
  show wpAny _ _ (updateSeq s.heap.objs.size (fun _ => #[]) >>= fun _ => letGo (#[] : Array Value).toList.reverse >>= fun _ => Builtin.List.listExtendWith (.ref s.heap.objs.size) (.bytes b t) .none) _ _ s1
  refine wpAny_bind (wpAny_updateSeq hS1 rfl ?_)
  have hS₂ := Heap.get?_update_self (Obj.mapSeq (fun _ => (#[] : Array Value))) hS1 rfl
  have oth : ∀ b o, b ≠ s.heap.objs.size → s1.heap.get? b = some o → (s1.heap.update s.heap.objs.size (Obj.mapSeq (fun _ => (#[] : Array Value)))).get? b = some o :=
    fun b o hb e => (Heap.get?_update_other _ _ (Ne.symm hb)).trans e
  refine wpAny_bind (wpAny_letGo ?_)
  refine extend_bytes (A := A.in1) hh b t _ .none _ hn hS₂ fun h' tk acc' c' hk hS' hacc => ?_
  subst hs1
  exact ⟨rfl, hQ h' tk acc' c' (fun b o e => hk b o (Nat.ne_of_lt (Heap.lt_size e)) (oth b o (Nat.ne_of_lt (Heap.lt_size e)) (Heap.get?_push_of_some _ e))) hS' hacc⟩
end

section
variable {prog : Program} {w : World} {G : Glo} {env : Env} {X : Addr → Prop} {GN : List (Str × NameKind)} {st : List (Str × Slot)} {A : Around}

theorem ev_neg {e : Expr} {pos : Pos} {i : Int} (h : Ev prog w G env X GN st A e (.int i)) : Ev prog w G env X GN st A (.UnaryOp .USub e pos) (.int (-i)) := by
  intro s E r
  refine wpAny_UnaryOp (wpAny_mono (h s E r) (fun v s1 q => ?_) fun _ _ e => e)
  obtain ⟨k, D⟩ := q
  simp only [Den] at D
  obtain ⟨t, rfl⟩ := D
  exact PyProof.Rows.neg_int ⟨k.trans (.tok s1 _), den_int⟩

theorem fun_listB {c : List UInt8} (hh : A.handled = none) : Fun prog w G A (.type "list") [.bytes c] (.ints (c.map fun u => (u.toNat : Int))) := by
  intro X s E vs hx hg hd₀
  obtain ⟨v, rfl, hd⟩ := one_arg hd₀
  simp only [Den] at hd
  obtain ⟨hl, t, rfl⟩ := hd
  refine call_list_bytes hh _ t (by simpa using hl) fun h' tk acc' c' hk hS hacc => ?_
  refine ⟨⟨h', tk, rfl, hk⟩, ?_⟩
  simp only [Den]
  refine ⟨by simpa using hl, _, acc'.toList, c', rfl, not_X_fresh (o := lobj [] 0) hx, by rw [hS], ?_⟩
  obtain ⟨hz, hit⟩ := hacc
  have hia : IntsAre acc'.toList (c.map fun u => (u.toNat : Int)) := by
    have go : ∀ (vs : List Value) (us : List UInt8), vs.length = us.length → (∀ (j : Nat) v, vs[j]? = some v → ∃ c u, us[j]? = some c ∧ v = .int (c.toNat : Int) u) → IntsAre vs (us.map fun u => (u.toNat : Int)) := by
      intro vs
      induction vs with
      | nil =>
        intro us e _
        cases us with
        | nil => exact .nil
        | cons _ _ => simp at e
      | cons v vs ih =>
        intro us e hq
        cases us with
        | nil => simp at e
        | cons u us =>
          obtain ⟨c, t, hc, rfl⟩ := hq 0 v rfl
          simp at hc; subst hc
          exact .cons _ t (ih us (by simpa using e) fun j v hv => by simpa using hq (j + 1) v (by simpa using hv))
    refine go _ _ (by simpa using hz) fun j v hv => ?_
    obtain ⟨c1, u, h1, h2⟩ := hit j v (by simpa using hv)
    exact ⟨c1, u, by simpa using h1, h2⟩
  exact denL_of_ints hia
end
end Mine
end

section
open PySem PyProof.Rows
set_option Elab.async false
set_option linter.unusedVariables false
namespace Mine
section
variable {prog : Program} {w : World} {G : Glo} {env : Env} {X : Addr → Prop} {GN : List (Str × NameKind)} {st : List (Str × Slot)} {A : Around}
theorem ev_sliceI {b : Expr} {lo hi : Option Expr} {p pos : Pos} {xs : List Int} {l u : Option Int} (hb : EvS prog w G env X GN st A b (xs.map .int)) (hl : EvP prog w G env X GN st A lo l) (hu : EvP prog w G env X GN st A hi u) :
    Ev prog w G env X GN st A (.Subscript b (.Slice lo hi none p) pos) (.ints (slc l u xs)) := by
  have := ev_slice (p := p) (pos := pos) hb hl hu
  rw [slc_map] at this
  exact this
theorem ev_takeI {b hi : Expr} {p pos : Pos} {xs : List Int} {u : Int} {ys : List Int} (hb : EvS prog w G env X GN st A b (xs.map .int)) (hu : Ev prog w G env X GN st A hi (.int u)) (h0 : 0 ≤ u) (e : xs.take u.toNat = ys) :
    Ev prog w G env X GN st A (.Subscript b (.Slice none (some hi) none p) pos) (.ints ys) := by
  have := ev_sliceI (p := p) (pos := pos) hb evp_none (evp_some hu)
  rw [slc_upto h0, e] at this
  exact this
theorem ev_dropI {b lo : Expr} {p pos : Pos} {xs : List Int} {u : Int} {ys : List Int} (hb : EvS prog w G env X GN st A b (xs.map .int)) (hu : Ev prog w G env X GN st A lo (.int u)) (h0 : 0 ≤ u) (e : xs.drop u.toNat = ys) :
    Ev prog w G env X GN st A (.Subscript b (.Slice (some lo) none none p) pos) (.ints ys) := by
  have := ev_sliceI (p := p) (pos := pos) hb (evp_some hu) evp_none
  rw [slc_from h0, e] at this
  exact this
theorem ev_runI {b lo hi : Expr} {p pos : Pos} {xs : List Int} {a u : Int} {ys : List Int} (hb : EvS prog w G env X GN st A b (xs.map .int)) (ha : Ev prog w G env X GN st A lo (.int a)) (hu : Ev prog w G env X GN st A hi (.int u)) (h0 : 0 ≤ a) (h1 : 0 ≤ u) (e : (xs.drop a.toNat).take (u.toNat - a.toNat) = ys) :
    Ev prog w G env X GN st A (.Subscript b (.Slice (some lo) (some hi) none p) pos) (.ints ys) := by
  have := ev_sliceI (p := p) (pos := pos) hb (evp_some ha) (evp_some hu)
  rw [slc_run h0 h1, e] at this
  exact this
theorem ev_revI {b : Expr} {st1 : Expr} {p pos : Pos} {xs : List Int} (hb : EvS prog w G env X GN st A b (xs.map .int)) (hs : Ev prog w G env X GN st A st1 (.int (-1))) :
    Ev prog w G env X GN st A (.Subscript b (.Slice none none (some st1) p) pos) (.ints xs.reverse) := by
  have := ev_rev (p := p) (pos := pos) hb hs
  rw [← List.map_reverse] at this
  exact this
theorem bin_addI2 {a b : List Int} (hl : (a ++ b).length ≤ sizeLine) : Bin prog w A .Add (.ints a) (.ints b) (.ints (a ++ b)) := by
  have := bin_addL (prog := prog) (w := w) (A := A) (a := a.map V.int) (b := b.map V.int) (by simpa using hl)
  rw [← List.map_append] at this
  exact this
theorem ev_lenI {p pos : Pos} {e : Expr} {xs : List Int} (hm : (Str.ofString "len", NameKind.globalImplicit) ∈ GN) (h : Ev prog w G env X GN st A e (.ints xs))
    (he : starEach [e] env = (false, eval e env) :: starEach [] env := by rfl) : Ev prog w G env X GN st A (.Call (.Name (Str.ofString "len") p) [e] [] pos) (.int xs.length) := ev_len hm h (fun_lenS (.lst xs)) he
end

theorem rng_down (n : Nat) : rng ((n : Int) - 1) 0 (-1) = (List.range (n - 1)).map fun i => ((n - 1 - i : Nat) : Int) := by
  unfold rng
  have e : (Builtin.Range.rangeSize ((n : Int) - 1) 0 (-1)).toNat = n - 1 := by
    unfold Builtin.Range.rangeSize
    rw [if_neg (by exact ar38)]
    split
    · rw [show (-(-1) : Int) = 1 from rfl, Int.ediv_one]; exact ar39
    · exact ar40 (by assumption)
  rw [e]
  exact List.map_congr_left fun i hi => by
    rw [List.mem_range] at hi
    exact ar41 hi
theorem small_down {n : Nat} (h : n ≤ 1000000) : Builtin.Range.small ((n : Int) - 1) 0 (-1) = true := by
  have e : 0 ≤ Builtin.Range.rangeSize ((n : Int) - 1) 0 (-1) ∧ Builtin.Range.rangeSize ((n : Int) - 1) 0 (-1) ≤ 1000000 := by
    unfold Builtin.Range.rangeSize
    rw [if_neg (by exact ar38)]
    split
    · rw [show (-(-1) : Int) = 1 from rfl, Int.ediv_one]; exact ar42 (by assumption) h
    · exact ar43
  unfold Builtin.Range.small
  simp only [Builtin.Range.rangeFitsLong, Bool.and_eq_true, Bool.or_eq_true, decide_eq_true_eq, beq_iff_eq, if_neg (show ¬ (-1 : Int) > 0 by decide)]
  exact ar44 e h
theorem rng_zero (n : Nat) : rng 0 (n : Int) 1 = (List.range n).map fun i => ((i : Nat) : Int) := by
  rw [rng_one]; simp
end Mine
end

section
open PySem PyProof.Rows
set_option Elab.async false
set_option linter.unusedVariables false
set_option maxRecDepth 100000
namespace Mine

noncomputable def onP (p : Int × Int → Bool) : List V → Bool
  | [.int a, .int b] => p (a, b)
  | _ => false
noncomputable def gP (f : Int × Int → V) : List V → V
  | [.int a, .int b] => f (a, b)
  | _ => .none
noncomputable abbrev pairV (q : Int × Int) : List V := [V.int q.1, V.int q.2]
theorem comp_pairs (p : Int × Int → Bool) (f : Int × Int → V) : ∀ l : List (Int × Int), ((l.map pairV).filter (onP p)).map (gP f) = (l.filter p).map f
  | [] => rfl
  | (a, b) :: l => by
    have ih := comp_pairs p f l
    simp only [List.map_cons, List.filter_cons]
    cases h : p (a, b)
    · simp only [onP, pairV, h, Bool.false_eq_true, if_false]; exact ih
    · simp only [onP, pairV, h, if_true, List.map_cons, gP]; rw [← ih]

section
variable {prog : Program} {w : World} {G : Glo} {env : Env} {X : Addr → Prop} {GN : List (Str × NameKind)} {st : List (Str × Slot)} {A : Around}
theorem ev_compP {elt iter : Expr} {ifs : List Expr} {scope : Scope} {pos tp px py : Pos} {kk : Nat} {x y : Str} {l : List (Int × Int)} {cap : List (Str × Slot)} (f : Int × Int → V) (p : Int × Int → Bool)
    (hi : EvW prog w G env X GN st A iter (.Tuple [.Name x px, .Name y py] kk tp) [x, y] (l.map pairV)) (hsc : scopeOk scope GN [x, y] = true) (hcap : Cap st scope.names cap) (hsz : l.length ≤ sizeLine)
    (hif : ∀ i ∈ l, ∀ X cenv, Ifs prog w G cenv X (frees scope.names) ((x, .val (.int i.1)) :: (y, .val (.int i.2)) :: cap) A ifs (p i))
    (hel : ∀ i ∈ l, p i = true → ∀ X cenv, Ev prog w G cenv X (frees scope.names) ((x, .val (.int i.1)) :: (y, .val (.int i.2)) :: cap) A elt (f i))
    (hfs : ∀ x, foldedSetIterable iter env x = pure x := by intro _; rfl) :
    Ev prog w G env X GN st A (.ListComp elt [⟨.Tuple [.Name x px, .Name y py] kk tp, iter, ifs, 0⟩] scope pos) (.list ((l.filter p).map f)) := by
  rw [← comp_pairs]
  refine ev_comp (gP f) (onP p) hi hsc hcap (by simpa using hsz) (fun ds hds X cenv => ?_) (fun ds hds hp X cenv => ?_) hfs
  · obtain ⟨i, hi', rfl⟩ := List.mem_map.mp hds
    exact hif i hi' X cenv
  · obtain ⟨i, hi', rfl⟩ := List.mem_map.mp hds
    exact hel i hi' hp X cenv
theorem evw_zipI {f : Str} {pf pos : Pos} {e1 e2 : Expr} {k : Nat} {tp px py : Pos} {x y : Str} {as bs : List Int} (hh : A.handled = none) (hm : (Str.ofString "zip", NameKind.globalImplicit) ∈ GN) (hf : f = Str.ofString "zip")
    (h : EvL prog w G env X GN st A [e1, e2] [.ints as, .ints bs]) :
    EvW prog w G env X GN st A (.Call (.Name f pf) [e1, e2] [] pos) (.Tuple [.Name x px, .Name y py] k tp) [x, y] ((as.zip bs).map pairV) := by
  have := evw_zip (tp := tp) (k := k) (pos := pos) (pf := pf) hh hm hf (.two x y px py k tp) h
  rw [List.zip_map, List.map_map] at this
  exact this
theorem evw_ints {e : Expr} {x : Str} {p : Pos} {l : List Int} (hh : A.handled = none) (h : Ev prog w G env X GN st A e (.ints l)) : EvW prog w G env X GN st A e (.Name x p) [x] (l.map fun i => [V.int i]) := by
  have := evw_list (x := x) (p := p) hh h
  rw [List.map_map] at this
  exact this
theorem ev_nilI {pos : Pos} : Ev prog w G env X GN st A (.List [] pos) (.ints []) := ev_list (ds := []) evl_nil (by simp)
end

section
variable {prog : Program} {w : World} {G : Glo} {env : Env} {X₀ : Addr → Prop} {own : List Addr} {GN : List (Str × NameKind)} {kept : Addr → Option Obj} {S : Shared} {st st' : List (Str × Slot)} {A : Around} {E : Value → Shared → Prop} {s : Shared}
  {rest : List Stmt} {Q : Flow → Shared → Prop}
theorem st_compI {elt iter : Expr} {ifs : List Expr} {scope : Scope} {pos px py spos : Pos} {x y : Str} {l : List Int} {cap : List (Str × Slot)} (f : Int → V) (p : Int → Bool)
    (hi : EvW prog w G env (Xof X₀ own) GN st A iter (.Name x px) [x] (l.map fun i => [V.int i])) (hsc : scopeOk scope GN [x] = true) (hcap : Cap st scope.names cap) (hsz : l.length ≤ sizeLine)
    (hif : ∀ i ∈ l, ∀ X cenv, Ifs prog w G cenv X (frees scope.names) ((x, .val (.int i)) :: cap) A ifs (p i))
    (hel : ∀ i ∈ l, p i = true → ∀ X cenv, Ev prog w G cenv X (frees scope.names) ((x, .val (.int i)) :: cap) A elt (f i))
    (hU : Upd y (.val (.list ((l.filter p).map f))) st st') (hk : (y, NameKind.local) ∈ GN) (R : Rel G env X₀ own GN kept S st s)
    (h : ∀ s', Rel G env X₀ own GN kept S st' s' → wpAny (model prog w) A (execs rest env) Q E s')
    (h1 : (py.line == pos.line) = true := by rfl) (h2 : (scope.names.any fun (n, k) => n == y && (k == .local || k == .cell)) = false := by decide +kernel)
    (hfs : ∀ x, foldedSetIterable iter env x = pure x := by intro _; rfl) :
    wpAny (model prog w) A (execs (.Assign [.Name y py] (.ListComp elt [⟨.Name x px, iter, ifs, 0⟩] scope pos) spos :: rest) env) Q E s := by
  rw [← comp_ints] at hU
  refine st_comp (gI f) (onI p) hi hsc hcap (by simpa using hsz) (fun ds hds X cenv => ?_) (fun ds hds hp X cenv => ?_) hU hk R h h1 h2 hfs
  · obtain ⟨i, hi', rfl⟩ := List.mem_map.mp hds
    exact hif i hi' X cenv
  · obtain ⟨i, hi', rfl⟩ := List.mem_map.mp hds
    exact hel i hi' hp X cenv
theorem st_compP {elt iter : Expr} {ifs : List Expr} {scope : Scope} {pos tp px pz py spos : Pos} {kk : Nat} {x z y : Str} {l : List (Int × Int)} {cap : List (Str × Slot)} (f : Int × Int → V) (p : Int × Int → Bool)
    (hi : EvW prog w G env (Xof X₀ own) GN st A iter (.Tuple [.Name x px, .Name z pz] kk tp) [x, z] (l.map pairV)) (hsc : scopeOk scope GN [x, z] = true) (hcap : Cap st scope.names cap) (hsz : l.length ≤ sizeLine)
    (hif : ∀ i ∈ l, ∀ X cenv, Ifs prog w G cenv X (frees scope.names) ((x, .val (.int i.1)) :: (z, .val (.int i.2)) :: cap) A ifs (p i))
    (hel : ∀ i ∈ l, p i = true → ∀ X cenv, Ev prog w G cenv X (frees scope.names) ((x, .val (.int i.1)) :: (z, .val (.int i.2)) :: cap) A elt (f i))
    (hU : Upd y (.val (.list ((l.filter p).map f))) st st') (hk : (y, NameKind.local) ∈ GN) (R : Rel G env X₀ own GN kept S st s)
    (h : ∀ s', Rel G env X₀ own GN kept S st' s' → wpAny (model prog w) A (execs rest env) Q E s')
    (h1 : (py.line == pos.line) = true := by rfl) (h2 : (scope.names.any fun (n, k) => n == y && (k == .local || k == .cell)) = false := by decide +kernel)
    (hfs : ∀ x, foldedSetIterable iter env x = pure x := by intro _; rfl) :
    wpAny (model prog w) A (execs (.Assign [.Name y py] (.ListComp elt [⟨.Tuple [.Name x px, .Name z pz] kk tp, iter, ifs, 0⟩] scope pos) spos :: rest) env) Q E s := by
  rw [← comp_pairs] at hU
  refine st_comp (gP f) (onP p) hi hsc hcap (by simpa using hsz) (fun ds hds X cenv => ?_) (fun ds hds hp X cenv => ?_) hU hk R h h1 h2 hfs
  · obtain ⟨i, hi', rfl⟩ := List.mem_map.mp hds
    exact hif i hi' X cenv
  · obtain ⟨i, hi', rfl⟩ := List.mem_map.mp hds
    exact hel i hi' hp X cenv
end
end Mine
end

section
open PySem PyProof.Rows
set_option Elab.async false
set_option linter.unusedVariables false
set_option maxRecDepth 100000
set_option maxHeartbeats 4000000
namespace Mine
local macro_rules | `(tactic| walk_at "mem0") => `(tactic| with_reducible (first | exact List.mem_cons_self | (apply List.mem_cons_of_mem; walk_at "mem0")))
local macro_rules | `(tactic| walk_at "mem") => `(tactic| first | walk_at "mem0" | decide +kernel)
local macro_rules | `(tactic| walk_at "upd") => `(tactic| with_reducible (first | exact Upd.here | (apply Upd.there; walk_at "upd")))

noncomputable def drawStep2 (sg row : List Int) (n : Int) : List Int :=
  if n % 3 = 0 then row ++ [sg.getD (n / 3 % 3).toNat 0] ++ [sg.getD (n / 3 % 3).toNat 0]
  else if n % 3 = 1 then row ++ [sg.getD (n / 3 % 3).toNat 0] ++ [sg.getD (n / 9 % 3).toNat 0] ++ [sg.getD (n / 9 % 3).toNat 0] ++ [sg.getD (n / 3 % 3).toNat 0]
  else [sg.getD (n / 3 % 3).toNat 0] ++ row ++ [sg.getD (n / 3 % 3).toNat 0]
noncomputable def drawnP2 (sg ns : List Int) : List Int := ns.foldl (drawStep2 sg) []
theorem drawStep2_len {sg row : List Int} {n : Int} : (drawStep2 sg row n).length ≤ row.length + 4 := by
  unfold drawStep2
  split
  · simp
  · split <;> simp
theorem drawStep2_mem {sg row : List Int} {n : Int} (hs : sg.length = 3) (h : ∀ x ∈ row, x ∈ sg) : ∀ x ∈ drawStep2 sg row n, x ∈ sg := by
  have g : ∀ k : Int, sg.getD (k % 3).toNat 0 ∈ sg := fun k => by
    have h4 : (k % 3).toNat < sg.length := by rw [hs]; exact ar47
    rw [List.getD, List.getElem?_eq_getElem h4]; exact List.getElem_mem h4
  intro x hx
  unfold drawStep2 at hx
  split at hx
  · simp only [List.mem_append, List.mem_singleton] at hx
    rcases hx with (hx | rfl) | rfl
    · exact h x hx
    · exact g _
    · exact g _
  · split at hx
    · simp only [List.mem_append, List.mem_singleton] at hx
      rcases hx with (((hx | rfl) | rfl) | rfl) | rfl
      · exact h x hx
      all_goals exact g _
    · simp only [List.mem_append, List.mem_singleton] at hx
      rcases hx with (rfl | hx) | rfl
      · exact g _
      · exact h x hx
      · exact g _
theorem drawnP2_mem {sg : List Int} (hs : sg.length = 3) (ns : List Int) : ∀ x ∈ drawnP2 sg ns, x ∈ sg := by
  have go : ∀ (l : List Int) (row : List Int), (∀ x ∈ row, x ∈ sg) → ∀ x ∈ l.foldl (drawStep2 sg) row, x ∈ sg := by
    intro l
    induction l with
    | nil => intro row h; exact h
    | cons a l ih => intro row h; exact ih _ (drawStep2_mem hs h)
  exact go ns [] fun x hx => nomatch hx
theorem drawnP2_len {sg : List Int} (ns : List Int) : (drawnP2 sg ns).length ≤ 4 * ns.length := by
  have go : ∀ (l : List Int) (row : List Int), (l.foldl (drawStep2 sg) row).length ≤ row.length + 4 * l.length := by
    intro l
    induction l with
    | nil => intro row; simp
    | cons a l ih =>
      intro row
      have h1 := ih (drawStep2 sg row a)
      have h2 := drawStep2_len (sg := sg) (row := row) (n := a)
      rw [List.foldl_cons, List.length_cons]; exact ar48 h1 h2
  have := go ns []
  simpa [drawnP2] using this
theorem drawnP2_take {sg ns : List Int} {i : Nat} (h : i < ns.length) : drawnP2 sg (ns.take (i + 1)) = drawStep2 sg (drawnP2 sg (ns.take i)) (ns.getD i 0) := by
  unfold drawnP2
  rw [List.take_add_one (l := ns), List.getElem?_eq_getElem h, List.foldl_append]
  simp [List.getD, h]
noncomputable abbrev stD2 (ns sg row : List Int) (nu o t : Slot) : List (Str × Slot) :=
  [(Str.ofString "numbers", .val (.ints ns)), (Str.ofString "signs", .val (.ints sg)), (Str.ofString "row", .val (.ints row)), (Str.ofString "number", nu), (Str.ofString "one", o), (Str.ofString "two", t)]
theorem drawn2 {prog : Program} {w : World} {p : Program} {loose : List Str} {mean : ExcName → Option Value} {mg mb : Str → Option Value} {A : Around} {ns sg : List Int} (hA : Room 1 A) (hs : sg.length = 3) (hn : ns.length ≤ 3) :
    Fun prog w (glo2 w p loose mean mg mb) A (.ref 35) [.ints ns, .ints sg] (.ints (drawnP2 sg ns)) := by
  refine fun_def (ps := [Str.ofString "numbers", Str.ofString "signs"]) (nms := [Str.ofString "numbers", Str.ofString "signs", Str.ofString "row", Str.ofString "number", Str.ofString "one", Str.ofString "two"])
    (st0 := [(Str.ofString "numbers", .val (.ints ns)), (Str.ofString "signs", .val (.ints sg)), (Str.ofString "row", .un), (Str.ofString "number", .un), (Str.ofString "one", .un), (Str.ofString "two", .un)]) 0 (fnIs2 rfl (by kernel_rfl) rfl rfl rfl rfl) hA ?_ rfl (by decide +kernel) rfl ?_ ?_
  · intro vals h
    obtain ⟨v, u, rfl⟩ := len2 h
    rfl
  · intro q hq
    simp only [List.mem_cons, List.not_mem_nil, or_false] at hq
    rcases hq with rfl | rfl | rfl | rfl | rfl | rfl
    · exact .inr ⟨_, rfl, by simp⟩
    · exact .inr ⟨_, rfl, by simp⟩
    all_goals exact .inl rfl
  · intro env X₀ kept S s Q E hR R hret
    dsimp only at R hret
    have hh : (A.deeper env).handled = none := hR.1
    have hz : sizeLine = 16777216 := by decide
    refine st_assign (k := .local) (d := .ints []) ev_nilI (st' := stD2 ns sg [] .un .un .un) (by walk_at "upd") (by walk_at "mem") (.inl rfl) rfl R fun s1 R1 => ?_
    refine st_for (σ := List Int) (fun row => stD2 ns sg row .un .un .un) (fun ds row => stD2 ns sg row (.val (ds.headD .none)) .un .un) (fun i row => row = drawnP2 sg (ns.take i)) []
      (items := ns.map fun i => [V.int i]) (evw_ints hh (ev_name (by walk_at "mem")))
      (fun ds hds _ => by obtain ⟨d, hd, rfl⟩ := List.mem_map.mp hds; exact .cons (.there (.there (.there .here))) .nil) (fun x hx => by rw [List.mem_singleton.mp hx]; exact .inl (by walk_at "mem")) (Wkn.refl _) rfl R1 ?_ ?_
    · rintro i ds row X₁ kept' s2 E2 hi hP hX hK R2
      have hlt : i < ns.length := by
        by_cases q : i < ns.length
        · exact q
        · rw [List.getElem?_eq_none (by simpa using q)] at hi; cases hi
      have hds : ds = [V.int (ns.getD i 0)] := by
        rw [List.getElem?_map, List.getElem?_eq_getElem hlt] at hi
        simp only [Option.map_some, Option.some.injEq] at hi
        rw [← hi]; simp [List.getD, hlt]
      subst hds
      dsimp only [List.headD] at R2
      have hnext := drawnP2_take (sg := sg) hlt
      rw [← hP] at hnext
      have hrl : row.length ≤ 100 := by
        have h1 := drawnP2_len (sg := sg) (ns.take i)
        rw [← hP] at h1
        have h2 : (ns.take i).length ≤ 3 := by rw [List.length_take]; exact ar49 hn
        exact ar50 h1 h2
      generalize ns.getD i 0 = n at *
      have h3 : ∀ k : Int, 0 ≤ k % 3 ∧ k % 3 < 3 := fun k => by exact ar51
      generalize ho : [sg.getD (n / 3 % 3).toNat 0] = one
      generalize ht : [sg.getD (n / 9 % 3).toNat 0] = two
      have hol : one.length = 1 := by rw [← ho]; rfl
      have htl : two.length = 1 := by rw [← ht]; rfl
      refine st_assign (k := .local) (d := .ints one) (ev_eq (ev_list (evl_cons (ev_idxI (xs := sg) (k := n / 3 % 3) (evs_of (ev_name (by walk_at "mem"))) (ev_bin (ev_bin (ev_name (by walk_at "mem")) ev_int (bin_divI (by decide) (by decide))) ev_int (bin_modI (by decide))) (h3 _).1 (by rw [hs]; exact (h3 _).2)) evl_nil) (by simp [hz])) (by rw [← ho]; rfl))
        (st' := stD2 ns sg row (.val (.int n)) (.val (.ints one)) .un) (by walk_at "upd") (by walk_at "mem") (.inl rfl) rfl R2 fun s3 R3 => ?_
      refine st_assign (k := .local) (d := .ints two) (ev_eq (ev_list (evl_cons (ev_idxI (xs := sg) (k := n / 9 % 3) (evs_of (ev_name (by walk_at "mem"))) (ev_bin (ev_bin (ev_name (by walk_at "mem")) ev_int (bin_divI (by decide) (by decide))) ev_int (bin_modI (by decide))) (h3 _).1 (by rw [hs]; exact (h3 _).2)) evl_nil) (by simp [hz])) (by rw [← ht]; rfl))
        (st' := stD2 ns sg row (.val (.int n)) (.val (.ints one)) (.val (.ints two))) (by walk_at "upd") (by walk_at "mem") (.inl rfl) rfl R3 fun s4 R4 => ?_
      refine st_if (b := (n % 3 == 0)) (tst_cmp (ev_bin (ev_name (by walk_at "mem")) ev_int (bin_modI (by decide))) ev_int cmp_eqI) R4 (fun h1 s5 R5 => ?_) (fun h1 s5 R5 => ?_)
      · have hk : n % 3 = 0 := by simpa using h1
        have e : drawStep2 sg row n = row ++ one ++ one := by unfold drawStep2; rw [if_pos hk, ho]
        refine st_assign (k := .local) (d := .ints (row ++ one ++ one)) (ev_bin (ev_bin (ev_name (by walk_at "mem")) (ev_name (by walk_at "mem")) (bin_addI2 (by rw [List.length_append]; exact ar52 hrl hol hz))) (ev_name (by walk_at "mem")) (bin_addI2 (by rw [List.length_append, List.length_append]; exact ar53 hrl hol hz)))
          (st' := stD2 ns sg (row ++ one ++ one) (.val (.int n)) (.val (.ints one)) (.val (.ints two))) (by walk_at "upd") (by walk_at "mem") (.inl rfl) rfl R5 fun s7 R7 => ?_
        exact st_nil (st_nil ⟨_, _, by rw [hnext, e], R7, .same (.same (.same (.drop (.drop (.drop .nil)))))⟩)
      · have hk : ¬ n % 3 = 0 := by simpa using h1
        refine st_if (b := (n % 3 == 1)) (tst_cmp (ev_bin (ev_name (by walk_at "mem")) ev_int (bin_modI (by decide))) ev_int cmp_eqI) R5 (fun h2 s6 R6 => ?_) (fun h2 s6 R6 => ?_)
        · have hk2 : n % 3 = 1 := by simpa using h2
          have e : drawStep2 sg row n = row ++ one ++ two ++ two ++ one := by unfold drawStep2; rw [if_neg hk, if_pos hk2, ho, ht]
          refine st_assign (k := .local) (d := .ints (row ++ one ++ two ++ two ++ one)) (ev_bin (ev_bin (ev_bin (ev_bin (ev_name (by walk_at "mem")) (ev_name (by walk_at "mem")) (bin_addI2 (by rw [List.length_append]; exact ar52 hrl hol hz))) (ev_name (by walk_at "mem")) (bin_addI2 (by simp only [List.length_append]; exact ar54 hrl hol htl hz))) (ev_name (by walk_at "mem")) (bin_addI2 (by simp only [List.length_append]; exact ar55 hrl hol htl hz))) (ev_name (by walk_at "mem")) (bin_addI2 (by simp only [List.length_append]; exact ar56 hrl hol htl hz)))
            (st' := stD2 ns sg (row ++ one ++ two ++ two ++ one) (.val (.int n)) (.val (.ints one)) (.val (.ints two))) (by walk_at "upd") (by walk_at "mem") (.inl rfl) rfl R6 fun s7 R7 => ?_
          exact st_nil (st_nil (st_nil ⟨_, _, by rw [hnext, e], R7, .same (.same (.same (.drop (.drop (.drop .nil)))))⟩))
        · have hk2 : ¬ n % 3 = 1 := by simpa using h2
          have e : drawStep2 sg row n = one ++ row ++ one := by unfold drawStep2; rw [if_neg hk, if_neg hk2, ho]
          refine st_assign (k := .local) (d := .ints (one ++ row ++ one)) (ev_bin (ev_bin (ev_name (by walk_at "mem")) (ev_name (by walk_at "mem")) (bin_addI2 (by rw [List.length_append]; exact ar57 hol hrl hz))) (ev_name (by walk_at "mem")) (bin_addI2 (by simp only [List.length_append]; exact ar58 hol hrl hz)))
            (st' := stD2 ns sg (one ++ row ++ one) (.val (.int n)) (.val (.ints one)) (.val (.ints two))) (by walk_at "upd") (by walk_at "mem") (.inl rfl) rfl R6 fun s7 R7 => ?_
          exact st_nil (st_nil (st_nil ⟨_, _, by rw [hnext, e], R7, .same (.same (.same (.drop (.drop (.drop .nil)))))⟩))
    · rintro row s2 hP2 R2
      rw [List.length_map, List.take_of_length_le (Nat.le_refl _)] at hP2
      subst hP2
      exact st_ret (ev_name (by walk_at "mem")) R2 fun v s' R' D => hret _ _ _ _ _ _ (fun _ q => q) (fun _ _ q => q) R' D
end Mine
end

section
open PySem PyProof.Rows
set_option Elab.async false
set_option linter.unusedVariables false
set_option maxRecDepth 100000
set_option maxHeartbeats 4000000
namespace Mine
local macro_rules | `(tactic| walk_at "mem0") => `(tactic| with_reducible (first | exact List.mem_cons_self | (apply List.mem_cons_of_mem; walk_at "mem0")))
local macro_rules | `(tactic| walk_at "mem") => `(tactic| first | walk_at "mem0" | decide +kernel)
local macro_rules | `(tactic| walk_at "upd") => `(tactic| with_reducible (first | exact Upd.here | (apply Upd.there; walk_at "upd")))

noncomputable def chN (xs : List Int) : Nat → List Nat
  | 0 => [lb xs xs.length]
  | i + 1 => if 0 < (chN xs i).getLastD 0 then chN xs i ++ [lb xs ((chN xs i).getLastD 0)] else chN xs i
noncomputable def chL (xs : List Int) : List Nat := (chN xs xs.length).filter fun k => k != 0
theorem chN_ne (xs : List Int) : ∀ i, chN xs i ≠ []
  | 0 => by simp [chN]
  | i + 1 => by
    unfold chN
    split
    · simp
    · exact chN_ne xs i
theorem chN_len (xs : List Int) : ∀ i, (chN xs i).length ≤ i + 1
  | 0 => by simp [chN]
  | i + 1 => by
    have := chN_len xs i
    unfold chN
    split
    · simp; exact this
    · exact ar354 this
theorem lb_le_len (xs : List Int) (n : Nat) : lb xs n ≤ n := by
  rcases Nat.eq_zero_or_pos n with z | z
  · subst z; exact Nat.le_refl _
  · have := (lb_spec xs z).1.1; exact ar138 this
theorem chN_le (xs : List Int) : ∀ i, (chN xs i).getLastD 0 ≤ xs.length
  | 0 => by simpa [chN] using lb_le_len xs _
  | i + 1 => by
    have := chN_le xs i
    unfold chN
    split
    · have h2 := lb_le_len xs ((chN xs i).getLastD 0)
      simp only [List.getLastD_concat]; exact ar540 h2 this
    · exact this
noncomputable def cst (l : List Nat) : List Int := l.map fun (n : Nat) => (n : Int)
theorem cst_length (l : List Nat) : (cst l).length = l.length := by simp [cst]
theorem cst_last {l : List Nat} (h : l ≠ []) : (cst l)[((-1 : Int) + (l.length : Int)).toNat]? = some ((l.getLastD 0 : Nat) : Int) := by
  have hp : 0 < l.length := List.length_pos_iff.mpr h
  rw [show ((-1 : Int) + (l.length : Int)).toNat = l.length - 1 from by exact ar541]
  unfold cst
  rw [List.getElem?_map, ← List.getLast?_eq_getElem?, List.getLastD_eq_getLast?]
  obtain ⟨x, hx⟩ := Option.isSome_iff_exists.mp (List.getLast?_isSome.mpr h)
  rw [hx]; rfl
noncomputable abbrev stTo (xs : List Int) (sz pl : Slot) : List (Str × Slot) := [(Str.ofString "table", .val (.ints (tab xs))), (Str.ofString "sizes", sz), (Str.ofString "place", pl)]
theorem told2 {prog : Program} {w : World} {p : Program} {loose : List Str} {mean : ExcName → Option Value} {mg mb : Str → Option Value} {A : Around} {xs : List Int} (hA : Room 1 A) (h1 : 1 ≤ xs.length) (hl : xs.length ≤ 1000) :
    Fun prog w (glo2 w p loose mean mg mb) A (.ref 40) [.ints (tab xs)] (.ints (cst (chL xs))) := by
  refine fun_def (ps := [Str.ofString "table"]) (nms := [Str.ofString "table", Str.ofString "sizes", Str.ofString "place"]) (st0 := stTo xs .un .un) 0 (fnIs2 rfl (by kernel_rfl) rfl rfl rfl rfl) hA ?_ rfl (by decide +kernel) rfl ?_ ?_
  · intro vals h
    obtain ⟨v, rfl⟩ := len1 h
    rfl
  · intro q hq
    simp only [stTo, List.mem_cons, List.not_mem_nil, or_false] at hq
    rcases hq with rfl | rfl | rfl
    · exact .inr ⟨_, rfl, by simp⟩
    · exact .inl rfl
    · exact .inl rfl
  · intro env X₀ kept S s Q E hR R hret
    dsimp only at R hret
    have hh : (A.deeper env).handled = none := hR.1
    have hz : sizeLine = 16777216 := by decide
    have htl := tab_length xs
    have hget : ∀ k, k < xs.length → (tab xs)[k]? = some ((lb xs (k + 1) : Nat) : Int) := fun k hk => by
      unfold tab; rw [List.getElem?_map, List.getElem?_range hk]; rfl
    refine st_own (k := .local) (ds := (cst (chN xs 0)).map V.int) (st' := fun a => stTo xs (.own a ((cst (chN xs 0)).map V.int)) .un) (evn_eq (evn_list (evl_cons (ev_idxN (k := -1) (d := .int ((lb xs xs.length : Nat) : Int)) (evs_of (ev_name (by walk_at "mem"))) (ev_neg ev_int) (by decide) (by rw [List.length_map, htl]; exact ar542 h1)
        (by rw [List.length_map, htl, show ((-1 : Int) + (xs.length : Int)).toNat = xs.length - 1 from by exact ar541, List.getElem?_map, hget _ (by exact ar449 h1), show xs.length - 1 + 1 = xs.length from by exact ar451 h1]; rfl)) evl_nil) (by simp [hz])) (by simp [chN, cst])) (fun a => by walk_at "upd") (by walk_at "mem") (.inl rfl) rfl R fun a s1 R1 => ?_
    refine st_for (σ := Nat) (fun i => stTo xs (.own a ((cst (chN xs i)).map V.int)) .un) (fun ds i => stTo xs (.own a ((cst (chN xs i)).map V.int)) (.val (ds.headD .none))) (fun i c => c = i) 0
      (items := ((List.range xs.length).map fun i => ((i : Nat) : Int)).map fun i => [V.int i]) (by
        rw [← rng_zero]
        exact evw_range1 hh (by walk_at "mem") rfl (evl_cons (ev_eq (ev_lenI (by walk_at "mem") (ev_name (by walk_at "mem"))) (by rw [htl])) evl_nil) (small_one (by exact ar169) (by exact ar170) (by exact ar171) (by exact ar543 hl)))
      (fun ds hds _ => by obtain ⟨i, _, rfl⟩ := List.mem_map.mp hds; exact .cons (by dsimp only [List.headD]; walk_at "upd") .nil) (fun x hx => by rw [List.mem_singleton.mp hx]; exact .inl (by walk_at "mem")) (Wkn.refl _) rfl R1 ?_ ?_
    · rintro i ds c X₁ kept' s2 E2 hi rfl hX hK R2
      have hlt : c < xs.length := by
        by_cases q : c < xs.length
        · exact q
        · rw [List.getElem?_eq_none (by simpa using q)] at hi; cases hi
      have hds : ds = [V.int (c : Int)] := by
        rw [List.map_map, List.getElem?_map, List.getElem?_range hlt] at hi
        simp only [Option.map_some, Option.some.injEq, Function.comp] at hi
        rw [← hi]
      subst hds
      dsimp only [List.headD] at R2
      have hne := chN_ne xs c
      have hcl := chN_len xs c
      have hle := chN_le xs c
      have hlast := cst_last hne
      have hpos : 0 < (chN xs c).length := List.length_pos_iff.mpr hne
      have hnext : chN xs (c + 1) = if 0 < (chN xs c).getLastD 0 then chN xs c ++ [lb xs ((chN xs c).getLastD 0)] else chN xs c := rfl
      generalize hcc : chN xs c = ch at *
      generalize hlv : ch.getLastD 0 = l at *
      refine st_if (b := decide (0 < l)) (tst_eq (tst_cmp (ev_idxN (k := -1) (d := .int (l : Int)) (ds := (cst ch).map V.int) (evs_own (by walk_at "mem")) (ev_neg ev_int) (by decide) (by rw [List.length_map, cst_length]; exact ar528 hpos) (by rw [List.length_map, cst_length, List.getElem?_map, hlast]; rfl)) ev_int cmp_gtI) (by rw [Bool.eq_iff_iff, decide_eq_true_eq, decide_eq_true_eq]; exact ⟨ar544, ar545⟩)) R2 (fun h1 s3 R3 => ?_) (fun h1 s3 R3 => ?_)
      · have h1 := of_decide_eq_true h1
        rw [if_pos h1] at hnext
        refine st_append (st' := stTo xs (.own a ((cst (chN xs (c + 1))).map V.int)) (.val (.int (c : Int)))) (d := .int ((lb xs l : Nat) : Int)) (by walk_at "mem")
          (ev_eq (ev_idxI (xs := tab xs) (k := (l : Int) - 1) (evs_of (ev_name (by walk_at "mem"))) (ev_bin (ev_idxN (k := -1) (d := .int (l : Int)) (ds := (cst ch).map V.int) (evs_own (by walk_at "mem")) (ev_neg ev_int) (by decide) (by rw [List.length_map, cst_length]; exact ar528 hpos) (by rw [List.length_map, cst_length, List.getElem?_map, hlast]; rfl)) ev_int bin_subI) (by exact ar546 h1) (by rw [htl]; exact ar547 hle))
            (by rw [show ((l : Int) - 1).toNat = l - 1 from by exact ar548, List.getD, hget _ (by exact ar549 h1 hle), show l - 1 + 1 = l from by exact ar550 h1]; rfl)) (by rw [List.length_map, cst_length]; exact ar551 hcl hz hlt hl) ?_ R3 fun s4 R4 => ?_
        · have : (cst (chN xs (c + 1))).map V.int = (cst ch).map V.int ++ [V.int ((lb xs l : Nat) : Int)] := by rw [hnext]; simp [cst]
          rw [this]; exact .there .here
        · exact st_nil (st_nil ⟨c + 1, _, rfl, R4, .same (.same (.drop .nil))⟩)
      · have h1 := of_decide_eq_false h1
        rw [if_neg h1] at hnext
        exact st_nil (st_nil ⟨c + 1, _, rfl, R3, by rw [hnext]; exact .same (.same (.drop .nil))⟩)
    · rintro c s2 rfl R2
      rw [List.length_map, List.length_map, List.length_range] at R2
      have hcl := chN_len xs xs.length
      have R3 := R2.freeze (own' := []) (st' := stTo xs (.val (.ints (cst (chN xs xs.length)))) .un) (x := Str.ofString "sizes") (a := a) (ds := (cst (chN xs xs.length)).map V.int) (by walk_at "mem") (by walk_at "upd") (by simp) (by simp)
      refine st_ret (d := .ints (cst (chL xs))) (ev_eq (ev_compI (l := cst (chN xs xs.length)) (cap := []) V.int (fun i => i != 0) (evw_ints hh (ev_name (by walk_at "mem"))) (by decide +kernel) .nil (by rw [cst_length]; exact ar552 hcl hz hl)
        (fun i hi X cenv => ifs_one (tst_cmp (ev_name (by walk_at "mem")) ev_int cmp_neI)) (fun i hi hp X cenv => ev_name (by walk_at "mem"))) ?_) R3 fun v s' R' D => hret _ _ _ _ _ _ (fun _ q => q) (fun _ _ q => q) R' D
      unfold chL cst V.ints
      congr 2
      rw [List.filter_map]
      congr 1
      refine List.filter_congr fun k _ => ?_
      simp only [Function.comp]
      rw [Bool.eq_iff_iff]; simp
end Mine
end

section
open PySem PyProof.Rows
set_option Elab.async false
set_option linter.unusedVariables false
set_option maxRecDepth 100000
set_option maxHeartbeats 4000000
namespace Mine
local macro_rules | `(tactic| walk_at "mem0") => `(tactic| with_reducible (first | exact List.mem_cons_self | (apply List.mem_cons_of_mem; walk_at "mem0")))
local macro_rules | `(tactic| walk_at "mem") => `(tactic| first | walk_at "mem0" | decide +kernel)
local macro_rules | `(tactic| walk_at "upd") => `(tactic| with_reducible (first | exact Upd.here | (apply Upd.there; walk_at "upd")))

noncomputable def reStep (r : List Int) (p : Int × Int) : List Int := if r.contains p.1 && (!r.contains p.2 && (p.2 - p.1) % 2 == 0) then r ++ [p.2] else r
noncomputable def reP (ps : List (Int × Int)) (a : Int) : List Int := ps.foldl reStep [a]
theorem reP_take {ps : List (Int × Int)} {a : Int} {i : Nat} (h : i < ps.length) : reP (ps.take (i + 1)) a = reStep (reP (ps.take i) a) ps[i] := by
  unfold reP
  rw [List.take_add_one (l := ps), List.getElem?_eq_getElem h, List.foldl_append]; rfl
theorem reP_len (ps : List (Int × Int)) (a : Int) : (reP ps a).length ≤ ps.length + 1 := by
  unfold reP
  have go : ∀ (l : List (Int × Int)) (r : List Int), (l.foldl reStep r).length ≤ r.length + l.length := by
    intro l
    induction l with
    | nil => intro r; simp
    | cons p l ih =>
      intro r
      have h1 := ih (reStep r p)
      have h2 : (reStep r p).length ≤ r.length + 1 := by unfold reStep; split <;> simp
      rw [List.foldl_cons, List.length_cons]; exact ar518 h1 h2
  have := go ps [a]
  simp only [List.length_singleton] at this; exact ar519 this
noncomputable abbrev stRe (ps : List (Int × Int)) (a : Int) (re he th : Slot) : List (Str × Slot) := [(Str.ofString "steps", .val (V.pairs ps)), (Str.ofString "start", .val (.int a)), (Str.ofString "reached", re), (Str.ofString "here", he), (Str.ofString "there", th)]
theorem reached2 {prog : Program} {w : World} {p : Program} {loose : List Str} {mean : ExcName → Option Value} {mg mb : Str → Option Value} {A : Around} {ps : List (Int × Int)} {a : Int} (hA : Room 1 A) (hl : ps.length ≤ 1000) :
    Fun prog w (glo2 w p loose mean mg mb) A (.ref 47) [V.pairs ps, .int a] (.ints (reP ps a)) := by
  refine fun_def (ps := [Str.ofString "steps", Str.ofString "start"]) (nms := [Str.ofString "steps", Str.ofString "start", Str.ofString "reached", Str.ofString "here", Str.ofString "there"]) (st0 := stRe ps a .un .un .un) 0 (fnIs2 rfl (by kernel_rfl) rfl rfl rfl rfl) hA ?_ rfl (by decide +kernel) rfl ?_ ?_
  · intro vals h
    obtain ⟨v, u, rfl⟩ := len2 h
    rfl
  · intro q hq
    simp only [stRe, List.mem_cons, List.not_mem_nil, or_false] at hq
    rcases hq with rfl | rfl | rfl | rfl | rfl
    · exact .inr ⟨_, rfl, by simp⟩
    · exact .inr ⟨_, rfl, by simp⟩
    all_goals exact .inl rfl
  · intro env X₀ kept S s Q E hR R hret
    dsimp only at R hret
    have hh : (A.deeper env).handled = none := hR.1
    have hu : (A.deeper env).units + 64 < cLine := by have := hR.2.2; exact ar520 this
    have hz : sizeLine = 16777216 := by decide
    refine st_own (k := .local) (ds := (reP (ps.take 0) a).map V.int) (st' := fun b => stRe ps a (.own b ((reP (ps.take 0) a).map V.int)) .un .un) (evn_eq (evn_list (evl_cons (ev_name (by walk_at "mem")) evl_nil) (by simp [hz])) (by simp [reP])) (fun a => by walk_at "upd") (by walk_at "mem") (.inl rfl) rfl R fun b s1 R1 => ?_
    refine st_for (σ := Nat) (fun i => stRe ps a (.own b ((reP (ps.take i) a).map V.int)) .un .un) (fun ds i => stRe ps a (.own b ((reP (ps.take i) a).map V.int)) (.val (ds.getD 0 .none)) (.val (ds.getD 1 .none))) (fun i c => c = i) 0
      (items := ps.map fun p => [V.int p.1, V.int p.2]) (evw_tuples hh (.two _ _ _ _ _ _) (fun r hr => by obtain ⟨q, _, rfl⟩ := List.mem_map.mp hr; rfl) (ev_eq (ev_name (d := V.pairs ps) (by walk_at "mem")) (by unfold V.pairs V.pair; rw [List.map_map]; rfl)))
      (fun ds hds _ => by
        obtain ⟨q, _, rfl⟩ := List.mem_map.mp hds
        dsimp only [List.getD, List.getElem?_cons_zero, List.getElem?_cons_succ, Option.getD_some]
        exact .cons (by walk_at "upd") (.cons (by walk_at "upd") .nil))
      (fun x hx => by
        simp only [List.mem_cons, List.not_mem_nil, or_false] at hx
        rcases hx with rfl | rfl <;> exact .inl (by walk_at "mem")) (Wkn.refl _) rfl R1 ?_ ?_
    · rintro i ds c X₁ kept' s2 E2 hi rfl hX hK R2
      have hlt : c < ps.length := by
        by_cases q : c < ps.length
        · exact q
        · rw [List.getElem?_eq_none (by simpa using q)] at hi; cases hi
      have hds : ds = [V.int ps[c].1, V.int ps[c].2] := by
        rw [List.getElem?_map, List.getElem?_eq_getElem hlt] at hi
        simp only [Option.map_some, Option.some.injEq] at hi
        exact hi.symm
      subst hds
      dsimp only [List.getD, List.getElem?_cons_zero, List.getElem?_cons_succ, Option.getD_some] at R2
      have hnext := reP_take (a := a) hlt
      have hlen := reP_len (ps.take c) a
      rw [List.length_take] at hlen
      generalize ps[c] = pr at *
      obtain ⟨x, y⟩ := pr
      dsimp only at R2
      generalize hr : reP (ps.take c) a = r at *
      refine st_if (b := r.contains x && (!r.contains y && (y - x) % 2 == 0)) (tst_eq (tst_bool (op := .And) (tsts_and (tst_in (ev_name (by walk_at "mem")) (evs_own (by walk_at "mem")) hu) fun _ => tsts_and (tst_notIn (ev_name (by walk_at "mem")) (evs_own (by walk_at "mem")) hu) fun _ => tsts_and (tst_cmp (ev_bin (ev_bin (ev_name (by walk_at "mem")) (ev_name (by walk_at "mem")) bin_subI) ev_int (bin_modI (by decide))) ev_int cmp_eqI) fun _ => tsts_and_nil)) (by simp)) R2 (fun h1 s3 R3 => ?_) (fun h1 s3 R3 => ?_)
      · have e : reStep r (x, y) = r ++ [y] := by unfold reStep; rw [if_pos h1]
        refine st_append (st' := stRe ps a (.own b ((reP (ps.take (c + 1)) a).map V.int)) (.val (.int x)) (.val (.int y))) (d := .int y) (by walk_at "mem") (ev_name (by walk_at "mem")) (by rw [List.length_map]; exact ar521 hlen hz hl) ?_ R3 fun s4 R4 => ?_
        · have : (reP (ps.take (c + 1)) a).map V.int = r.map V.int ++ [V.int y] := by rw [hnext, e]; simp
          rw [this]; exact .there (.there .here)
        · exact st_nil (st_nil ⟨c + 1, _, rfl, R4, .same (.same (.same (.drop (.drop .nil))))⟩)
      · have e : reStep r (x, y) = r := by unfold reStep; rw [if_neg (by rw [h1]; decide)]
        exact st_nil (st_nil ⟨c + 1, _, rfl, R3, by rw [hnext, e]; exact .same (.same (.same (.drop (.drop .nil))))⟩)
    · rintro c s2 rfl R2
      rw [List.length_map, List.take_of_length_le (Nat.le_refl _)] at R2
      have R3 := R2.freeze (own' := []) (st' := stRe ps a (.val (.ints (reP ps a))) .un .un) (x := Str.ofString "reached") (a := b) (ds := (reP ps a).map V.int) (by walk_at "mem") (by walk_at "upd") (by simp) (by simp)
      exact st_ret (ev_name (by walk_at "mem")) R3 fun v s' R' D => hret _ _ _ _ _ _ (fun _ q => q) (fun _ _ q => q) R' D

noncomputable def otP (ah be : List Int) (p : Int × Int) : Bool := (p.2 - p.1) % 2 == 1 || (!ah.contains p.1 && !be.contains p.2)
theorem other2 {prog : Program} {w : World} {p : Program} {loose : List Str} {mean : ExcName → Option Value} {mg mb : Str → Option Value} {A : Around} {ps : List (Int × Int)} {ah be : List Int} (hA : Room 1 A) (hl : ps.length ≤ 1000) :
    Fun prog w (glo2 w p loose mean mg mb) A (.ref 57) [V.pairs ps, .ints ah, .ints be] (V.pairs (ps.filter (otP ah be))) := by
  refine fun_def (ps := [Str.ofString "pairs", Str.ofString "ahead", Str.ofString "behind"]) (nms := [Str.ofString "pairs", Str.ofString "ahead", Str.ofString "behind"]) (st0 := [(Str.ofString "pairs", .val (V.pairs ps)), (Str.ofString "ahead", .val (.ints ah)), (Str.ofString "behind", .val (.ints be))]) 0 (fnIs2 rfl (by kernel_rfl) rfl rfl rfl rfl) hA ?_ rfl (by decide +kernel) rfl ?_ ?_
  · intro vals h
    obtain ⟨v, u, t, rfl⟩ := len3 h
    rfl
  · intro q hq
    simp only [List.mem_cons, List.not_mem_nil, or_false] at hq
    rcases hq with rfl | rfl | rfl
    · exact .inr ⟨_, rfl, by simp⟩
    · exact .inr ⟨_, rfl, by simp⟩
    · exact .inr ⟨_, rfl, by simp⟩
  · intro env X₀ kept S s Q E hR R hret
    dsimp only at R hret
    have hh : (A.deeper env).handled = none := hR.1
    have hu : (A.deeper env).units + 64 < cLine := by have := hR.2.2; exact ar520 this
    have hz : sizeLine = 16777216 := by decide
    refine st_ret (d := V.pairs (ps.filter (otP ah be))) (ev_compP (l := ps) (cap := [(Str.ofString "ahead", .val (.ints ah)), (Str.ofString "behind", .val (.ints be))]) V.pair (otP ah be)
      (evw_tuples hh (.two _ _ _ _ _ _) (fun r hr => by obtain ⟨q, _, rfl⟩ := List.mem_map.mp hr; rfl) (ev_eq (ev_name (d := V.pairs ps) (by walk_at "mem")) (by unfold V.pairs V.pair pairV; rw [List.map_map]; rfl)))
      (by decide +kernel) (.cons (by walk_at "mem") (by walk_at "mem") (.cons (by walk_at "mem") (by walk_at "mem") .nil)) (by exact ar522 hl hz)
      (fun i hi X cenv => ifs_one (tst_eq (tst_bool (op := .Or) (tsts_or (tst_cmp (ev_bin (ev_bin (ev_name (by walk_at "mem")) (ev_name (by walk_at "mem")) bin_subI) ev_int (bin_modI (by decide))) ev_int cmp_eqI) fun _ => tsts_or (tst_bool (op := .And) (tsts_and (tst_notIn (ev_name (by walk_at "mem")) (evs_of (ev_name (by walk_at "mem"))) hu) fun _ => tsts_and (tst_notIn (ev_name (by walk_at "mem")) (evs_of (ev_name (by walk_at "mem"))) hu) fun _ => tsts_and_nil)) fun _ => tsts_or_nil)) (by simp [otP])))
      (fun i hi hp X cenv => ev_tuple (evl_cons (ev_name (by walk_at "mem")) (evl_cons (ev_name (by walk_at "mem")) evl_nil)) (by simp [hz]))) R fun v s' R' D => hret _ _ _ _ _ _ (fun _ q => q) (fun _ _ q => q) R' D
end Mine
end

section
open PySem PyProof.Rows
set_option Elab.async false
set_option linter.unusedVariables false
set_option maxRecDepth 100000
set_option maxHeartbeats 4000000
namespace Mine
local macro_rules | `(tactic| walk_at "mem0") => `(tactic| with_reducible (first | exact List.mem_cons_self | (apply List.mem_cons_of_mem; walk_at "mem0")))
local macro_rules | `(tactic| walk_at "mem") => `(tactic| first | walk_at "mem0" | decide +kernel)
local macro_rules | `(tactic| walk_at "upd") => `(tactic| with_reducible (first | exact Upd.here | (apply Upd.there; walk_at "upd")))

noncomputable def unlk (x : List Int) : List Int := (((List.range (x.length / 2)).map fun (k : Nat) => ((k : Nat) : Int)).filter fun k => x.getD k.toNat 0 != x.getD (x.length - 1 - k.toNat) 0)
noncomputable def epB (x : List Int) : Bool := decide (0 < x.length / 2) && (x.length % 2 == 0 && unlk x == [])
noncomputable def pcs (row : List Int) (a b : Nat) : List Int := (row.drop a).take (b - a)
noncomputable def shN (row : List Int) : Nat → List Nat
  | 0 => [0]
  | i + 1 => if epB (pcs row ((shN row i).getLastD 0) (i + 2)) then shN row i ++ [i + 2] else shN row i
noncomputable def shP (row : List Int) : List Nat := shN row (row.length - 1)
theorem shN_ne (row : List Int) : ∀ i, shN row i ≠ []
  | 0 => by simp [shN]
  | i + 1 => by
    unfold shN
    split
    · simp
    · exact shN_ne row i
theorem shN_len (row : List Int) : ∀ i, (shN row i).length ≤ i + 1
  | 0 => by simp [shN]
  | i + 1 => by
    have := shN_len row i
    unfold shN
    split
    · simp; exact this
    · exact ar354 this
theorem shN_last (row : List Int) : ∀ i, (shN row i).getLastD 0 ≤ i + 1
  | 0 => by simp [shN]
  | i + 1 => by
    have := shN_last row i
    unfold shN
    split
    · simp only [List.getLastD_concat]; exact ar355
    · exact ar354 this
theorem pcs_len (row : List Int) (a b : Nat) : (pcs row a b).length ≤ row.length := by unfold pcs; simp; exact ar95
noncomputable abbrev stSh (row : List Int) (cu be pi ha un : Slot) : List (Str × Slot) := [(Str.ofString "row", .val (.ints row)), (Str.ofString "cuts", cu), (Str.ofString "behind", be), (Str.ofString "piece", pi), (Str.ofString "half", ha), (Str.ofString "unlike", un)]
theorem shortest2 {prog : Program} {w : World} {p : Program} {loose : List Str} {mean : ExcName → Option Value} {mg mb : Str → Option Value} {A : Around} {row : List Int} (hA : Room 1 A) (hl : row.length ≤ 1000) :
    Fun prog w (glo2 w p loose mean mg mb) A (.ref 52) [.ints row] (.ints (cst (shP row))) := by
  refine fun_def (ps := [Str.ofString "row"]) (nms := [Str.ofString "row", Str.ofString "cuts", Str.ofString "behind", Str.ofString "piece", Str.ofString "half", Str.ofString "unlike"]) (st0 := stSh row .un .un .un .un .un) 0 (fnIs2 rfl (by kernel_rfl) rfl rfl rfl rfl) hA ?_ rfl (by decide +kernel) rfl ?_ ?_
  · intro vals h
    obtain ⟨v, rfl⟩ := len1 h
    rfl
  · intro q hq
    simp only [stSh, List.mem_cons, List.not_mem_nil, or_false] at hq
    rcases hq with rfl | rfl | rfl | rfl | rfl | rfl
    · exact .inr ⟨_, rfl, by simp⟩
    all_goals exact .inl rfl
  · intro env X₀ kept S s Q E hR R hret
    dsimp only at R hret
    have hh : (A.deeper env).handled = none := hR.1
    have hu : (A.deeper env).units + 64 < cLine := by have := hR.2.2; exact ar520 this
    have hz : sizeLine = 16777216 := by decide
    refine st_own (k := .local) (ds := (cst (shN row 0)).map V.int) (st' := fun b => stSh row (.own b ((cst (shN row 0)).map V.int)) .un .un .un .un) (evn_eq (evn_list (evl_cons ev_int evl_nil) (by simp [hz])) (by simp [shN, cst])) (fun a => by walk_at "upd") (by walk_at "mem") (.inl rfl) rfl R fun b s1 R1 => ?_
    refine st_for (σ := Nat) (fun i => stSh row (.own b ((cst (shN row i)).map V.int)) .un .un .un .un) (fun ds i => stSh row (.own b ((cst (shN row i)).map V.int)) (.val (ds.headD .none)) .un .un .un) (fun i c => c = i) 0
      (items := ((List.range (row.length - 1)).map fun (i : Nat) => ((i + 2 : Nat) : Int)).map fun i => [V.int i]) (by
        have e : ((List.range (row.length - 1)).map fun (i : Nat) => ((i + 2 : Nat) : Int)) = rng 2 ((row.length : Int) + 1) 1 := by
          rw [rng_one, show ((row.length : Int) + 1 - 2).toNat = row.length - 1 from by exact ar523]
          exact List.map_congr_left fun i _ => by exact ar524
        rw [e]
        exact evw_range2 hh (by walk_at "mem") rfl (evl_cons ev_int (evl_cons (ev_bin (ev_lenI (by walk_at "mem") (ev_name (by walk_at "mem"))) ev_int bin_addI) evl_nil)) (small_one (by exact ar525) (by exact ar526) (by exact ar175) (by exact ar527 hl)))
      (fun ds hds _ => by obtain ⟨i, _, rfl⟩ := List.mem_map.mp hds; exact .cons (by dsimp only [List.headD]; walk_at "upd") .nil) (fun x hx => by rw [List.mem_singleton.mp hx]; exact .inl (by walk_at "mem")) (Wkn.refl _) rfl R1 ?_ ?_
    · rintro i ds c X₁ kept' s2 E2 hi rfl hX hK R2
      have hlt : c < row.length - 1 := by
        by_cases q : c < row.length - 1
        · exact q
        · rw [List.getElem?_eq_none (by simpa using q)] at hi; cases hi
      have hds : ds = [V.int ((c + 2 : Nat) : Int)] := by
        rw [List.map_map, List.getElem?_map, List.getElem?_range hlt] at hi
        simp only [Option.map_some, Option.some.injEq, Function.comp] at hi
        rw [← hi]
      subst hds
      dsimp only [List.headD] at R2
      have hne := shN_ne row c
      have hcl := shN_len row c
      have hlast := cst_last hne
      have hla := shN_last row c
      have hpos : 0 < (shN row c).length := List.length_pos_iff.mpr hne
      have hnext : shN row (c + 1) = if epB (pcs row ((shN row c).getLastD 0) (c + 2)) then shN row c ++ [c + 2] else shN row c := rfl
      generalize hcc : shN row c = ch at *
      generalize hlv : ch.getLastD 0 = l at *
      have hpl := pcs_len row l (c + 2)
      refine st_assign (k := .cell) (d := .ints (pcs row l (c + 2))) (ev_runI (xs := row) (a := (l : Int)) (u := ((c + 2 : Nat) : Int)) (evs_of (ev_name (by walk_at "mem"))) (ev_idxN (k := -1) (d := .int (l : Int)) (ds := (cst ch).map V.int) (evs_own (by walk_at "mem")) (ev_neg ev_int) (by decide) (by rw [List.length_map, cst_length]; exact ar528 hpos) (by rw [List.length_map, cst_length, List.getElem?_map, hlast]; rfl)) (ev_name (by walk_at "mem")) (by exact ar31) (by exact ar529) (by unfold pcs; rw [Int.toNat_natCast, Int.toNat_natCast]))
        (st' := stSh row (.own b ((cst ch).map V.int)) (.val (.int ((c + 2 : Nat) : Int))) (.val (.ints (pcs row l (c + 2)))) .un .un) (by walk_at "upd") (by walk_at "mem") (.inr rfl) rfl R2 fun s3 R3 => ?_
      generalize pcs row l (c + 2) = pc at *
      refine st_assign (k := .local) (d := .int ((pc.length / 2 : Nat) : Int)) (ev_eq (ev_bin (ev_lenI (by walk_at "mem") (ev_name (by walk_at "mem"))) ev_int (bin_divI (by decide) (by decide))) (by congr 1))
        (st' := stSh row (.own b ((cst ch).map V.int)) (.val (.int ((c + 2 : Nat) : Int))) (.val (.ints pc)) (.val (.int ((pc.length / 2 : Nat) : Int))) .un) (by walk_at "upd") (by walk_at "mem") (.inl rfl) rfl R3 fun s4 R4 => ?_
      refine st_compI V.int (fun k => pc.getD k.toNat 0 != pc.getD (pc.length - 1 - k.toNat) 0) (l := (List.range (pc.length / 2)).map fun (k : Nat) => ((k : Nat) : Int)) (cap := [(Str.ofString "piece", .val (.ints pc))])
        (by
          rw [← rng_zero]
          exact evw_range1 hh (by walk_at "mem") rfl (evl_cons (ev_name (by walk_at "mem")) evl_nil) (small_one (by exact ar169) (by exact ar170) (by exact ar530) (by exact ar531 hpl hl)))
        (by decide +kernel) (.cons (by walk_at "mem") (by walk_at "mem") .nil) (by simp [hz]; exact ar532 hpl hl)
        (fun i hi X cenv => by
          obtain ⟨k, hk, rfl⟩ := List.mem_map.mp hi
          rw [List.mem_range] at hk
          refine ifs_one (tst_eq (tst_cmp (ev_idxI (xs := pc) (k := (k : Int)) (evs_of (ev_name (by walk_at "mem"))) (ev_name (by walk_at "mem")) (by exact ar31) (by exact ar533 hk)) (ev_idxI (xs := pc) (k := (pc.length : Int) - 1 - (k : Int)) (evs_of (ev_name (by walk_at "mem"))) (ev_bin (ev_bin (ev_lenI (by walk_at "mem") (ev_name (by walk_at "mem"))) ev_int bin_subI) (ev_name (by walk_at "mem")) bin_subI) (by exact ar534 hk) (by exact ar535)) cmp_neI) ?_)
          rw [Int.toNat_natCast, show ((pc.length : Int) - 1 - (k : Int)).toNat = pc.length - 1 - k from by exact ar536])
        (fun i hi hp X cenv => ev_name (by walk_at "mem"))
        (st' := stSh row (.own b ((cst ch).map V.int)) (.val (.int ((c + 2 : Nat) : Int))) (.val (.ints pc)) (.val (.int ((pc.length / 2 : Nat) : Int))) (.val (.ints (unlk pc)))) (.there (.there (.there (.there (.there .here))))) (by walk_at "mem") R4 fun s5 R5 => ?_
      refine st_if (b := epB pc) (tst_eq (tst_bool (op := .And) (tsts_and (tst_cmp (ev_name (by walk_at "mem")) ev_int cmp_gtI) fun _ => tsts_and (tst_cmp (ev_bin (ev_lenI (by walk_at "mem") (ev_name (by walk_at "mem"))) ev_int (bin_modI (by decide))) ev_int cmp_eqI) fun _ => tsts_and (tst_cmp (ev_name (by walk_at "mem")) ev_nilI (cmp_eqInts hu)) fun _ => tsts_and_nil)) (by
          unfold epB
          rw [Bool.and_true]
          congr 1
          · rw [Bool.eq_iff_iff, decide_eq_true_eq, decide_eq_true_eq]; exact ⟨ar537, ar538⟩
          · congr 1
            rw [Bool.eq_iff_iff, beq_iff_eq, beq_iff_eq]; omega)) R5 (fun h1 s6 R6 => ?_) (fun h1 s6 R6 => ?_)
      · rw [if_pos h1] at hnext
        refine st_append (st' := stSh row (.own b ((cst (shN row (c + 1))).map V.int)) (.val (.int ((c + 2 : Nat) : Int))) (.val (.ints pc)) (.val (.int ((pc.length / 2 : Nat) : Int))) (.val (.ints (unlk pc)))) (d := .int ((c + 2 : Nat) : Int)) (by walk_at "mem") (ev_name (by walk_at "mem")) (by rw [List.length_map, cst_length]; exact ar539 hcl hz hlt hl) ?_ R6 fun s7 R7 => ?_
        · have : (cst (shN row (c + 1))).map V.int = (cst ch).map V.int ++ [V.int ((c + 2 : Nat) : Int)] := by rw [hnext]; simp [cst]
          rw [this]; exact .there .here
        · exact st_nil (st_nil ⟨c + 1, _, rfl, R7, .same (.same (.drop (.drop (.drop (.drop .nil)))))⟩)
      · rw [if_neg (by rw [h1]; decide)] at hnext
        exact st_nil (st_nil ⟨c + 1, _, rfl, R6, by rw [hnext]; exact .same (.same (.drop (.drop (.drop (.drop .nil)))))⟩)
    · rintro c s2 rfl R2
      rw [List.length_map, List.length_map, List.length_range, show shN row (row.length - 1) = shP row from rfl] at R2
      have R3 := R2.freeze (own' := []) (st' := stSh row (.val (.ints (cst (shP row)))) .un .un .un .un) (x := Str.ofString "cuts") (a := b) (ds := (cst (shP row)).map V.int) (by walk_at "mem") (by walk_at "upd") (by simp) (by simp)
      exact st_ret (ev_name (by walk_at "mem")) R3 fun v s' R' D => hret _ _ _ _ _ _ (fun _ q => q) (fun _ _ q => q) R' D
end Mine
end

section
set_option Elab.async false
set_option linter.unusedVariables false
namespace Mine

/-! ## covers -/
end Mine
end

section
set_option Elab.async false
set_option linter.unusedVariables false
namespace Mine
theorem rev_getD {xs : List Int} {j : Nat} (h : j < xs.length) : xs.reverse.getD j 0 = xs.getD (xs.length - 1 - j) 0 := by
  simp only [List.getD]; rw [List.getElem?_reverse h]

theorem ext_getD {a b : List Int} (h : a.length = b.length) : a = b ↔ ∀ j, j < a.length → a.getD j 0 = b.getD j 0 := by
  constructor
  · rintro rfl j _; rfl
  · intro q
    refine List.ext_getElem h fun j h1 h2 => ?_
    have := q j h1
    simpa [List.getD, h1, h2] using this
end Mine
end

section
set_option Elab.async false
set_option linter.unusedVariables false
namespace Mine

/-! ## rows grown by palindromes -/
theorem app_left {a b : List Int} {j : Nat} (h : j < a.length) : (a ++ b).getD j 0 = a.getD j 0 := by
  simp [List.getD, List.getElem?_append, h]
theorem app_right {a b : List Int} {j : Nat} (h : a.length ≤ j) : (a ++ b).getD j 0 = b.getD (j - a.length) 0 := by
  simp [List.getD, List.getElem?_append, Nat.not_lt.mpr h]
noncomputable def PalS (a : List Int) (k : Nat) : Prop := ∀ j, j < k → a.getD (a.length - 1 - j) 0 = a.getD (a.length - k + j) 0
theorem bd_bar {a : List Int} {bar : Int} (hb : ∀ i, i < a.length → a.getD i 0 ≠ bar) {k : Nat} : Bd (a.reverse ++ [bar] ++ a) (2 * a.length + 1) k ↔ k ≤ a.length ∧ PalS a k := by
  have hl : (a.reverse ++ [bar]).length = a.length + 1 := by simp
  have e1 : ∀ j, j < a.length → (a.reverse ++ [bar] ++ a).getD j 0 = a.getD (a.length - 1 - j) 0 := fun j hj => by
    rw [app_left (by rw [hl]; exact ar72 hj), app_left (by rw [List.length_reverse]; exact hj), rev_getD hj]
  have e2 : (a.reverse ++ [bar] ++ a).getD a.length 0 = bar := by
    rw [app_left (by rw [hl]; exact ar74), app_right (by rw [List.length_reverse]; exact Nat.le_refl _)]
    simp
  have e3 : ∀ j, a.length + 1 ≤ j → (a.reverse ++ [bar] ++ a).getD j 0 = a.getD (j - (a.length + 1)) 0 := fun j hj => by
    rw [app_right (by rw [hl]; exact hj), hl]
  constructor
  · rintro ⟨h1, h2⟩
    have hk : k ≤ a.length := by
      rcases Nat.lt_or_ge a.length k with z | z
      · exfalso
        have := h2 a.length z
        rw [e2, e3 _ (by exact ar205 h1)] at this
        exact hb _ (by exact ar206 z h1) this.symm
      · exact z
    refine ⟨hk, fun j hj => ?_⟩
    have := h2 j hj
    rw [e1 j (by exact ar207 hj hk), e3 _ (by exact ar208 hk)] at this
    rw [this]; congr 1; exact ar209 hk
  · rintro ⟨h1, h2⟩
    refine ⟨by exact ar210 h1, fun j hj => ?_⟩
    rw [e1 j (by exact ar207 hj h1), e3 _ (by exact ar208 h1), h2 j hj]
    congr 1; exact ar211 h1

section
variable {u : List Int} {x : Int}
end
section
variable {u : List Int} {x : Int} {s : Nat}
end
end Mine
end

section
set_option Elab.async false
set_option linter.unusedVariables false
namespace Mine
/-! ## rows cut into even mirrored pieces (Knuth, Morris, Pratt) -/
noncomputable def PS (u : List Int) (i j : Nat) : Prop := ∀ k, k < j - i → u.getD (i + k) 0 = u.getD (j - 1 - k) 0
structure EvP2 (u : List Int) (i j : Nat) : Prop where
  lt : i < j
  le : j ≤ u.length
  even : (j - i) % 2 = 0
  ps : PS u i j
inductive RR (u : List Int) : Nat → Nat → Prop
  | refl (i : Nat) : RR u i i
  | step {i j k : Nat} : EvP2 u i j → RR u j k → RR u i k
theorem RR.trans {u : List Int} {i j k : Nat} (h : RR u i j) (h2 : RR u j k) : RR u i k := by
  induction h with
  | refl i => exact h2
  | step e _ ih => exact .step e (ih h2)
theorem RR.le {u : List Int} {i j : Nat} (h : RR u i j) : i ≤ j := by
  induction h with
  | refl i => exact Nat.le_refl _
  | step e _ ih => have := e.lt; exact ar262 this ih
theorem RR.len {u : List Int} {i j : Nat} (h : RR u i j) : i < j → j ≤ u.length := by
  induction h with
  | refl i => intro h; exact ar309 h
  | @step i j k e r ih =>
    intro _
    have h1 := e.le
    have h2 := r.le
    rcases Nat.lt_or_ge j k with q | q
    · exact ih q
    · have : j = k := by exact ar310 h2 q
      subst this; exact h1
theorem RR.snoc {u : List Int} {i j k : Nat} (h : RR u i j) (e : EvP2 u j k) : RR u i k := h.trans (.step e (.refl _))
section
variable {u : List Int} {i j m : Nat}
theorem ps_end (h1 : PS u i j) (h2 : PS u i m) (hi : i ≤ m) (hm : m ≤ j) : PS u (j - (m - i)) j := by
  intro k hk
  have a := h1 (m - i - 1 - k) (by exact ar311 hm hk)
  have b := h2 k (by exact ar312 hk)
  have c := h1 k (by exact ar313 hk hm)
  rw [show i + (m - i - 1 - k) = m - 1 - k from by exact ar314 hk, show j - 1 - (m - i - 1 - k) = j - (m - i) + k from by exact ar315 hm hk] at a
  rw [← a, ← b, c]
theorem ps_mid (h1 : PS u i j) (hi : i ≤ m) (hm : 2 * (m - i) ≤ j - i) : PS u m (j - (m - i)) := by
  intro k hk
  have a := h1 (m - i + k) (by exact ar316 hi hk)
  rw [show i + (m - i + k) = m + k from by exact ar317 hi, show j - 1 - (m - i + k) = j - (m - i) - 1 - k from by exact ar318] at a
  exact a
theorem ps_lap (h1 : PS u i j) (h2 : PS u i m) (hi : i < m) (hm : m < j) (h3 : j - i < 2 * (m - i)) : PS u i (2 * m - j) := by
  intro k hk
  have a := h2 k (by exact ar319 hk hm)
  have b := h1 (m - 1 - k - i) (by exact ar320 hm hk)
  have c := h2 (j - m + k) (by exact ar321 hm hk)
  rw [show i + (m - 1 - k - i) = m - 1 - k from by exact ar322 hm hk, show j - 1 - (m - 1 - k - i) = i + (j - m + k) from by exact ar323 hm hk] at b
  rw [show m - 1 - (j - m + k) = 2 * m - j - 1 - k from by exact ar324 hm] at c
  rw [a, b, c]
theorem short_ok (hm : EvP2 u i m) (hmin : ∀ x, x < m → ¬ EvP2 u i x) (hj : EvP2 u i j) : RR u m j := by
  have hlt := hm.lt
  have hlt2 := hj.lt
  have e1 := hm.even
  have e2 := hj.even
  have hle := hj.le
  rcases Nat.lt_trichotomy j m with q | q | q
  · exact absurd hj (hmin j q)
  · subst q; exact .refl _
  · rcases Nat.lt_or_ge (j - i) (2 * (m - i)) with r | r
    · exact absurd ⟨by exact ar326 r, by exact ar327 q hle, by omega, ps_lap hj.ps hm.ps hlt q r⟩ (hmin (2 * m - j) (by exact ar325 q hlt))
    · have last : EvP2 u (j - (m - i)) j := ⟨by exact ar328 q hlt, hle, by omega, ps_end hj.ps hm.ps (by exact ar138 hlt) (by exact ar138 q)⟩
      rcases Nat.eq_or_lt_of_le r with z | z
      · have : j - (m - i) = m := by exact ar329 z hlt2
        rw [this] at last
        exact .step last (.refl _)
      · exact .step ⟨by exact ar330 z, by exact ar331 hle, by omega, ps_mid hj.ps (by exact ar138 hlt) r⟩ (.step last (.refl _))
theorem least {P : Nat → Prop} {n : Nat} (h : P n) : ∃ m, m ≤ n ∧ P m ∧ ∀ x, x < m → ¬ P x := by
  induction n using Nat.strongRecOn with
  | ind n ih =>
    by_cases q : ∃ x, x < n ∧ P x
    · obtain ⟨x, hx, hp⟩ := q
      obtain ⟨m, h1, h2, h3⟩ := ih x hx hp
      exact ⟨m, by exact ar332 h1 hx, h2, h3⟩
    · exact ⟨n, Nat.le_refl _, h, fun x hx hp => q ⟨x, hx, hp⟩⟩
theorem linear : ∀ (d i j k : Nat), k - i ≤ d → RR u i j → RR u i k → j ≤ k → RR u j k := by
  intro d
  induction d with
  | zero =>
    intro i j k hd h1 h2 hjk
    have a := h1.le
    have b := h2.le
    have : j = k := by exact ar333 hjk hd a
    subst this; exact .refl _
  | succ d ih =>
    intro i j k hd h1 h2 hjk
    cases h1 with
    | refl => exact h2
    | @step _ j1 _ e1 r1 =>
      cases h2 with
      | refl => have := e1.lt; have := r1.le; exact (ar334 (by assumption) this hjk).elim
      | @step _ k1 _ e2 r2 =>
        obtain ⟨m, m1, m2, m3⟩ := least (P := fun x => EvP2 u i x) e1
        have a1 := (short_ok m2 m3 e1).trans r1
        have a2 := (short_ok m2 m3 e2).trans r2
        have := m2.lt
        exact ih m j k (by exact ar335 hd this) a1 a2 hjk
end
/-! ## the shortest ones, octet by octet -/
theorem unlk_iff {x : List Int} : unlk x = [] ↔ ∀ k, k < x.length / 2 → x.getD k 0 = x.getD (x.length - 1 - k) 0 := by
  unfold unlk
  rw [List.filter_eq_nil_iff]
  constructor
  · intro h k hk
    have := h (k : Int) (List.mem_map.mpr ⟨k, List.mem_range.mpr hk, rfl⟩)
    rw [Int.toNat_natCast] at this
    simpa using this
  · intro h z hz
    obtain ⟨k, hk, rfl⟩ := List.mem_map.mp hz
    rw [List.mem_range] at hk
    rw [Int.toNat_natCast]
    simpa using h k hk
theorem pcs_get {u : List Int} {a b k : Nat} (h : k < b - a) : (pcs u a b).getD k 0 = u.getD (a + k) 0 := by
  unfold pcs
  rw [List.getD, List.getElem?_take_of_lt h, List.getElem?_drop, List.getD]
theorem epB_iff {u : List Int} {a b : Nat} (hab : a < b) (hb : b ≤ u.length) : epB (pcs u a b) = true ↔ EvP2 u a b := by
  have hl : (pcs u a b).length = b - a := by unfold pcs; simp; exact ar336 hb
  unfold epB
  simp only [Bool.and_eq_true, decide_eq_true_eq, beq_iff_eq]
  rw [unlk_iff, hl]
  constructor
  · rintro ⟨h1, h2, h3⟩
    refine ⟨hab, hb, h2, fun k hk => ?_⟩
    rcases Nat.lt_or_ge k ((b - a) / 2) with q | q
    · have := h3 k q
      rw [pcs_get (by exact hk), pcs_get (by exact ar337 h1), show a + (b - a - 1 - k) = b - 1 - k from by exact ar338 hk] at this
      exact this
    · have := h3 (b - a - 1 - k) (by exact ar339 h2 q h1)
      rw [pcs_get (by exact ar337 h1), pcs_get (by exact ar340 hk), show a + (b - a - 1 - k) = b - 1 - k from by exact ar338 hk, show a + (b - a - 1 - (b - a - 1 - k)) = a + k from by exact ar341 hk] at this
      exact this.symm
  · intro h
    have h2 := h.even
    refine ⟨by exact ar342 h2 hab, h2, fun k hk => ?_⟩
    rw [pcs_get (by exact ar343 hk), pcs_get (by exact ar344 hk), show a + (b - a - 1 - k) = b - 1 - k from by exact ar345 hk]
    exact h.ps k (by exact ar343 hk)
theorem getLastD_mem {l : List Nat} (h : l ≠ []) : l.getLastD 0 ∈ l := by
  rw [List.getLastD_eq_getLast?, List.getLast?_eq_some_getLast h]
  exact List.getLast_mem h
structure ShI (u : List Int) (t : Nat) (l : List Nat) : Prop where
  mem : ∀ j, j ∈ l ↔ RR u 0 j ∧ j ≤ t + 1
  up : l.Pairwise (· < ·)
  top : ∀ j ∈ l, j ≤ l.getLastD 0
theorem shI (u : List Int) : ∀ t, t + 1 ≤ u.length → ShI u t (shN u t)
  | 0, h => by
    refine ⟨fun j => ?_, by simp [shN], by simp [shN]⟩
    simp only [shN, List.mem_singleton]
    constructor
    · rintro rfl; exact ⟨.refl _, by exact ar346⟩
    · rintro ⟨h1, h2⟩
      cases h1 with
      | refl => rfl
      | @step _ k _ e r => have a := e.lt; have b := r.le; have c := e.even; omega
  | t + 1, h => by
    have ih := shI u t (by exact ar347 h)
    have hne := shN_ne u t
    have hlm := getLastD_mem hne
    have hla := shN_last u t
    have hrl := ((ih.mem _).mp hlm).1
    unfold shN
    generalize shN u t = l at *
    generalize hcc : l.getLastD 0 = c at *
    have key : RR u 0 (t + 2) → EvP2 u c (t + 2) := by
      intro hr
      have h1 := linear (t + 2) 0 c (t + 2) (by exact ar348) hrl hr (by exact ar349 hla)
      cases h1 with
      | refl => exact (ar350 hla).elim
      | @step _ m _ e r =>
        have a := e.lt
        have b := r.le
        rcases Nat.eq_or_lt_of_le b with z | z
        · subst z; exact e
        · exfalso
          have hm : m ∈ l := (ih.mem m).mpr ⟨hrl.snoc e, by exact ar351 z⟩
          have := ih.top m hm
          exact ar352 a this hcc
    by_cases q : epB (pcs u c (t + 2)) = true
    · rw [if_pos q]
      have e := (epB_iff (by exact ar353 hla) h).mp q
      refine ⟨fun j => ?_, ?_, ?_⟩
      · rw [List.mem_append, List.mem_singleton, ih.mem]
        constructor
        · rintro (⟨a, b⟩ | rfl)
          · exact ⟨a, by exact ar354 b⟩
          · exact ⟨hrl.snoc e, by exact ar355⟩
        · rintro ⟨a, b⟩
          rcases Nat.lt_or_ge j (t + 2) with z | z
          · exact .inl ⟨a, by exact ar351 z⟩
          · exact .inr (by exact ar356 b z)
      · rw [List.pairwise_append]
        refine ⟨ih.up, by simp, fun x hx y hy => ?_⟩
        rw [List.mem_singleton] at hy
        have := ((ih.mem x).mp hx).2
        exact ar357 this hy
      · intro j hj
        rw [List.getLastD_concat]
        rcases List.mem_append.mp hj with z | z
        · have := ((ih.mem j).mp z).2; exact ar349 this
        · rw [List.mem_singleton] at z; exact ar358 z
    · rw [if_neg q]
      refine ⟨fun j => ?_, ih.up, ih.top⟩
      rw [ih.mem]
      constructor
      · rintro ⟨a, b⟩; exact ⟨a, by exact ar354 b⟩
      · rintro ⟨a, b⟩
        refine ⟨a, ?_⟩
        rcases Nat.lt_or_ge j (t + 2) with z | z
        · exact ar351 z
        · exfalso
          have : j = t + 2 := by exact ar356 b z
          subst this
          exact q ((epB_iff (by exact ar353 hla) h).mpr (key a))
theorem shP_mem {u : List Int} (hu : 1 ≤ u.length) {j : Nat} : j ∈ shP u ↔ RR u 0 j := by
  have h := shI u (u.length - 1) (by exact ar359 hu)
  unfold shP
  rw [h.mem]
  constructor
  · exact fun q => q.1
  · intro q
    refine ⟨q, ?_⟩
    rcases Nat.eq_zero_or_pos j with z | z
    · exact ar360 z
    · have := q.len z; exact ar361 this
theorem shP_up {u : List Int} (hu : 1 ≤ u.length) : (shP u).Pairwise (· < ·) := (shI u (u.length - 1) (by exact ar359 hu)).up
/-! ## from the end -/
theorem evP2_rev {u : List Int} {i j : Nat} (h : EvP2 u i j) : EvP2 u.reverse (u.length - j) (u.length - i) := by
  have h1 := h.lt
  have h2 := h.le
  have h3 := h.even
  refine ⟨by exact ar362 h2 h1, by rw [List.length_reverse]; exact ar139, by omega, fun k hk => ?_⟩
  rw [rev_getD (by exact ar363 hk), rev_getD (by exact ar364 h1 h2)]
  have := h.ps k (by exact ar365 hk)
  rw [show u.length - 1 - (u.length - j + k) = j - 1 - k from by exact ar366 h2, show u.length - 1 - (u.length - i - 1 - k) = i + k from by exact ar367 hk]
  exact this.symm
theorem rr_rev {u : List Int} {i j : Nat} (h : RR u i j) : RR u.reverse (u.length - j) (u.length - i) := by
  induction h with
  | refl i => exact .refl _
  | step e r ih => exact ih.snoc (evP2_rev e)
theorem rr_rev' {u : List Int} {i j : Nat} (hj : j ≤ u.length) (h : RR u.reverse (u.length - j) (u.length - i)) (hi : i ≤ u.length) : RR u i j := by
  have := rr_rev h
  rw [List.reverse_reverse, List.length_reverse, show u.length - (u.length - i) = i from by exact ar368 hi, show u.length - (u.length - j) = j from by exact ar368 hj] at this
  exact this
theorem shP_rev {u : List Int} (hu : 1 ≤ u.length) {c : Nat} (hc : c ≤ u.length) : c ∈ shP u.reverse ↔ RR u (u.length - c) u.length := by
  rw [shP_mem (by rw [List.length_reverse]; exact hu)]
  constructor
  · intro h
    refine rr_rev' (Nat.le_refl _) ?_ (by exact ar139)
    rw [Nat.sub_self, show u.length - (u.length - c) = c from by exact ar368 hc]; exact h
  · intro h
    have := rr_rev h
    rwa [Nat.sub_self, show u.length - (u.length - c) = c from by exact ar368 hc] at this
theorem both {u : List Int} {x : Nat} (h0 : RR u 0 u.length) (hx : x ≤ u.length) : RR u x u.length ↔ RR u 0 x := by
  constructor
  · intro h
    have a := rr_rev h
    have b := rr_rev h0
    rw [Nat.sub_self] at a b
    rw [Nat.sub_zero] at b
    have c := linear _ _ _ _ (Nat.le_refl _) a b (by exact ar139)
    have := rr_rev' (u := u) (i := 0) (j := x) hx (by rw [Nat.sub_zero]; exact c) (by exact ar369)
    exact this
  · intro h
    exact linear _ _ _ _ (Nat.le_refl _) h h0 hx
end Mine
end

section
open PySem PyProof.Rows
set_option Elab.async false
set_option linter.unusedVariables false
namespace Mine
section
variable {prog : Program} {w : World} {A : Around} {E : Value → Shared → Prop} {s : Shared} {α : Type} {c : Prop} {d : Decidable c} {x y : StateT SortSt Sem α} {Q : α → SortSt → Prop} {st : SortSt}
theorem wp_pos (h : c) (k : wpS (model prog w) A E s x Q st) : wpS (model prog w) A E s (@ite _ c d x y) Q st := by rw [if_pos h]; exact k
theorem wp_neg (h : ¬ c) (k : wpS (model prog w) A E s y Q st) : wpS (model prog w) A E s (@ite _ c d x y) Q st := by rw [if_neg h]; exact k
theorem wp_ite (h : c → wpS (model prog w) A E s x Q st) (k : ¬ c → wpS (model prog w) A E s y Q st) : wpS (model prog w) A E s (@ite _ c d x y) Q st :=
  if q : c then wp_pos q (h q) else wp_neg q (k q)
end
/-! ## a list sorted, told by a number for each value -/
noncomputable def kyA (ky : Value → Int) (xs : Array Keyed) (i : Nat) : Int := match xs[i]? with
  | some p => ky p.1
  | none => 0
theorem kyA_congr {ky : Value → Int} {xs ys : Array Keyed} {i j : Nat} (h : xs[i]? = ys[j]?) : kyA ky xs i = kyA ky ys j := by unfold kyA; rw [h]
theorem kyA_bubble {ky : Value → Int} {xs : Array Keyed} {src d : Nat} (hs : src < xs.size) (hd : d ≤ src) (k : Nat) :
    kyA ky (bubble xs src d) k = if k = src - d then kyA ky xs src else if src - d < k ∧ k ≤ src then kyA ky xs (k - 1) else kyA ky xs k := by
  have e := getElem?_bubble hs d hd k
  by_cases h1 : k = src - d
  · rw [if_pos h1] at e ⊢; exact kyA_congr e
  · rw [if_neg h1] at e ⊢
    by_cases h2 : src - d < k ∧ k ≤ src
    · rw [if_pos h2] at e ⊢; exact kyA_congr e
    · rw [if_neg h2] at e ⊢; exact kyA_congr e
theorem kyA_mirror {ky : Value → Int} {xs : Array Keyed} {i j : Nat} (hj : j ≤ xs.size) (k : Nat) :
    kyA ky (mirror xs i j ((j - i) / 2)) k = if i ≤ k ∧ k < j then kyA ky xs (i + j - 1 - k) else kyA ky xs k := by
  have e := getElem?_mirror_all (i := i) hj k
  by_cases h1 : i ≤ k ∧ k < j
  · rw [if_pos h1] at e ⊢; exact kyA_congr e
  · rw [if_neg h1] at e ⊢; exact kyA_congr e
theorem kyA_even {ky : Value → Int} {xs : Array Keyed} {i j : Nat} (hj : j ≤ xs.size) (he : ∀ k, i ≤ k → k < j → kyA ky xs k = kyA ky xs (j - 1)) (k : Nat) :
    kyA ky (mirror xs i j ((j - i) / 2)) k = kyA ky xs k := by
  rw [kyA_mirror hj]
  split
  · rw [he _ (by exact ar565 (by assumption)) (by exact ar566 (by assumption)), he k (by exact ar567 (by assumption)) (by exact ar568 (by assumption))]
  · rfl

noncomputable def Up (ky : Value → Int) (xs : Array Keyed) (lo hi : Nat) : Prop := ∀ i j, lo ≤ i → i ≤ j → j < hi → kyA ky xs i ≤ kyA ky xs j
noncomputable def Down (ky : Value → Int) (xs : Array Keyed) (lo hi : Nat) : Prop := ∀ i j, lo ≤ i → i ≤ j → j < hi → kyA ky xs j ≤ kyA ky xs i
structure SB (knd : SortKind) (pend : Array (Nat × Nat × Nat)) (a₀ : Array Keyed) (st : SortSt) : Prop where
  perm : (arrOf st).Perm a₀
  kind : kindOf st = knd
  failed : failedOf st = none
  pend : pendingOf st = pend
theorem SB.size {knd : SortKind} {pend : Array (Nat × Nat × Nat)} {a₀ : Array Keyed} {st : SortSt} (h : SB knd pend a₀ st) : (arrOf st).size = a₀.size := h.perm.size_eq
theorem SB.put {knd : SortKind} {pend : Array (Nat × Nat × Nat)} {a₀ : Array Keyed} {st : SortSt} (h : SB knd pend a₀ st) {xs : Array Keyed} (hp : xs.Perm (arrOf st)) : SB knd pend a₀ (setArr st xs) := ⟨hp.trans h.perm, h.kind, h.failed, h.pend⟩

noncomputable def LtOk (prog : Program) (w : World) (A : Around) (E : Value → Shared → Prop) (s : Shared) (ky : Value → Int) (ok : Value → Prop) (knd : SortKind) : Prop :=
  ∀ (x y : Keyed) (st : SortSt) (Q : Option Bool → SortSt → Prop), ok x.1 → ok y.1 → kindOf st = knd → Q (some (decide (ky x.1 < ky y.1))) st → wpS (model prog w) A E s (lt' x y) Q st
noncomputable def Oks (ok : Value → Prop) (xs : Array Keyed) : Prop := ∀ p ∈ xs.toList, ok p.1

section
variable {prog : Program} {w : World} {A : Around} {E : Value → Shared → Prop} {s : Shared} {ky : Value → Int} {ok : Value → Prop} {knd : SortKind} {pend : Array (Nat × Nat × Nat)} {a₀ : Array Keyed}

theorem SB.at {st : SortSt} (h : SB knd pend a₀ st) (ho : Oks ok a₀) {i : Nat} (hi : i < a₀.size) : ∃ x, (arrOf st)[i]? = some x ∧ ok x.1 ∧ kyA ky (arrOf st) i = ky x.1 := by
  have hi' : i < (arrOf st).size := by rw [h.size]; exact hi
  have e : (arrOf st)[i]? = some (arrOf st)[i] := getElem?_pos _ i hi'
  refine ⟨_, e, ho _ ((Array.perm_iff_toList_perm.mp h.perm).mem_iff.mp (by simp)), ?_⟩
  unfold kyA; rw [e]
theorem wp_at {st : SortSt} {i j : Nat} {Q : Option Bool → SortSt → Prop} (hL : LtOk prog w A E s ky ok knd) (hB : SB knd pend a₀ st) (ho : Oks ok a₀) (hi : i < a₀.size) (hj : j < a₀.size)
    (h : Q (some (decide (kyA ky (arrOf st) i < kyA ky (arrOf st) j))) st) : wpS (model prog w) A E s (ltAt' i j) Q st := by
  obtain ⟨x, e1, o1, k1⟩ := hB.at (ky := ky) ho hi
  obtain ⟨y, e2, o2, k2⟩ := hB.at (ky := ky) ho hj
  rw [k1, k2] at h
  rw [ltAt'_eq]
  refine wpS_bind (wpS_get ?_)
  show wpS _ _ _ _ (do let x ← elem' (arrOf st) i; let y ← elem' (arrOf st) j; lt' x y) Q st
  rw [elem'_eq, elem'_eq, e1, e2]
  exact wpS_bind (wpS_pure (wpS_bind (wpS_pure (hL x y st Q o1 o2 hB.kind h))))

theorem wp_rev {st : SortSt} {i j : Nat} {Q : Unit → SortSt → Prop} (h : ∀ st', st' = setArr st (mirror (arrOf st) i j ((j - i) / 2)) → Q () st') :
    wpS (model prog w) A E s (reverseSlice' i j) Q st := wpS_reverse (h _ rfl)
theorem Up.more {xs : Array Keyed} {lo m : Nat} (h : Up ky xs lo m) (hm : lo < m) (hl : kyA ky xs (m - 1) ≤ kyA ky xs m) : Up ky xs lo (m + 1) := by
  intro i j h1 h2 h3
  rcases Nat.lt_or_ge j m with z | z
  · exact h i j h1 h2 z
  · have : j = m := by exact ar223 h3 z
    subst this
    rcases Nat.lt_or_ge i j with y | y
    · have := h i (j - 1) h1 (by exact ar37 y) (by exact ar569 y)
      exact ar570 this hl
    · have : i = j := by exact ar310 h2 y
      subst this; exact Int.le_refl _
theorem Down.more {xs : Array Keyed} {lo m : Nat} (h : Down ky xs lo m) (hm : lo < m) (hl : kyA ky xs m ≤ kyA ky xs (m - 1)) : Down ky xs lo (m + 1) := by
  intro i j h1 h2 h3
  rcases Nat.lt_or_ge j m with z | z
  · exact h i j h1 h2 z
  · have : j = m := by exact ar223 h3 z
    subst this
    rcases Nat.lt_or_ge i j with y | y
    · have := h i (j - 1) h1 (by exact ar37 y) (by exact ar569 y)
      exact ar570 hl this
    · have : i = j := by exact ar310 h2 y
      subst this; exact Int.le_refl _

theorem wp_countRun {st : SortSt} {lo nrem : Nat} {Q : Option Nat → SortSt → Prop} (hL : LtOk prog w A E s ky ok knd) (ho : Oks ok a₀) (hn : lo + nrem ≤ a₀.size) (h1 : 1 ≤ nrem) (hB : SB knd pend a₀ st)
    (h : ∀ m st', SB knd pend a₀ st' → (∀ k, k < lo → kyA ky (arrOf st') k = kyA ky (arrOf st) k) → 1 ≤ m → m ≤ nrem → Up ky (arrOf st') lo (lo + m) → Q (some m) st') :
    wpS (model prog w) A E s (countRun' lo nrem) Q st := by
  rw [countRun'_eq]
  refine wpS_bind (wpS_mono (wpS_forRange (I := fun x c st' => st' = st ∧ c = (none, x) ∧ Up ky (arrOf st) lo (lo + x))
    (Q := fun c st' => st' = st ∧ ∃ n, c = (none, n) ∧ 1 ≤ n ∧ n ≤ nrem ∧ Up ky (arrOf st) lo (lo + n) ∧ (n = nrem ∨ kyA ky (arrOf st) (lo + n) < kyA ky (arrOf st) (lo + n - 1))) ?step ?fin ?init) ?post)
  case init => exact ⟨rfl, rfl, fun i j a b c => by have : i = j := (by exact ar571 b c a); subst this; exact Int.le_refl _⟩
  case fin =>
    rintro c st' ⟨rfl, rfl, hs⟩
    rw [show max 1 nrem = nrem by exact ar572 h1] at hs ⊢
    exact ⟨rfl, _, rfl, h1, Nat.le_refl _, hs, .inl rfl⟩
  case step =>
    rintro x c st' hx hx2 ⟨rfl, rfl, hs⟩
    dsimp only
    refine wpS_bind (wp_at hL hB ho (by exact ar466 hn hx2) (by exact ar573 hn hx2) ?_)
    cases hd : decide (kyA ky (arrOf st') (lo + x) < kyA ky (arrOf st') (lo + x - 1))
    · refine wp_neg Bool.false_ne_true ?_
      refine wpS_pure ⟨rfl, rfl, ?_⟩
      exact hs.more (by exact ar290 hx) (by have := of_decide_eq_false hd; exact ar574 this)
    · refine wp_pos rfl ?_
      exact wpS_pure ⟨rfl, x, rfl, hx, by exact ar138 hx2, hs, .inr (of_decide_eq_true hd)⟩
  case post =>
    rintro c st' ⟨rfl, n, rfl, hn1, hn2, hs, hor⟩
    dsimp only
    have hsz0 : (arrOf st').size = a₀.size := hB.size
    by_cases hnn : n = nrem
    · refine wp_pos (by simpa using hnn) ?_
      exact wpS_pure (h n st' hB (fun _ _ => rfl) hn1 hn2 hs)
    refine wp_neg (by simpa using hnn) ?_
    have hlt := hor.resolve_left hnn
    have P : ∀ xs : Array Keyed, xs.Perm (arrOf st') → (∀ k, kyA ky xs k = kyA ky (arrOf st') k) → (∀ k, lo ≤ k → k < lo + n → kyA ky (arrOf st') k = kyA ky (arrOf st') (lo + n - 1)) →
        SB knd pend a₀ (setArr st' xs) ∧ (∀ k, k < lo → kyA ky (arrOf (setArr st' xs)) k = kyA ky (arrOf st') k) ∧ Down ky (arrOf (setArr st' xs)) lo (lo + n + 1) := by
      intro xs hp hk he
      refine ⟨hB.put hp, fun k _ => hk k, ?_⟩
      have : Down ky (arrOf st') lo (lo + n) := fun i j a b c => by rw [he i (by exact a) (by exact ar575 b c), he j (by exact ar540 a b) (by exact c)]; exact Int.le_refl _
      have := this.more (by exact ar290 hn1) (by exact ar182 hlt)
      intro i j a b c
      show kyA ky xs j ≤ kyA ky xs i
      rw [hk, hk]; exact this i j a b c
    have e0 : st' = setArr st' (arrOf st') := rfl
    by_cases hgt : n > 1
    · refine wp_pos hgt ?_
      refine wpS_bind (wp_at hL hB ho (by exact ar576 hgt hn hn2) (by exact ar577 hgt hn hn2) ?_)
      cases hd : decide (kyA ky (arrOf st') lo < kyA ky (arrOf st') (lo + n - 1))
      · refine wp_neg Bool.false_ne_true ?_
        have hd := of_decide_eq_false hd
        have he : ∀ k, lo ≤ k → k < lo + n → kyA ky (arrOf st') k = kyA ky (arrOf st') (lo + n - 1) := fun k a b => by
          have := hs lo k (by exact ar578) a b
          have := hs k (lo + n - 1) a (by exact ar579 b) (by exact ar580 hgt)
          exact ar581 this (by assumption) hd
        refine wpS_bind (wpS_reverse ?_)
        have PP := P _ (mirror_perm (arrOf st') lo (lo + n) _) (kyA_even (by exact ar582 hn hn2 hsz0) he) he
        generalize hst1 : setArr st' (mirror (arrOf st') lo (lo + n) ((lo + n - lo) / 2)) = st1 at PP ⊢
        generalize hkf : kyA ky (arrOf st') = kf at *
        obtain ⟨hB1, hf1, hd1⟩ := PP
        clear P hs hlt hB hst1 hkf
        refine wpS_bind (wpS_lift (wpAny_rule ⟨rfl, ?_⟩))
        refine wpS_bind (wpS_mono (wpS_forRange (I := fun x c st2 => ∃ neq, c = (none, x, neq) ∧ SB knd pend a₀ st2 ∧ (∀ k, k < lo → kyA ky (arrOf st2) k = kf k) ∧ Down ky (arrOf st2) lo (lo + x) ∧ neq + 1 ≤ x ∧ (∀ k, lo + x - (neq + 1) ≤ k → k < lo + x → kyA ky (arrOf st2) k = kyA ky (arrOf st2) (lo + x - 1)))
          (Q := fun c st2 => ∃ x neq, c = (none, x, neq) ∧ n + 1 ≤ x ∧ x ≤ nrem ∧ SB knd pend a₀ st2 ∧ (∀ k, k < lo → kyA ky (arrOf st2) k = kf k) ∧ Down ky (arrOf st2) lo (lo + x) ∧ neq + 1 ≤ x ∧ (∀ k, lo + x - (neq + 1) ≤ k → k < lo + x → kyA ky (arrOf st2) k = kyA ky (arrOf st2) (lo + x - 1))) ?_ ?_ ?_) ?_)
        · rintro x c st2 hx hx2 ⟨neq, rfl, hB2, hf2, hd2, hq, he⟩
          dsimp only
          have hsz2 : (arrOf st2).size = a₀.size := hB2.size
          refine wpS_bind (wp_at hL hB2 ho (by exact ar466 hn hx2) (by exact ar573 hn hx2) ?_)
          cases hd : decide (kyA ky (arrOf st2) (lo + x) < kyA ky (arrOf st2) (lo + x - 1))
          · refine wp_neg Bool.false_ne_true ?_
            have hd := of_decide_eq_false hd
            refine wpS_bind (wp_at hL hB2 ho (by exact ar573 hn hx2) (by exact ar466 hn hx2) ?_)
            cases hd' : decide (kyA ky (arrOf st2) (lo + x - 1) < kyA ky (arrOf st2) (lo + x))
            · refine wp_neg Bool.false_ne_true ?_
              have hd' := of_decide_eq_false hd'
              refine wpS_pure ⟨neq + 1, rfl, hB2, hf2, hd2.more (by exact ar583 hq) (by exact ar574 hd'), by exact ar584 hq, fun k a b => ?_⟩
              rw [show lo + (x + 1) - 1 = lo + x from by exact ar585]
              rcases Nat.lt_or_ge k (lo + x) with z | z
              · rw [he k (by exact ar586 a) z]; exact ar587 hd' hd
              · congr 1; exact ar588 b z
            · refine wp_pos rfl ?_
              exact wpS_pure ⟨x, neq, rfl, hx, by exact ar138 hx2, hB2, hf2, hd2, hq, he⟩
          · refine wp_pos rfl ?_
            have hd := of_decide_eq_true hd
            by_cases hq0 : neq > 0
            · refine wp_pos hq0 ?_
              refine wpS_bind (wpS_reverse (wpS_pure ⟨0, rfl, hB2.put (mirror_perm _ _ _ _), fun k hk => ?_, fun i j a b c => ?_, by exact ar589, fun k a b => by congr 1; exact ar590 b a⟩))
              · show kyA ky (mirror (arrOf st2) _ _ _) k = _
                rw [kyA_even (by exact ar591 hn hx2 hsz2) he]; exact hf2 k hk
              · show kyA ky (mirror (arrOf st2) _ _ _) j ≤ kyA ky (mirror (arrOf st2) _ _ _) i
                rw [kyA_even (by exact ar591 hn hx2 hsz2) he, kyA_even (by exact ar591 hn hx2 hsz2) he]
                exact hd2.more (by exact ar583 hq) (by exact ar182 hd) i j a b c
            · refine wp_neg hq0 ?_
              exact wpS_pure ⟨0, rfl, hB2, hf2, hd2.more (by exact ar583 hq) (by exact ar182 hd), by exact ar589, fun k a b => by congr 1; exact ar590 b a⟩
        · rintro c st2 ⟨neq, rfl, hB2, hf2, hd2, hq, he⟩
          rw [show max (n + 1) nrem = nrem by exact ar592 hn2 hnn] at *
          exact ⟨_, neq, rfl, by exact ar593 hn2 hnn, Nat.le_refl _, hB2, hf2, hd2, hq, he⟩
        · exact ⟨0, rfl, hB1, hf1, hd1, by exact ar589, fun k a b => by congr 1; exact ar590 b a⟩
        · rintro c st2 ⟨x, neq, rfl, hx, hx2, hB2, hf2, hd2, hq, he⟩
          dsimp only
          have hsz2 : (arrOf st2).size = a₀.size := hB2.size
          have turn : ∀ xs : Array Keyed, xs.size = a₀.size → Down ky xs lo (lo + x) → Up ky (mirror xs lo (lo + x) ((lo + x - lo) / 2)) lo (lo + x) := fun xs hxs hd i j a b c => by
            rw [kyA_mirror (by exact ar582 hn hx2 hxs), kyA_mirror (by exact ar582 hn hx2 hxs), if_pos (by exact ar594 a b c), if_pos (by exact ar595 a c b)]
            exact hd _ _ (by exact ar596 c) (by exact ar597 b) (by exact ar598 a c)
          by_cases hq0 : neq > 0
          · refine wp_pos hq0 ?_
            refine wpS_bind (wp_rev fun sta ea => wpS_bind (wp_rev fun st3 e3 => ?_))
            have xa : arrOf sta = mirror (arrOf st2) (lo + x - (neq + 1)) (lo + x) ((lo + x - (lo + x - (neq + 1))) / 2) := by rw [ea]
            have x3 : arrOf st3 = mirror (arrOf sta) lo (lo + x) ((lo + x - lo) / 2) := by rw [e3]
            have sa : (arrOf sta).size = a₀.size := by rw [xa, mirror_size]; exact hsz2
            have ka : ∀ k, kyA ky (arrOf sta) k = kyA ky (arrOf st2) k := fun k => by rw [xa]; exact kyA_even (by exact ar582 hn hx2 hsz2) he k
            have L : SB knd pend a₀ st3 ∧ (∀ k, k < lo → kyA ky (arrOf st3) k = kf k) ∧ Up ky (arrOf st3) lo (lo + x) :=
              ⟨by rw [e3, ea]; exact (hB2.put (mirror_perm _ _ _ _)).put (mirror_perm _ _ _ _), fun k hk => by rw [x3, kyA_mirror (by exact ar582 hn hx2 sa), if_neg (by exact ar599 hk), ka]; exact hf2 k hk,
                by rw [x3]; exact turn _ sa fun i j a b c => by rw [ka, ka]; exact hd2 i j a b c⟩
            obtain ⟨hB3, hf3, hu3⟩ := L
            refine wpS_bind (wpS_mono (wpS_forRange (I := fun y c st' => st' = st3 ∧ c = (none, y) ∧ Up ky (arrOf st3) lo (lo + y))
              (Q := fun c st' => st' = st3 ∧ ∃ n, c = (none, n) ∧ 1 ≤ n ∧ n ≤ nrem ∧ Up ky (arrOf st3) lo (lo + n)) ?_ ?_ ⟨rfl, rfl, hu3⟩) ?_)
            · rintro y c st' hy hy2 ⟨rfl, rfl, hs⟩
              dsimp only
              refine wpS_bind (wp_at hL hB3 ho (by exact ar466 hn hy2) (by exact ar573 hn hy2) ?_)
              cases hd : decide (kyA ky (arrOf st') (lo + y) < kyA ky (arrOf st') (lo + y - 1))
              · refine wp_neg Bool.false_ne_true ?_
                exact wpS_pure ⟨rfl, rfl, hs.more (by exact ar600 hq hy) (by have := of_decide_eq_false hd; exact ar574 this)⟩
              · refine wp_pos rfl ?_
                exact wpS_pure ⟨rfl, y, rfl, by exact ar601 hq hy, by exact ar138 hy2, hs⟩
            · rintro c st' ⟨rfl, rfl, hs⟩
              rw [show max x nrem = nrem by exact ar602 hx2] at hs ⊢
              exact ⟨rfl, _, rfl, h1, Nat.le_refl _, hs⟩
            · rintro c st' ⟨rfl, m, rfl, m1, m2, hs⟩
              exact wpS_pure (h m _ hB3 hf3 m1 m2 hs)
          · refine wp_neg hq0 ?_
            refine wpS_bind (wp_rev fun st3 e3 => ?_)
            have x3 : arrOf st3 = mirror (arrOf st2) lo (lo + x) ((lo + x - lo) / 2) := by rw [e3]
            have L : SB knd pend a₀ st3 ∧ (∀ k, k < lo → kyA ky (arrOf st3) k = kf k) ∧ Up ky (arrOf st3) lo (lo + x) :=
              ⟨by rw [e3]; exact hB2.put (mirror_perm _ _ _ _), fun k hk => by rw [x3, kyA_mirror (by exact ar582 hn hx2 hsz2), if_neg (by exact ar599 hk)]; exact hf2 k hk,
                by rw [x3]; exact turn _ hsz2 hd2⟩
            obtain ⟨hB3, hf3, hu3⟩ := L
            refine wpS_bind (wpS_mono (wpS_forRange (I := fun y c st' => st' = st3 ∧ c = (none, y) ∧ Up ky (arrOf st3) lo (lo + y))
              (Q := fun c st' => st' = st3 ∧ ∃ n, c = (none, n) ∧ 1 ≤ n ∧ n ≤ nrem ∧ Up ky (arrOf st3) lo (lo + n)) ?_ ?_ ⟨rfl, rfl, hu3⟩) ?_)
            · rintro y c st' hy hy2 ⟨rfl, rfl, hs⟩
              dsimp only
              refine wpS_bind (wp_at hL hB3 ho (by exact ar466 hn hy2) (by exact ar573 hn hy2) ?_)
              cases hd : decide (kyA ky (arrOf st') (lo + y) < kyA ky (arrOf st') (lo + y - 1))
              · refine wp_neg Bool.false_ne_true ?_
                exact wpS_pure ⟨rfl, rfl, hs.more (by exact ar600 hq hy) (by have := of_decide_eq_false hd; exact ar574 this)⟩
              · refine wp_pos rfl ?_
                exact wpS_pure ⟨rfl, y, rfl, by exact ar601 hq hy, by exact ar138 hy2, hs⟩
            · rintro c st' ⟨rfl, rfl, hs⟩
              rw [show max x nrem = nrem by exact ar602 hx2] at hs ⊢
              exact ⟨rfl, _, rfl, h1, Nat.le_refl _, hs⟩
            · rintro c st' ⟨rfl, m, rfl, m1, m2, hs⟩
              exact wpS_pure (h m _ hB3 hf3 m1 m2 hs)
      · refine wp_pos rfl ?_
        exact wpS_pure (h n st' hB (fun _ _ => rfl) hn1 hn2 hs)
    · refine wp_neg hgt ?_
      have PP := P _ (Array.Perm.refl _) (fun _ => rfl) (fun k a b => by congr 1; exact ar603 b a hgt)
      rw [← e0] at PP
      generalize hkf : kyA ky (arrOf st') = kf at h hs hlt P
      replace PP : SB knd pend a₀ st' ∧ (∀ k, k < lo → kyA ky (arrOf st') k = kf k) ∧ Down ky (arrOf st') lo (lo + n + 1) := by rw [← hkf]; exact PP
      generalize hst1 : st' = st1 at PP ⊢
      obtain ⟨hB1, hf1, hd1⟩ := PP
      clear P hs hlt hB hst1 hkf
      refine wpS_bind (wpS_lift (wpAny_rule ⟨rfl, ?_⟩))
      refine wpS_bind (wpS_mono (wpS_forRange (I := fun x c st2 => ∃ neq, c = (none, x, neq) ∧ SB knd pend a₀ st2 ∧ (∀ k, k < lo → kyA ky (arrOf st2) k = kf k) ∧ Down ky (arrOf st2) lo (lo + x) ∧ neq + 1 ≤ x ∧ (∀ k, lo + x - (neq + 1) ≤ k → k < lo + x → kyA ky (arrOf st2) k = kyA ky (arrOf st2) (lo + x - 1)))
        (Q := fun c st2 => ∃ x neq, c = (none, x, neq) ∧ n + 1 ≤ x ∧ x ≤ nrem ∧ SB knd pend a₀ st2 ∧ (∀ k, k < lo → kyA ky (arrOf st2) k = kf k) ∧ Down ky (arrOf st2) lo (lo + x) ∧ neq + 1 ≤ x ∧ (∀ k, lo + x - (neq + 1) ≤ k → k < lo + x → kyA ky (arrOf st2) k = kyA ky (arrOf st2) (lo + x - 1))) ?_ ?_ ?_) ?_)
      · rintro x c st2 hx hx2 ⟨neq, rfl, hB2, hf2, hd2, hq, he⟩
        dsimp only
        have hsz2 : (arrOf st2).size = a₀.size := hB2.size
        refine wpS_bind (wp_at hL hB2 ho (by exact ar466 hn hx2) (by exact ar573 hn hx2) ?_)
        cases hd : decide (kyA ky (arrOf st2) (lo + x) < kyA ky (arrOf st2) (lo + x - 1))
        · refine wp_neg Bool.false_ne_true ?_
          have hd := of_decide_eq_false hd
          refine wpS_bind (wp_at hL hB2 ho (by exact ar573 hn hx2) (by exact ar466 hn hx2) ?_)
          cases hd' : decide (kyA ky (arrOf st2) (lo + x - 1) < kyA ky (arrOf st2) (lo + x))
          · refine wp_neg Bool.false_ne_true ?_
            have hd' := of_decide_eq_false hd'
            refine wpS_pure ⟨neq + 1, rfl, hB2, hf2, hd2.more (by exact ar583 hx) (by exact ar574 hd'), by exact ar584 hq, fun k a b => ?_⟩
            rw [show lo + (x + 1) - 1 = lo + x from by exact ar585]
            rcases Nat.lt_or_ge k (lo + x) with z | z
            · rw [he k (by exact ar586 a) z]; exact ar587 hd' hd
            · congr 1; exact ar588 b z
          · refine wp_pos rfl ?_
            exact wpS_pure ⟨x, neq, rfl, hx, by exact ar138 hx2, hB2, hf2, hd2, hq, he⟩
        · refine wp_pos rfl ?_
          have hd := of_decide_eq_true hd
          by_cases hq0 : neq > 0
          · refine wp_pos hq0 ?_
            refine wpS_bind (wpS_reverse (wpS_pure ⟨0, rfl, hB2.put (mirror_perm _ _ _ _), fun k hk => ?_, fun i j a b c => ?_, by exact ar589, fun k a b => by congr 1; exact ar590 b a⟩))
            · show kyA ky (mirror (arrOf st2) _ _ _) k = _
              rw [kyA_even (by exact ar591 hn hx2 hsz2) he]; exact hf2 k hk
            · show kyA ky (mirror (arrOf st2) _ _ _) j ≤ kyA ky (mirror (arrOf st2) _ _ _) i
              rw [kyA_even (by exact ar591 hn hx2 hsz2) he, kyA_even (by exact ar591 hn hx2 hsz2) he]
              exact hd2.more (by exact ar583 hx) (by exact ar182 hd) i j a b c
          · refine wp_neg hq0 ?_
            exact wpS_pure ⟨0, rfl, hB2, hf2, hd2.more (by exact ar583 hx) (by exact ar182 hd), by exact ar589, fun k a b => by congr 1; exact ar590 b a⟩
      · rintro c st2 ⟨neq, rfl, hB2, hf2, hd2, hq, he⟩
        rw [show max (n + 1) nrem = nrem by exact ar592 hn2 hnn] at *
        exact ⟨_, neq, rfl, by exact ar593 hn2 hnn, Nat.le_refl _, hB2, hf2, hd2, hq, he⟩
      · exact ⟨0, rfl, hB1, hf1, hd1, by exact ar589, fun k a b => by congr 1; exact ar590 b a⟩
      · rintro c st2 ⟨x, neq, rfl, hx, hx2, hB2, hf2, hd2, hq, he⟩
        dsimp only
        have hsz2 : (arrOf st2).size = a₀.size := hB2.size
        have turn : ∀ xs : Array Keyed, xs.size = a₀.size → Down ky xs lo (lo + x) → Up ky (mirror xs lo (lo + x) ((lo + x - lo) / 2)) lo (lo + x) := fun xs hxs hd i j a b c => by
          rw [kyA_mirror (by exact ar582 hn hx2 hxs), kyA_mirror (by exact ar582 hn hx2 hxs), if_pos (by exact ar594 a b c), if_pos (by exact ar595 a c b)]
          exact hd _ _ (by exact ar596 c) (by exact ar597 b) (by exact ar598 a c)
        by_cases hq0 : neq > 0
        · refine wp_pos hq0 ?_
          refine wpS_bind (wp_rev fun sta ea => wpS_bind (wp_rev fun st3 e3 => ?_))
          have xa : arrOf sta = mirror (arrOf st2) (lo + x - (neq + 1)) (lo + x) ((lo + x - (lo + x - (neq + 1))) / 2) := by rw [ea]
          have x3 : arrOf st3 = mirror (arrOf sta) lo (lo + x) ((lo + x - lo) / 2) := by rw [e3]
          have sa : (arrOf sta).size = a₀.size := by rw [xa, mirror_size]; exact hsz2
          have ka : ∀ k, kyA ky (arrOf sta) k = kyA ky (arrOf st2) k := fun k => by rw [xa]; exact kyA_even (by exact ar582 hn hx2 hsz2) he k
          have L : SB knd pend a₀ st3 ∧ (∀ k, k < lo → kyA ky (arrOf st3) k = kf k) ∧ Up ky (arrOf st3) lo (lo + x) :=
            ⟨by rw [e3, ea]; exact (hB2.put (mirror_perm _ _ _ _)).put (mirror_perm _ _ _ _), fun k hk => by rw [x3, kyA_mirror (by exact ar582 hn hx2 sa), if_neg (by exact ar599 hk), ka]; exact hf2 k hk,
              by rw [x3]; exact turn _ sa fun i j a b c => by rw [ka, ka]; exact hd2 i j a b c⟩
          obtain ⟨hB3, hf3, hu3⟩ := L
          refine wpS_bind (wpS_mono (wpS_forRange (I := fun y c st' => st' = st3 ∧ c = (none, y) ∧ Up ky (arrOf st3) lo (lo + y))
            (Q := fun c st' => st' = st3 ∧ ∃ n, c = (none, n) ∧ 1 ≤ n ∧ n ≤ nrem ∧ Up ky (arrOf st3) lo (lo + n)) ?_ ?_ ⟨rfl, rfl, hu3⟩) ?_)
          · rintro y c st' hy hy2 ⟨rfl, rfl, hs⟩
            dsimp only
            refine wpS_bind (wp_at hL hB3 ho (by exact ar466 hn hy2) (by exact ar573 hn hy2) ?_)
            cases hd : decide (kyA ky (arrOf st') (lo + y) < kyA ky (arrOf st') (lo + y - 1))
            · refine wp_neg Bool.false_ne_true ?_
              exact wpS_pure ⟨rfl, rfl, hs.more (by exact ar600 hx hy) (by have := of_decide_eq_false hd; exact ar574 this)⟩
            · refine wp_pos rfl ?_
              exact wpS_pure ⟨rfl, y, rfl, by exact ar601 hx hy, by exact ar138 hy2, hs⟩
          · rintro c st' ⟨rfl, rfl, hs⟩
            rw [show max x nrem = nrem by exact ar602 hx2] at hs ⊢
            exact ⟨rfl, _, rfl, h1, Nat.le_refl _, hs⟩
          · rintro c st' ⟨rfl, m, rfl, m1, m2, hs⟩
            exact wpS_pure (h m _ hB3 hf3 m1 m2 hs)
        · refine wp_neg hq0 ?_
          refine wpS_bind (wp_rev fun st3 e3 => ?_)
          have x3 : arrOf st3 = mirror (arrOf st2) lo (lo + x) ((lo + x - lo) / 2) := by rw [e3]
          have L : SB knd pend a₀ st3 ∧ (∀ k, k < lo → kyA ky (arrOf st3) k = kf k) ∧ Up ky (arrOf st3) lo (lo + x) :=
            ⟨by rw [e3]; exact hB2.put (mirror_perm _ _ _ _), fun k hk => by rw [x3, kyA_mirror (by exact ar582 hn hx2 hsz2), if_neg (by exact ar599 hk)]; exact hf2 k hk,
              by rw [x3]; exact turn _ hsz2 hd2⟩
          obtain ⟨hB3, hf3, hu3⟩ := L
          refine wpS_bind (wpS_mono (wpS_forRange (I := fun y c st' => st' = st3 ∧ c = (none, y) ∧ Up ky (arrOf st3) lo (lo + y))
            (Q := fun c st' => st' = st3 ∧ ∃ n, c = (none, n) ∧ 1 ≤ n ∧ n ≤ nrem ∧ Up ky (arrOf st3) lo (lo + n)) ?_ ?_ ⟨rfl, rfl, hu3⟩) ?_)
          · rintro y c st' hy hy2 ⟨rfl, rfl, hs⟩
            dsimp only
            refine wpS_bind (wp_at hL hB3 ho (by exact ar466 hn hy2) (by exact ar573 hn hy2) ?_)
            cases hd : decide (kyA ky (arrOf st') (lo + y) < kyA ky (arrOf st') (lo + y - 1))
            · refine wp_neg Bool.false_ne_true ?_
              exact wpS_pure ⟨rfl, rfl, hs.more (by exact ar600 hx hy) (by have := of_decide_eq_false hd; exact ar574 this)⟩
            · refine wp_pos rfl ?_
              exact wpS_pure ⟨rfl, y, rfl, by exact ar601 hx hy, by exact ar138 hy2, hs⟩
          · rintro c st' ⟨rfl, rfl, hs⟩
            rw [show max x nrem = nrem by exact ar602 hx2] at hs ⊢
            exact ⟨rfl, _, rfl, h1, Nat.le_refl _, hs⟩
          · rintro c st' ⟨rfl, m, rfl, m1, m2, hs⟩
            exact wpS_pure (h m _ hB3 hf3 m1 m2 hs)
end
end Mine
end

section
open PySem PyProof.Rows
set_option Elab.async false
set_option linter.unusedVariables false
namespace Mine
section
variable {prog : Program} {w : World} {A : Around} {E : Value → Shared → Prop} {s : Shared} {ky : Value → Int} {ok : Value → Prop} {knd : SortKind} {pend : Array (Nat × Nat × Nat)} {a₀ : Array Keyed}
theorem wp_down {st : SortSt} {src dst : Nat} {Q : Unit → SortSt → Prop} (h : ∀ st', st' = setArr st (bubble (arrOf st) src (src - dst)) → Q () st') :
    wpS (model prog w) A E s (moveDown' src dst) Q st := by
  rw [moveDown'_eq]; exact wpS_modify (h _ rfl)
theorem wp_binarySort {st : SortSt} {lo n m : Nat} {Q : Bool → SortSt → Prop} (hL : LtOk prog w A E s ky ok knd) (ho : Oks ok a₀) (hn : lo + n ≤ a₀.size) (hm1 : 1 ≤ m) (hm : m ≤ n) (hB : SB knd pend a₀ st) (hs : Up ky (arrOf st) lo (lo + m))
    (h : ∀ st', SB knd pend a₀ st' → (∀ k, k < lo → kyA ky (arrOf st') k = kyA ky (arrOf st) k) → Up ky (arrOf st') lo (lo + n) → Q true st') :
    wpS (model prog w) A E s (binarySort' lo n m) Q st := by
  rw [binarySort'_eq]
  generalize hkf : kyA ky (arrOf st) = kf at h
  have hf0 : ∀ k, k < lo → kyA ky (arrOf st) k = kf k := fun k _ => by rw [hkf]
  refine wpS_bind (wpS_mono (wpS_forRange (I := fun k c st' => c = (none, ()) ∧ SB knd pend a₀ st' ∧ (∀ k, k < lo → kyA ky (arrOf st') k = kf k) ∧ k ≤ n ∧ Up ky (arrOf st') lo (lo + k))
    (Q := fun c st' => c = (none, ()) ∧ SB knd pend a₀ st' ∧ (∀ k, k < lo → kyA ky (arrOf st') k = kf k) ∧ Up ky (arrOf st') lo (lo + n)) ?step ?fin ?init) ?post)
  case post =>
    rintro c st' ⟨rfl, hB', hf', hs'⟩
    exact wpS_pure (h st' hB' hf' hs')
  case init => rw [show max m 1 = m by exact ar616 hm1]; exact ⟨rfl, hB, hf0, hm, hs⟩
  case fin =>
    rintro c st' ⟨hc, hB', hf', hk, hs'⟩
    rw [show max (max m 1) n = n by exact ar617 hk] at hs'
    exact ⟨hc, hB', hf', hs'⟩
  case step =>
    rintro k c st' hak hkn ⟨rfl, hB', hf', _, hs'⟩
    have hsz : (arrOf st').size = a₀.size := hB'.size
    refine wpS_bind (wpS_mono (wpS_forRange (I := fun x c st2 => st2 = st' ∧ ∃ l r, c = (none, l, r) ∧ l ≤ r ∧ r ≤ k ∧ r - l ≤ k - x ∧
        (∀ i, lo ≤ i → i < lo + l → kyA ky (arrOf st') i ≤ kyA ky (arrOf st') (lo + k)) ∧ (∀ i, lo + r ≤ i → i < lo + k → kyA ky (arrOf st') (lo + k) < kyA ky (arrOf st') i))
      (Q := fun c st2 => st2 = st' ∧ ∃ l r, c = (none, l, r) ∧ l ≤ k ∧
        (∀ i, lo ≤ i → i < lo + l → kyA ky (arrOf st') i ≤ kyA ky (arrOf st') (lo + k)) ∧ (∀ i, lo + l ≤ i → i < lo + k → kyA ky (arrOf st') (lo + k) < kyA ky (arrOf st') i)) ?istep ?ifin ?iinit) ?ipost)
    case iinit => exact ⟨rfl, 0, k, rfl, by exact ar369, by exact ar578, by exact ar618, fun i a b => by exact ar619 b a, fun i a b => by exact ar620 a b⟩
    case ifin =>
      rintro c st2 ⟨rfl, l, r, rfl, hlr, hrk, hm, hlo, hhi⟩
      have : l = r := by exact ar621 hlr hm
      subst this
      exact ⟨rfl, l, l, rfl, hrk, hlo, hhi⟩
    case istep =>
      rintro x c st2 _ hxk ⟨rfl, l, r, rfl, hlr, hrk, hm, hlo, hhi⟩
      dsimp only
      by_cases hge : l ≥ r
      · refine wp_pos hge ?_
        have : l = r := by exact ar310 hlr hge
        subst this
        exact wpS_pure ⟨rfl, l, l, rfl, hrk, hlo, hhi⟩
      · refine wp_neg hge ?_
        refine wpS_bind (wp_at hL hB' ho (by exact ar466 hn hkn) (by exact ar622 hn hrk hkn hge) ?_)
        cases hd : decide (kyA ky (arrOf st2) (lo + k) < kyA ky (arrOf st2) (lo + (l + r) / 2))
        · refine wp_neg Bool.false_ne_true ?_
          have hd := of_decide_eq_false hd
          refine wpS_pure ⟨rfl, (l + r) / 2 + 1, r, rfl, by exact ar623 hge, by exact hrk, by exact ar624 hm, fun i a b => ?_, hhi⟩
          have := hs' i (lo + (l + r) / 2) a (by exact ar625 b) (by exact ar626 hrk hge)
          exact ar627 this hd
        · refine wp_pos rfl ?_
          have hd := of_decide_eq_true hd
          refine wpS_pure ⟨rfl, l, (l + r) / 2, rfl, by exact ar628 hge, by exact ar629 hrk hge, by exact ar630 hm, hlo, fun i a b => ?_⟩
          have := hs' (lo + (l + r) / 2) i (by exact ar631) a b
          exact ar632 hd this
    case ipost =>
      rintro c st2 ⟨rfl, l, r, rfl, hlk, hlo, hhi⟩
      refine wpS_bind (wp_down fun st3 e3 => wpS_pure ⟨rfl, by rw [e3]; exact hB'.put (bubble_perm _ _ _), fun i hi => ?_, by exact ar62 hkn, fun i j a b c => ?_⟩)
      all_goals
        have x3 : arrOf st3 = bubble (arrOf st2) (lo + k) (lo + k - (lo + l)) := by rw [e3]
        rw [x3]
      · rw [kyA_bubble (by exact ar633 hn hkn hsz) (by exact ar634), if_neg (by exact ar635 hi), if_neg (by exact ar636 hi)]; exact hf' i hi
      · rw [kyA_bubble (by exact ar633 hn hkn hsz) (by exact ar634), kyA_bubble (by exact ar633 hn hkn hsz) (by exact ar634), show lo + k - (lo + k - (lo + l)) = lo + l by exact ar637 hlk]
        try dsimp only at c
        split <;> split <;> (try split) <;> (try split)
        all_goals first
          | (exfalso; (first | exact ar640 b c (by assumption) (by assumption) (by assumption) | exact ar641 (by assumption) b (by assumption) | exact ar644 (by assumption) b c (by assumption)))
          | exact Int.le_refl _
          | exact hlo _ (by exact a) (by (first | exact ar645 b (by assumption) (by assumption) | exact ar646 b (by assumption) (by assumption) (by assumption) | exact ar648 b c (by assumption) (by assumption)))
          | exact Int.le_of_lt (hhi _ (by exact ar638 (by assumption)) (by exact ar639 (by assumption)))
          | exact hs' _ _ (by (first | exact ar642 (by assumption) | exact a)) (by (first | exact ar643 b | exact ar647 b (by assumption) (by assumption) | exact b)) (by (first | exact ar639 (by assumption) | exact ar649 c hlk (by assumption) (by assumption)))
end
end Mine
end

section
open PySem PyProof.Rows
set_option Elab.async false
set_option linter.unusedVariables false
namespace Mine
noncomputable def gallop' : Bool → Keyed → Array Keyed → Nat → Nat → Nat → StateT SortSt Sem (Option Nat) := sortPriv% PySem.Builtin.gallop
noncomputable def mergeLo' : Array Keyed → Array Keyed → StateT SortSt Sem (Array Keyed) := sortPriv% PySem.Builtin.mergeLo
noncomputable def mergeHi' : Array Keyed → Array Keyed → StateT SortSt Sem (Array Keyed) := sortPriv% PySem.Builtin.mergeHi
noncomputable def gb (ky : Value → Int) (left : Bool) (k : Int) (arr : Array Keyed) (i : Nat) : Bool := if left then decide (kyA ky arr i < k) else !(decide (k < kyA ky arr i))
section
variable {prog : Program} {w : World} {A : Around} {E : Value → Shared → Prop} {s : Shared} {ky : Value → Int} {ok : Value → Prop} {knd : SortKind} {pend : Array (Nat × Nat × Nat)} {a₀ : Array Keyed}
theorem wp_elem {st : SortSt} {arr : Array Keyed} {i : Nat} {Q : Keyed → SortSt → Prop} (hi : i < arr.size) (h : Q arr[i] st) : wpS (model prog w) A E s (elem' arr i) Q st := by
  rw [elem'_eq, getElem?_pos arr i hi]; exact wpS_pure h
theorem kyA_at {arr : Array Keyed} {i : Nat} (hi : i < arr.size) : kyA ky arr i = ky arr[i].1 := by unfold kyA; rw [getElem?_pos arr i hi]
theorem Oks.at {arr : Array Keyed} (h : Oks ok arr) {i : Nat} (hi : i < arr.size) : ok arr[i].1 := h _ (by simp)
theorem gb_mono {left : Bool} {k : Int} {arr : Array Keyed} {lo hi i j : Nat} (hs : Up ky arr lo hi) (h1 : lo ≤ i) (h2 : i ≤ j) (h3 : j < hi) (h : gb ky left k arr j = true) : gb ky left k arr i = true := by
  have := hs i j h1 h2 h3
  unfold gb at h ⊢
  cases left
  · simp only [Bool.false_eq_true, if_false, Bool.not_eq_true', decide_eq_false_iff_not] at h ⊢; exact ar650 this h
  · simp only [if_true, decide_eq_true_eq] at h ⊢; exact ar651 this h
theorem gb_false {left : Bool} {k : Int} {arr : Array Keyed} {lo hi i j : Nat} (hs : Up ky arr lo hi) (h1 : lo ≤ i) (h2 : i ≤ j) (h3 : j < hi) (h : gb ky left k arr i = false) : gb ky left k arr j = false := by
  cases q : gb ky left k arr j
  · rfl
  · rw [gb_mono hs h1 h2 h3 q] at h; cases h
theorem wp_gallop {st : SortSt} {left : Bool} {key : Keyed} {arr : Array Keyed} {base n hint : Nat} {Q : Option Nat → SortSt → Prop} (hL : LtOk prog w A E s ky ok knd) (hk : kindOf st = knd) (hox : ok key.1) (ho : Oks ok arr) (hn : base + n ≤ arr.size) (hh : hint < n)
    (hs : Up ky arr base (base + n))
    (h : ∀ p, p ≤ n → (∀ i, i < p → gb ky left (ky key.1) arr (base + i) = true) → (∀ i, p ≤ i → i < n → gb ky left (ky key.1) arr (base + i) = false) → Q (some p) st) :
    wpS (model prog w) A E s (gallop' left key arr base n hint) Q st := by
  have mt : ∀ i j, i ≤ j → j < n → gb ky left (ky key.1) arr (base + j) = true → gb ky left (ky key.1) arr (base + i) = true := fun i j a b c => gb_mono hs (by exact ar563) (by exact ar652 a) (by exact ar653 b) c
  have mf : ∀ i j, i ≤ j → j < n → gb ky left (ky key.1) arr (base + i) = false → gb ky left (ky key.1) arr (base + j) = false := fun i j a b c => gb_false hs (by exact ar563) (by exact ar652 a) (by exact ar653 b) c
  unfold gallop'
  have hb : ∀ i, i < n → ∀ Q' : Option Bool → SortSt → Prop, Q' (some (gb ky left (ky key.1) arr (base + i))) st → wpS (model prog w) A E s (elem' arr (base + i) >>= fun x => if left = true then lt' x key else lt' key x >>= fun r => pure (r.map fun b => !b)) Q' st := by
    intro i hi Q' hQ
    refine wpS_bind (wp_elem (show base + i < arr.size by exact ar466 hn hi) ?_)
    unfold gb at hQ
    rw [kyA_at (show base + i < arr.size by exact ar466 hn hi)] at hQ
    cases left
    · simp only [Bool.false_eq_true, if_false] at hQ ⊢
      exact wpS_bind (hL _ _ _ _ hox (ho.at (by exact ar466 hn hi)) hk (wpS_pure hQ))
    · simp only [if_true] at hQ ⊢
      exact hL _ _ _ _ (ho.at (by exact ar466 hn hi)) hox hk hQ
  · generalize gb ky left (ky key.1) arr = g at *
    refine wpS_bind (hb _ hh _ ?_)
    dsimp only
    · cases hg : g (base + hint)
      · refine wp_neg Bool.false_ne_true ?_
        refine wpS_bind (wpS_mono (wpS_forRange (I := fun x c st' => st' = st ∧ ∃ l o, c = (none, l, o) ∧ l < o ∧ l ≤ hint ∧ x < o ∧ g (base + (hint - l)) = false)
          (Q := fun c st' => st' = st ∧ ∃ l o, c = (none, l, o) ∧ l < o ∧ l ≤ hint ∧ g (base + (hint - l)) = false ∧ (hint + 1 ≤ o ∨ g (base + (hint - o)) = true)) ?_ ?_ ⟨rfl, 0, 1, rfl, by exact ar187, by exact ar369, by exact ar187, hg⟩) ?_)
        · rintro x c st' _ hx ⟨rfl, l, o, rfl, a1, a2, a3, a4⟩
          dsimp only
          by_cases hge : o ≥ hint + 1
          · rw [if_pos hge]; exact wpS_pure ⟨rfl, l, o, rfl, a1, a2, a4, .inl hge⟩
          · refine wp_neg hge ?_
            refine wpS_bind (hb _ (by exact ar654 hh) _ ?_)
            dsimp only
            cases hg2 : g (base + (hint - o))
            · refine wp_neg Bool.false_ne_true ?_
              exact wpS_pure ⟨rfl, o, _, rfl, by exact ar655, by exact ar656 hge, by exact ar657 a3, hg2⟩
            · refine wp_pos rfl ?_
              exact wpS_pure ⟨rfl, l, o, rfl, a1, a2, a4, .inr hg2⟩
        · rintro c st' ⟨rfl, l, o, rfl, a1, a2, a3, a4⟩
          exact ⟨rfl, l, o, rfl, a1, a2, a4, .inl (by exact ar658 a3 hh)⟩
        · rintro c st' ⟨rfl, l, o, rfl, a1, a2, a4, a5⟩
          dsimp only
          obtain ⟨h1, h2, h3, h4⟩ : hint + 1 - min o (hint + 1) ≤ hint - l ∧ hint - l ≤ n ∧ (∀ i, i < hint + 1 - min o (hint + 1) → g (base + i) = true) ∧ (∀ i, hint - l ≤ i → i < n → g (base + i) = false) := by
            refine ⟨by exact ar659 a1, by exact ar660 hh, fun i hi => ?_, fun i b1 b2 => mf _ _ (by exact b1) b2 a4⟩
            rcases a5 with a5 | a5
            · exact (ar661 a5 hi).elim
            · exact mt i (hint - o) (by exact ar662 hi) (by exact ar654 hh) a5
          generalize hint + 1 - min o (hint + 1) = lo at *
          generalize hint - l = hi at *
          refine wpS_bind (wpS_mono (wpS_forRange (I := fun x c st3 => st3 = st' ∧ ∃ lo hi, c = (none, lo, hi) ∧ lo ≤ hi ∧ hi ≤ n ∧ hi - lo ≤ n - x ∧ (∀ i, i < lo → g (base + i) = true) ∧ (∀ i, hi ≤ i → i < n → g (base + i) = false))
            (Q := fun c st3 => st3 = st' ∧ ∃ hi, c = (none, hi, hi) ∧ hi ≤ n ∧ (∀ i, i < hi → g (base + i) = true) ∧ (∀ i, hi ≤ i → i < n → g (base + i) = false)) ?_ ?_ ⟨rfl, lo, hi, rfl, h1, h2, by exact ar663 h2, h3, h4⟩) ?_)
          · rintro x c st' _ hx ⟨rfl, lo, hi, rfl, a1, a2, a3, a4, a5⟩
            dsimp only
            by_cases hge : lo ≥ hi
            · refine wp_pos hge ?_
              have : lo = hi := by exact ar310 a1 hge
              subst this
              exact wpS_pure ⟨rfl, lo, rfl, a2, a4, a5⟩
            · refine wp_neg hge ?_
              refine wpS_bind (hb _ (by exact ar664 a2 hge) _ ?_)
              dsimp only
              cases hg : g (base + (lo + (hi - lo) / 2))
              · refine wp_neg Bool.false_ne_true ?_
                exact wpS_pure ⟨rfl, lo, _, rfl, by exact ar665, by exact ar666 a2 hge, by exact ar667 a3, a4, fun i b1 b2 => mf _ _ b1 b2 hg⟩
              · refine wp_pos rfl ?_
                exact wpS_pure ⟨rfl, _, hi, rfl, by exact ar668 hge, by exact a2, by exact ar669 a3, fun i b1 => mt _ _ (by exact ar670 b1) (by exact ar664 a2 hge) hg, a5⟩
          · rintro c st' ⟨rfl, lo, hi, rfl, a1, a2, a3, a4, a5⟩
            have : lo = hi := by exact ar621 a1 a3
            subst this
            exact ⟨rfl, lo, rfl, a2, a4, a5⟩
          · rintro c st' ⟨rfl, hi, rfl, a2, a4, a5⟩
            exact wpS_pure (h hi a2 a4 a5)
      · refine wp_pos rfl ?_
        refine wpS_bind (wpS_mono (wpS_forRange (I := fun x c st' => st' = st ∧ ∃ l o, c = (none, l, o) ∧ l < o ∧ hint + l < n ∧ x < o ∧ g (base + (hint + l)) = true)
          (Q := fun c st' => st' = st ∧ ∃ l o, c = (none, l, o) ∧ l < o ∧ hint + l < n ∧ g (base + (hint + l)) = true ∧ (n - hint ≤ o ∨ g (base + (hint + o)) = false)) ?_ ?_ ⟨rfl, 0, 1, rfl, by exact ar187, by exact ar671 hh, by exact ar187, hg⟩) ?_)
        · rintro x c st' _ hx ⟨rfl, l, o, rfl, a1, a2, a3, a4⟩
          dsimp only
          by_cases hge : o ≥ n - hint
          · rw [if_pos hge]; exact wpS_pure ⟨rfl, l, o, rfl, a1, a2, a4, .inl hge⟩
          · refine wp_neg hge ?_
            refine wpS_bind (hb _ (by exact ar672 hge) _ ?_)
            dsimp only
            cases hg2 : g (base + (hint + o))
            · simp only [Bool.not_false, if_true]
              exact wpS_pure ⟨rfl, l, o, rfl, a1, a2, a4, .inr hg2⟩
            · simp only [Bool.not_true, Bool.false_eq_true, if_false]
              exact wpS_pure ⟨rfl, o, _, rfl, by exact ar655, by exact ar672 hge, by exact ar657 a3, hg2⟩
        · rintro c st' ⟨rfl, l, o, rfl, a1, a2, a3, a4⟩
          exact ⟨rfl, l, o, rfl, a1, a2, a4, .inl (by exact ar673 a3)⟩
        · rintro c st' ⟨rfl, l, o, rfl, a1, a2, a4, a5⟩
          dsimp only
          obtain ⟨h1, h2, h3, h4⟩ : hint + l + 1 ≤ hint + min o (n - hint) ∧ hint + min o (n - hint) ≤ n ∧ (∀ i, i < hint + l + 1 → g (base + i) = true) ∧ (∀ i, hint + min o (n - hint) ≤ i → i < n → g (base + i) = false) := by
            refine ⟨by exact ar674 a2 a1, by exact ar675 hh, fun i hi => mt _ _ (by exact ar676 hi) (by exact a2) a4, fun i b1 b2 => ?_⟩
            rcases a5 with a5 | a5
            · exact (ar677 b1 a5 b2).elim
            · exact mf (hint + o) i (by exact ar678 b1 b2) (by exact b2) a5
          generalize hint + l + 1 = lo at *
          generalize hint + min o (n - hint) = hi at *
          refine wpS_bind (wpS_mono (wpS_forRange (I := fun x c st3 => st3 = st' ∧ ∃ lo hi, c = (none, lo, hi) ∧ lo ≤ hi ∧ hi ≤ n ∧ hi - lo ≤ n - x ∧ (∀ i, i < lo → g (base + i) = true) ∧ (∀ i, hi ≤ i → i < n → g (base + i) = false))
            (Q := fun c st3 => st3 = st' ∧ ∃ hi, c = (none, hi, hi) ∧ hi ≤ n ∧ (∀ i, i < hi → g (base + i) = true) ∧ (∀ i, hi ≤ i → i < n → g (base + i) = false)) ?_ ?_ ⟨rfl, lo, hi, rfl, h1, h2, by exact ar663 h2, h3, h4⟩) ?_)
          · rintro x c st' _ hx ⟨rfl, lo, hi, rfl, a1, a2, a3, a4, a5⟩
            dsimp only
            by_cases hge : lo ≥ hi
            · refine wp_pos hge ?_
              have : lo = hi := by exact ar310 a1 hge
              subst this
              exact wpS_pure ⟨rfl, lo, rfl, a2, a4, a5⟩
            · refine wp_neg hge ?_
              refine wpS_bind (hb _ (by exact ar664 a2 hge) _ ?_)
              dsimp only
              cases hg : g (base + (lo + (hi - lo) / 2))
              · refine wp_neg Bool.false_ne_true ?_
                exact wpS_pure ⟨rfl, lo, _, rfl, by exact ar665, by exact ar666 a2 hge, by exact ar667 a3, a4, fun i b1 b2 => mf _ _ b1 b2 hg⟩
              · refine wp_pos rfl ?_
                exact wpS_pure ⟨rfl, _, hi, rfl, by exact ar668 hge, by exact a2, by exact ar669 a3, fun i b1 => mt _ _ (by exact ar670 b1) (by exact ar664 a2 hge) hg, a5⟩
          · rintro c st' ⟨rfl, lo, hi, rfl, a1, a2, a3, a4, a5⟩
            have : lo = hi := by exact ar621 a1 a3
            subst this
            exact ⟨rfl, lo, rfl, a2, a4, a5⟩
          · rintro c st' ⟨rfl, hi, rfl, a2, a4, a5⟩
            exact wpS_pure (h hi a2 a4 a5)
end
end Mine
end

section
open PySem PyProof.Rows
set_option Elab.async false
set_option linter.unusedVariables false
namespace Mine
/-! ## two sorted lists merged -/
noncomputable def Ups (ky : Value → Int) (l : List Keyed) : Prop := l.Pairwise fun p q => ky p.1 ≤ ky q.1
structure MI (ky : Value → Int) (a b out : List Keyed) (ia ib : Nat) : Prop where
  sa : Ups ky (out ++ a.drop ia)
  sb : Ups ky (out ++ b.drop ib)
  perm : (out ++ a.drop ia ++ b.drop ib).Perm (a ++ b)
section
variable {ky : Value → Int} {a b out : List Keyed} {ia ib : Nat}
theorem MI.swap (h : MI ky a b out ia ib) : MI ky b a out ib ia := by
  refine ⟨h.sb, h.sa, ?_⟩
  have h1 : (out ++ b.drop ib ++ a.drop ia).Perm (out ++ a.drop ia ++ b.drop ib) := by
    rw [List.append_assoc, List.append_assoc]
    exact (List.perm_append_comm).append_left out
  exact h1.trans (h.perm.trans List.perm_append_comm)
theorem MI.start (ha : Ups ky a) (hb : Ups ky b) : MI ky a b [] 0 0 := ⟨by simpa using ha, by simpa using hb, by simp⟩
theorem MI.takeA (h : MI ky a b out ia ib) (k : Nat) (hx : ∀ x ∈ (a.drop ia).take k, ∀ y ∈ b.drop ib, ky x.1 ≤ ky y.1) : MI ky a b (out ++ (a.drop ia).take k) (ia + k) ib := by
  have e : out ++ (a.drop ia).take k ++ a.drop (ia + k) = out ++ a.drop ia := by
    rw [List.append_assoc, ← List.drop_drop, List.take_append_drop]
  refine ⟨by rw [e]; exact h.sa, ?_, by rw [e]; exact h.perm⟩
  have h1 := h.sa
  have h2 := h.sb
  unfold Ups at *
  rw [← e] at h1
  rw [List.pairwise_append] at h1 h2 ⊢
  refine ⟨h1.1, h2.2.1, fun x hm y hy => ?_⟩
  rcases List.mem_append.mp hm with q | q
  · exact h2.2.2 x q y hy
  · exact hx x q y hy
theorem MI.doneB (h : MI ky a b out ia ib) (hb : b.length ≤ ib) : Ups ky (out ++ a.drop ia ++ b.drop ib) ∧ (out ++ a.drop ia ++ b.drop ib).Perm (a ++ b) :=
  ⟨by rw [List.drop_of_length_le hb, List.append_nil]; exact h.sa, h.perm⟩
theorem MI.doneA (h : MI ky a b out ia ib) (ha : a.length ≤ ia) : Ups ky (out ++ a.drop ia ++ b.drop ib) ∧ (out ++ a.drop ia ++ b.drop ib).Perm (a ++ b) :=
  ⟨by rw [List.drop_of_length_le ha, List.append_nil]; exact h.sb, h.perm⟩
theorem MI.lastA (h : MI ky a b out ia ib) (hx : ∀ x ∈ b.drop ib, ∀ y ∈ a.drop ia, ky x.1 ≤ ky y.1) : Ups ky (out ++ b.drop ib ++ a.drop ia) ∧ (out ++ b.drop ib ++ a.drop ia).Perm (a ++ b) := by
  refine ⟨?_, h.swap.perm.trans List.perm_append_comm⟩
  have h1 := h.sa
  have h2 := h.sb
  unfold Ups at *
  rw [List.pairwise_append] at h1 ⊢
  refine ⟨h2, h1.2.1, fun x hm y hy => ?_⟩
  rcases List.mem_append.mp hm with q | q
  · exact h1.2.2 x q y hy
  · exact hx x q y hy
end
structure Same (st st' : SortSt) : Prop where
  arr : arrOf st' = arrOf st
  kind : kindOf st' = kindOf st
  failed : failedOf st' = failedOf st
  pend : pendingOf st' = pendingOf st
theorem Same.refl (st : SortSt) : Same st st := ⟨rfl, rfl, rfl, rfl⟩
noncomputable def MIA (ky : Value → Int) (a b out : Array Keyed) (ia ib : Nat) : Prop := MI ky a.toList b.toList out.toList ia ib
noncomputable def MR (ky : Value → Int) (a b out : Array Keyed) : Prop := Ups ky out.toList ∧ out.toList.Perm (a.toList ++ b.toList)
theorem Up.ups {ky : Value → Int} {a : Array Keyed} (h : Up ky a 0 a.size) : Ups ky a.toList := by
  unfold Ups
  rw [List.pairwise_iff_getElem]
  intro i j hi hj hij
  have hi' : i < a.size := by simpa using hi
  have hj' : j < a.size := by simpa using hj
  have := h i j (by exact ar369) (by exact ar138 hij) hj'
  rw [kyA_at hi', kyA_at hj'] at this
  simpa using this
theorem Ups.up {ky : Value → Int} {a : Array Keyed} (h : Ups ky a.toList) : Up ky a 0 a.size := by
  intro i j h1 h2 h3
  rcases Nat.lt_or_ge i j with z | z
  · unfold Ups at h
    rw [List.pairwise_iff_getElem] at h
    have := h i j (by simp; exact ar303 z h3) (by simpa using h3) z
    rw [kyA_at (show i < a.size by exact ar303 z h3), kyA_at h3]
    simpa using this
  · have : i = j := by exact ar310 h2 z
    subst this; exact Int.le_refl _
section
variable {ky : Value → Int} {a b out : Array Keyed} {ia ib : Nat}
theorem mem_run {l : List Keyed} {i k : Nat} {x : Keyed} (h : x ∈ (l.drop i).take k) : ∃ j, j < k ∧ i + j < l.length ∧ l[i + j]? = some x := by
  obtain ⟨j, hj⟩ := List.mem_iff_getElem?.mp h
  have hjk : j < k := by
    by_cases q : j < k
    · exact q
    · rw [List.getElem?_take_eq_none (by exact ar679 q)] at hj; cases hj
  rw [List.getElem?_take_of_lt hjk, List.getElem?_drop] at hj
  refine ⟨j, hjk, ?_, hj⟩
  obtain ⟨hlt, _⟩ := List.getElem?_eq_some_iff.mp hj
  exact hlt
theorem mem_rest {l : List Keyed} {i : Nat} {x : Keyed} (h : x ∈ l.drop i) : ∃ j, i ≤ j ∧ j < l.length ∧ l[j]? = some x := by
  obtain ⟨j, hj⟩ := List.mem_iff_getElem?.mp h
  rw [List.getElem?_drop] at hj
  obtain ⟨hlt, _⟩ := List.getElem?_eq_some_iff.mp hj
  exact ⟨i + j, by exact ar563, hlt, hj⟩
theorem ky_of {xs : Array Keyed} {j : Nat} {x : Keyed} (h : xs.toList[j]? = some x) : ky x.1 = kyA ky xs j := by
  unfold kyA
  rw [Array.getElem?_toList] at h
  rw [h]
theorem MIA.swap (h : MIA ky a b out ia ib) : MIA ky b a out ib ia := MI.swap h
theorem MIA.chunkA (h : MIA ky a b out ia ib) (hsb : Up ky b 0 b.size) {k : Nat} (hx : ∀ i, i < k → ia + i < a.size → ib < b.size → kyA ky a (ia + i) ≤ kyA ky b ib) : MIA ky a b (out ++ a.extract ia (ia + k)) (ia + k) ib := by
  have := MI.takeA h k fun x hm y hy => by
    obtain ⟨j, j1, j2, j3⟩ := mem_run hm
    obtain ⟨i, i1, i2, i3⟩ := mem_rest hy
    rw [ky_of (ky := ky) j3, ky_of (ky := ky) i3]
    have i2 : i < b.size := by simpa using i2
    have j2 : ia + j < a.size := by simpa using j2
    have := hx j j1 j2 (by exact ar605 i1 i2)
    have := hsb ib i (by exact ar369) i1 i2
    exact ar570 (by assumption) this
  unfold MIA
  rw [Array.toList_append, Array.toList_extract, List.extract_eq_take_drop, show ia + k - ia = k from by exact ar680]
  exact this
theorem MIA.chunkB (h : MIA ky a b out ia ib) (hsa : Up ky a 0 a.size) {k : Nat} (hx : ∀ i, i < k → ib + i < b.size → ia < a.size → kyA ky b (ib + i) ≤ kyA ky a ia) : MIA ky a b (out ++ b.extract ib (ib + k)) ia (ib + k) := (h.swap.chunkA hsa hx).swap
theorem MIA.pushA (h : MIA ky a b out ia ib) (hsb : Up ky b 0 b.size) (hia : ia < a.size) (hx : ib < b.size → kyA ky a ia ≤ kyA ky b ib) : MIA ky a b (out.push a[ia]) (ia + 1) ib := by
  have := h.chunkA hsb (k := 1) fun i hi _ hb => by
    have : i = 0 := by exact ar188 hi
    subst this; exact hx hb
  have e : out ++ a.extract ia (ia + 1) = out.push a[ia] := by
    apply Array.toList_inj.mp
    rw [Array.toList_append, Array.toList_extract, List.extract_eq_take_drop, Array.toList_push, show ia + 1 - ia = 1 from by exact ar681]
    congr 1
    rw [List.drop_eq_getElem_cons (by simpa using hia)]
    simp
  rw [e] at this
  exact this
theorem MIA.pushB (h : MIA ky a b out ia ib) (hsa : Up ky a 0 a.size) (hib : ib < b.size) (hx : ia < a.size → kyA ky b ib ≤ kyA ky a ia) : MIA ky a b (out.push b[ib]) ia (ib + 1) := (h.swap.pushA hsa hib hx).swap
theorem rest_list (xs : Array Keyed) (i : Nat) : (xs.extract i).toList = xs.toList.drop i := by
  rw [Array.toList_extract, List.extract_eq_take_drop, List.take_of_length_le (by simp)]
theorem MIA.done (h : MIA ky a b out ia ib) (he : ib = b.size ∨ ia = a.size) : MR ky a b (out ++ a.extract ia ++ b.extract ib) := by
  unfold MR
  rw [Array.toList_append, Array.toList_append, rest_list, rest_list]
  rcases he with he | he
  · exact MI.doneB h (by simp; exact ar374 he)
  · exact MI.doneA h (by simp; exact ar374 he)
theorem MIA.last (h : MIA ky a b out ia ib) (he : ia + 1 = a.size) (hx : ∀ j, j < b.size → kyA ky b j ≤ kyA ky a (a.size - 1)) : MR ky a b (out ++ b.extract ib ++ a.extract ia) := by
  unfold MR
  rw [Array.toList_append, Array.toList_append, rest_list, rest_list]
  refine MI.lastA h fun x hm y hy => ?_
  obtain ⟨j, j1, j2, j3⟩ := mem_rest hm
  obtain ⟨i, i1, i2, i3⟩ := mem_rest hy
  rw [ky_of (ky := ky) j3, ky_of (ky := ky) i3]
  have i2 : i < a.size := by simpa using i2
  have := hx j (by simpa using j2)
  rw [show a.size - 1 = i from by exact ar682 i2 he i1] at this
  exact this
theorem MIA.start (ha : Up ky a 0 a.size) (hb : Up ky b 0 b.size) : MIA ky a b #[] 0 0 := MI.start ha.ups hb.ups
end
theorem Up.sub {ky : Value → Int} {xs : Array Keyed} {lo hi lo' hi' : Nat} (h : Up ky xs lo hi) (h1 : lo ≤ lo') (h2 : hi' ≤ hi) : Up ky xs lo' hi' := fun i j a b c => h i j (by exact ar540 h1 a) b (by exact ar207 c h2)
theorem gbR {ky : Value → Int} {k : Int} {xs : Array Keyed} {i : Nat} : gb ky false k xs i = true → kyA ky xs i ≤ k := fun h => by
  simp only [gb, Bool.false_eq_true, if_false, Bool.not_eq_true', decide_eq_false_iff_not] at h; exact ar574 h
theorem gbR' {ky : Value → Int} {k : Int} {xs : Array Keyed} {i : Nat} : gb ky false k xs i = false → k < kyA ky xs i := fun h => by
  simpa [gb] using h
theorem gbL {ky : Value → Int} {k : Int} {xs : Array Keyed} {i : Nat} : gb ky true k xs i = true → kyA ky xs i < k := fun h => by
  simpa [gb] using h
theorem gbL' {ky : Value → Int} {k : Int} {xs : Array Keyed} {i : Nat} : gb ky true k xs i = false → k ≤ kyA ky xs i := fun h => by
  simp only [gb, if_true, decide_eq_false_iff_not] at h; exact ar574 h
end Mine
end

section
open PySem PyProof.Rows
set_option Elab.async false
set_option linter.unusedVariables false
namespace Mine
section
variable {prog : Program} {w : World} {A : Around} {E : Value → Shared → Prop} {s : Shared} {ky : Value → Int} {ok : Value → Prop} {knd : SortKind}
theorem wp_jp {α β γ : Type} {m : StateT SortSt Sem α} {Q : α → SortSt → Prop} {st : SortSt} (jp : PUnit → β → γ → StateT SortSt Sem α) (P : β → γ → Prop)
    (h : ∀ r o i, P o i → wpS (model prog w) A E s (jp r o i) Q st) (k : (∀ r o i, P o i → wpS (model prog w) A E s (jp r o i) Q st) → wpS (model prog w) A E s m Q st) : wpS (model prog w) A E s m Q st := k h
theorem wp_jp1 {α : Type} {c : Prop} {d : Decidable c} {Q : α → SortSt → Prop} {st : SortSt} (jp : PUnit → Nat → StateT SortSt Sem α) {x y : Nat}
    (h : ∀ r g, wpS (model prog w) A E s (jp r g) Q st) : wpS (model prog w) A E s (@ite _ c d (jp ⟨⟩ x) (jp ⟨⟩ y)) Q st := wp_ite (fun _ => h _ _) (fun _ => h _ _)
theorem wp_gal {st st2 : SortSt} {α : Type} {m : StateT SortSt Sem PUnit} {f : PUnit → StateT SortSt Sem α} {g : Nat} {Q : α → SortSt → Prop} (hS : Same st st2) (hk : kindOf st = knd)
    (h : ∀ st3, Same st st3 → kindOf st3 = knd → wpS (model prog w) A E s (f ⟨⟩) Q st3) (e : m = modify fun q => SortSt.mk' (kindOf q) (arrOf q) (pendingOf q) g (failedOf q)) : wpS (model prog w) A E s (m >>= f) Q st2 := by
  rw [e]; exact wpS_bind (wpS_modify (h _ ⟨hS.arr, hS.kind, hS.failed, hS.pend⟩ (hS.kind.trans hk)))
theorem wp_eqb {α : Type} {m n : Nat} {d : Decidable ((m == n) = true)} {x y : StateT SortSt Sem α} {Q : α → SortSt → Prop} {st : SortSt} (h : m = n → wpS (model prog w) A E s x Q st) (k : ¬ m = n → wpS (model prog w) A E s y Q st) : wpS (model prog w) A E s (@ite _ ((m == n) = true) d x y) Q st :=
  wp_ite (fun e => h (beq_iff_eq.mp e)) (fun e => k (fun q => e (beq_iff_eq.mpr q)))
noncomputable abbrev LoI (ky : Value → Int) (a b : Array Keyed) (st : SortSt) (n : Nat) (c : Option (Array Keyed) × Array Keyed × Nat × Nat × Nat × Nat × Nat) (st3 : SortSt) : Prop :=
  Same st st3 ∧ ∃ out ia ib mg ac bc, c = (none, out, ia, ib, mg, ac, bc) ∧ MIA ky a b out ia ib ∧ ia + 1 < a.size ∧ ib < b.size ∧ n ≤ ia + ib
noncomputable abbrev LoQ (ky : Value → Int) (a b : Array Keyed) (st : SortSt) (n : Nat) (c : Option (Array Keyed) × Array Keyed × Nat × Nat × Nat × Nat × Nat) (st3 : SortSt) : Prop :=
  Same st st3 ∧ ((∃ o q, c = (some o, q) ∧ MR ky a b o) ∨ (∃ out ia ib mg ac bc, c = (none, out, ia, ib, mg, ac, bc) ∧ MIA ky a b out ia ib ∧ ia + 1 < a.size ∧ ib < b.size ∧ n ≤ ia + ib))
set_option maxHeartbeats 2000000
theorem wp_mergeLo {st : SortSt} {a b : Array Keyed} {Q : Array Keyed → SortSt → Prop} (hL : LtOk prog w A E s ky ok knd) (hk : kindOf st = knd) (hoa : Oks ok a) (hob : Oks ok b) (ha : 0 < a.size) (hb : 0 < b.size)
    (hsa : Up ky a 0 a.size) (hsb : Up ky b 0 b.size) (h0 : kyA ky b 0 ≤ kyA ky a 0) (h1 : ∀ j, j < b.size → kyA ky b j ≤ kyA ky a (a.size - 1))
    (h : ∀ out st', Same st st' → MR ky a b out → Q out st') :
    wpS (model prog w) A E s (mergeLo' a b) Q st := by
  unfold mergeLo'
  refine wpS_bind (wpS_lift (wpAny_rule ⟨rfl, ?_⟩))
  refine wpS_bind (wp_elem hb ?_)
  have hm0 : MIA ky a b #[b[0]] 0 1 := (MIA.start hsa hsb).pushB hsa hb (fun _ => h0)
  refine wp_eqb (m := 1) (fun e1 => wpS_pure (h _ _ (.refl _) (hm0.done (.inl e1)))) (fun e1 => ?_)
  refine wp_eqb (m := 0 + 1) (fun e2 => wpS_pure (h _ _ (.refl _) (hm0.last e2 h1))) (fun e2 => ?_)
  refine wpS_bind (wpS_get ?_)
  refine wpS_bind (wpS_mono (wpS_forRange (I := fun x c st' => Same st st' ∧ ∃ out ia ib mg, c = (none, out, ia, ib, mg) ∧ MIA ky a b out ia ib ∧ ia + 1 < a.size ∧ ib < b.size ∧ x + 1 ≤ ia + ib)
    (Q := fun c st' => Same st st' ∧ ∃ o q, c = (some o, q) ∧ MR ky a b o) ?_ ?_ ⟨.refl _, _, 0, 1, _, rfl, hm0, by exact ar683 ha e2, by exact ar684 hb e1, by exact ar685⟩) ?_)
  · rintro x c st' _ hx ⟨hS, out, ia, ib, mg, rfl, hm, hia, hib, hp⟩
    have hk1 : kindOf st' = knd := hS.kind.trans hk
    refine wpS_bind (wpS_mono (wpS_forRange (I := fun y c st2 => st2 = st' ∧ ∃ out ia ib ac bc, c = (none, out, ia, ib, ac, bc) ∧ MIA ky a b out ia ib ∧ ia + 1 < a.size ∧ ib < b.size ∧ x + 1 + y ≤ ia + ib)
      (Q := fun c st2 => st2 = st' ∧ ((∃ o q, c = (some o, q) ∧ MR ky a b o) ∨ (∃ out ia ib ac bc, c = (none, out, ia, ib, ac, bc) ∧ MIA ky a b out ia ib ∧ ia + 1 < a.size ∧ ib < b.size ∧ x + 1 ≤ ia + ib))) ?_ ?_ ⟨rfl, out, ia, ib, 0, 0, rfl, hm, hia, hib, by exact ar686 hp⟩) ?_)
    · clear hm hia hib hp
      rintro y c st2 _ hy ⟨rfl, out, ia, ib, ac, bc, rfl, hm, hia, hib, hp⟩
      have hia' : ia < a.size := by exact ar191 hia
      refine wpS_bind (wp_elem hib ?_)
      refine wpS_bind (wp_elem hia' ?_)
      refine wpS_bind (hL _ _ _ _ (hob.at hib) (hoa.at hia') hk1 ?_)
      rw [← kyA_at (ky := ky) hib, ← kyA_at (ky := ky) hia']
      cases hd : decide (kyA ky b ib < kyA ky a ia)
      · refine wp_neg Bool.false_ne_true ?_
        have hd := of_decide_eq_false hd
        refine wpS_bind (wp_elem hia' ?_)
        have hm2 := hm.pushA hsb hia' (fun _ => by exact ar574 hd)
        refine wp_eqb (m := ia + 1 + 1) (fun e3 => wpS_pure ⟨rfl, .inl ⟨_, _, rfl, hm2.last e3 h1⟩⟩) (fun e3 => ?_)
        refine wp_ite (fun _ => ?_) (fun _ => ?_)
        · exact wpS_pure ⟨rfl, .inr ⟨_, ia + 1, ib, _, _, rfl, hm2, by exact ar687 hia e3, hib, by exact ar688 hp⟩⟩
        · exact wpS_pure ⟨rfl, _, ia + 1, ib, _, _, rfl, hm2, by exact ar687 hia e3, hib, by exact ar689 hp⟩
      · refine wp_pos rfl ?_
        have hd := of_decide_eq_true hd
        refine wpS_bind (wp_elem hib ?_)
        have hm2 := hm.pushB hsa hib (fun _ => by exact ar182 hd)
        refine wp_eqb (m := ib + 1) (fun e3 => wpS_pure ⟨rfl, .inl ⟨_, _, rfl, hm2.done (.inl e3)⟩⟩) (fun e3 => ?_)
        refine wp_ite (fun _ => ?_) (fun _ => ?_)
        · exact wpS_pure ⟨rfl, .inr ⟨_, ia, ib + 1, _, _, rfl, hm2, hia, by exact ar690 hib e3, by exact ar691 hp⟩⟩
        · exact wpS_pure ⟨rfl, _, ia, ib + 1, _, _, rfl, hm2, hia, by exact ar690 hib e3, by exact ar692 hp⟩
    · rintro c st2 ⟨rfl, out, ia, ib, ac, bc, rfl, hm, hia, hib, hp⟩
      exfalso; exact ar693 hp hia hib
    · clear hm hia hib hp
      rintro c st2 ⟨rfl, ⟨o, q, rfl, ho⟩ | ⟨out, ia, ib, ac, bc, rfl, hm, hia, hib, hp⟩⟩
      · exact wpS_pure ⟨hS, o, _, rfl, ho⟩
      refine wpS_bind (wpS_lift (wpAny_rule ⟨rfl, ?_⟩))
      refine wpS_bind (wpS_mono (wpS_forRange (I := fun y c st3 => LoI ky a b st (x + 1 + y) c st3)
        (Q := fun c st3 => LoQ ky a b st (x + 2) c st3) ?_ ?_ ⟨hS, out, ia, ib, _, _, _, rfl, hm, hia, hib, by exact ar686 hp⟩) ?_)
      · clear hS hk1 hm hia hib hp
        rintro y c st2 _ hy ⟨hS, out, ia, ib, mg, ac, bc, rfl, hm, hia, hib, hp⟩
        dsimp -zeta only
        extract_lets _ out1 _ ia1 _ ib1 _ mg1 _ ac1 bc1 ibn jp
        refine wp_jp1 jp fun r g => wp_gal hS hk (g := g) (fun st3 hS2 hk2 => ?_) rfl
        refine wpS_bind (wp_elem hib ?_)
        refine wpS_bind (wp_gallop (base := ia) (n := a.size - ia) hL hk2 (hob.at hib) hoa (by exact ar694 hia) (by exact ar695 hia) (hsa.sub (by exact ar369) (by exact ar694 hia)) fun k hkk g1 g2 => ?_)
        rw [← kyA_at (ky := ky) hib] at g1 g2
        have hmk := hm.chunkA hsb (k := k) fun i i1 i2 i3 => gbR (g1 i i1)
        have hn1 : ia + k < a.size → kyA ky b ib < kyA ky a (ia + k) := fun q => gbR' (g2 k (Nat.le_refl _) (by exact ar696 q))
        dsimp -zeta only
        extract_lets ac2 jp2 out2 ia2
        refine wp_jp jp2 (fun o i => MIA ky a b o i ib ∧ i + 1 < a.size ∧ kyA ky b ib < kyA ky a i ∧ x + 1 + y ≤ i + ib) ?_ fun hj => ?_
        · rintro r o i ⟨hm1, hi1, hlt, hp1⟩
          have hi : i < a.size := by exact ar191 hi1
          refine wpS_bind (wp_elem hib ?_)
          have hm2 := hm1.pushB hsa hib (fun _ => by exact ar182 hlt)
          refine wp_eqb (m := ib + 1) (fun e3 => wpS_pure ⟨hS2, .inl ⟨_, _, rfl, hm2.done (.inl e3)⟩⟩) (fun e3 => ?_)
          refine wpS_bind (wp_elem hi ?_)
          refine wpS_bind (wp_gallop (base := ib + 1) (n := b.size - (ib + 1)) hL hk2 (hoa.at hi) hob (by exact ar697 hib) (by exact ar698 hib e3) (hsb.sub (by exact ar80) (by exact ar697 hib)) fun k2 hkk2 g3 g4 => ?_)
          rw [← kyA_at (ky := ky) hi] at g3 g4
          have hm3 := hm2.chunkB hsa (k := k2) fun i' i1 i2 i3 => by have := gbL (g3 i' i1); exact ar182 this
          have hn2 : ib + 1 + k2 < b.size → kyA ky a i ≤ kyA ky b (ib + 1 + k2) := fun q => gbL' (g4 k2 (Nat.le_refl _) (by exact ar699 q))
          dsimp -zeta only
          extract_lets bc2 ian jp3 out3 ib3
          refine wp_jp jp3 (fun o j => MIA ky a b o i j ∧ j < b.size ∧ kyA ky a i ≤ kyA ky b j ∧ ib + 1 ≤ j) ?_ fun hj3 => ?_
          · rintro r3 o3 j ⟨hm4, hj', hle, hp3⟩
            refine wpS_bind (wp_elem hi ?_)
            have hm5 := hm4.pushA hsb hi (fun _ => hle)
            refine wp_eqb (m := i + 1 + 1) (fun e5 => wpS_pure ⟨hS2, .inl ⟨_, _, rfl, hm5.last e5 h1⟩⟩) (fun e5 => ?_)
            refine wp_ite (fun _ => ?_) (fun _ => ?_)
            · exact wpS_pure ⟨hS2, .inr ⟨_, i + 1, j, _, _, _, rfl, hm5, by exact ar687 hi1 e5, hj', by exact ar700 hp1 hp3⟩⟩
            · exact wpS_pure ⟨hS2, _, i + 1, j, _, _, _, rfl, hm5, by exact ar687 hi1 e5, hj', by exact ar701 hp1 hp3⟩
          · by_cases c2 : k2 > 0
            · refine wp_pos c2 ?_
              exact wp_eqb (m := ib + 1 + k2) (fun e4 => wpS_pure ⟨hS2, .inl ⟨_, _, rfl, hm3.done (.inl e4)⟩⟩) (fun e4 => hj3 ⟨⟩ _ (ib + 1 + k2) ⟨hm3, by exact ar702 hib hkk2 e4, hn2 (by exact ar702 hib hkk2 e4), by exact ar703⟩)
            · have hk0 : k2 = 0 := by exact ar704 c2
              exact wp_neg c2 (hj3 ⟨⟩ _ (ib + 1) ⟨hm2, by exact ar690 hib e3, by have := hn2 (by exact ar705 hib c2 e3); rw [hk0] at this; exact this, Nat.le_refl _⟩)
        · by_cases c1 : k > 0
          · refine wp_pos c1 ?_
            refine wp_eqb (m := ia + k + 1) (fun e1 => wpS_pure ⟨hS2, .inl ⟨_, _, rfl, hmk.last e1 h1⟩⟩) (fun e1 => ?_)
            exact wp_eqb (m := ia + k) (fun e2 => wpS_pure ⟨hS2, .inl ⟨_, _, rfl, hmk.done (.inr e2)⟩⟩) (fun e2 => hj ⟨⟩ _ (ia + k) ⟨hmk, by exact ar706 hia hkk e1 e2, hn1 (by exact ar707 hia hkk e2), by exact ar708 hp⟩)
          · have hk0 : k = 0 := by exact ar704 c1
            exact wp_neg c1 (hj ⟨⟩ _ ia ⟨hm, hia, by have := hn1 (by exact ar709 hia c1); rw [hk0] at this; exact this, hp⟩)
      · rintro c st3 ⟨_, out, ia, ib, mg, ac, bc, rfl, hm, hia, hib, hp⟩
        exfalso; exact ar693 hp hia hib
      · rintro c st3 ⟨hS3, ⟨o, q, rfl, ho⟩ | ⟨out, ia, ib, mg, ac, bc, rfl, hm, hia, hib, hp⟩⟩
        · exact wpS_pure ⟨hS3, o, _, rfl, ho⟩
        refine wpS_bind (wpS_modify (wpS_pure ⟨⟨hS3.arr, hS3.kind, hS3.failed, hS3.pend⟩, _, ia, ib, _, rfl, hm, hia, hib, by exact ar710 hp⟩))
  · rintro c st' ⟨_, out, ia, ib, mg, rfl, hm, hia, hib, hp⟩
    exfalso; exact ar711 hp hia hib
  · rintro c st' ⟨hS, o, q, rfl, ho⟩
    exact wpS_pure (h o st' hS ho)
end
end Mine
end

section
open PySem PyProof.Rows
set_option Elab.async false
set_option linter.unusedVariables false
namespace Mine
/-! ## two sorted lists merged from the end -/
structure MH (ky : Value → Int) (a b O : List Keyed) (na nb : Nat) : Prop where
  sa : Ups ky (a.take na ++ O)
  sb : Ups ky (b.take nb ++ O)
  perm : (a.take na ++ b.take nb ++ O).Perm (a ++ b)
section
variable {ky : Value → Int} {a b O : List Keyed} {na nb : Nat}
theorem MH.swap (h : MH ky a b O na nb) : MH ky b a O nb na :=
  ⟨h.sb, h.sa, ((List.perm_append_comm).append_right O).trans (h.perm.trans List.perm_append_comm)⟩
theorem MH.takeA (h : MH ky a b O na nb) (k : Nat) (hk : k ≤ na) (hx : ∀ x ∈ (a.take na).drop k, ∀ y ∈ b.take nb, ky y.1 ≤ ky x.1) : MH ky a b ((a.take na).drop k ++ O) k nb := by
  have e0 : a.take k ++ (a.take na).drop k = a.take na := by
    have := List.take_append_drop k (a.take na)
    rwa [List.take_take, Nat.min_eq_left hk] at this
  have e : a.take k ++ ((a.take na).drop k ++ O) = a.take na ++ O := by rw [← List.append_assoc, e0]
  have h1 := h.sa
  have h2 := h.sb
  refine ⟨by rw [e]; exact h1, ?_, ?_⟩
  · unfold Ups at *
    rw [← e, List.pairwise_append] at h1
    rw [List.pairwise_append] at h2 ⊢
    refine ⟨h2.1, h1.2.1, fun x hm y hy => ?_⟩
    rcases List.mem_append.mp hy with q | q
    · exact hx y q x hm
    · exact h2.2.2 x hm y q
  · refine List.Perm.trans ?_ h.perm
    generalize (a.take na).drop k = C at *
    rw [← e0]
    have q : (b.take nb ++ C).Perm (C ++ b.take nb) := List.perm_append_comm
    have q2 := (q.append_left (a.take k)).append_right O
    simpa [List.append_assoc] using q2
end
noncomputable def MHA (ky : Value → Int) (a b out : Array Keyed) (na nb : Nat) : Prop := MH ky a.toList b.toList out.toList.reverse na nb
section
variable {ky : Value → Int} {a b out : Array Keyed} {na nb : Nat}
theorem MHA.swap (h : MHA ky a b out na nb) : MHA ky b a out nb na := MH.swap h
theorem mem_front {l : List Keyed} {i : Nat} {x : Keyed} (h : x ∈ l.take i) : ∃ j, j < i ∧ j < l.length ∧ l[j]? = some x := by
  obtain ⟨j, hj⟩ := List.mem_iff_getElem?.mp h
  have hjk : j < i := by
    by_cases q : j < i
    · exact q
    · rw [List.getElem?_take_eq_none (by exact ar679 q)] at hj; cases hj
  rw [List.getElem?_take_of_lt hjk] at hj
  obtain ⟨hlt, _⟩ := List.getElem?_eq_some_iff.mp hj
  exact ⟨j, hjk, hlt, hj⟩
theorem mem_mid {l : List Keyed} {i k : Nat} {x : Keyed} (h : x ∈ (l.take i).drop k) : ∃ j, k ≤ j ∧ j < i ∧ j < l.length ∧ l[j]? = some x := by
  obtain ⟨j, j1, j2, j3⟩ := mem_rest h
  have hjk : j < i := by rw [List.length_take] at j2; exact ar712 j2
  rw [List.getElem?_take_of_lt hjk] at j3
  exact ⟨j, j1, hjk, by rw [List.length_take] at j2; exact ar713 j2, j3⟩
theorem MHA.chunkA (h : MHA ky a b out na nb) (hsb : Up ky b 0 b.size) {k : Nat} (hk : k ≤ na) (hna : na ≤ a.size) (hx : ∀ i, k ≤ i → i < na → 0 < nb → kyA ky b (nb - 1) ≤ kyA ky a i) (hnb : nb ≤ b.size := by omega) : MHA ky a b (out ++ (a.extract k na).reverse) k nb := by
  have := MH.takeA h k hk fun x hm y hy => by
    obtain ⟨j, j1, j2, j3, j4⟩ := mem_mid hm
    obtain ⟨i, i1, i2, i3⟩ := mem_front hy
    rw [ky_of (ky := ky) j4, ky_of (ky := ky) i3]
    have i2 : i < b.size := by simpa using i2
    have := hx j j1 j2 (by exact ar16 i1)
    have := hsb i (nb - 1) (by exact ar369) (by exact ar37 i1) (by exact ar714 hnb i1)
    exact ar570 this (by assumption)
  unfold MHA
  rw [Array.toList_append, Array.toList_reverse, Array.toList_extract, List.reverse_append, List.reverse_reverse, List.extract_eq_take_drop, ← List.drop_take]
  exact this
theorem MHA.chunkB (h : MHA ky a b out na nb) (hsa : Up ky a 0 a.size) {k : Nat} (hk : k ≤ nb) (hnb : nb ≤ b.size) (hx : ∀ i, k ≤ i → i < nb → 0 < na → kyA ky a (na - 1) ≤ kyA ky b i) (hna : na ≤ a.size := by omega) : MHA ky a b (out ++ (b.extract k nb).reverse) na k := (h.swap.chunkA hsa hk hnb hx hna).swap
theorem MHA.pushA (h : MHA ky a b out na nb) (hsb : Up ky b 0 b.size) (hna : na - 1 < a.size) (hna0 : 0 < na) (hx : 0 < nb → kyA ky b (nb - 1) ≤ kyA ky a (na - 1)) (hnb : nb ≤ b.size := by omega) : MHA ky a b (out.push a[na - 1]) (na - 1) nb := by
  have := h.chunkA hsb (k := na - 1) (by exact ar715) (by exact ar716 hna) (fun i i1 i2 q => by
    have : i = na - 1 := by exact ar717 i2 i1
    subst this; exact hx q) hnb
  have e : out ++ (a.extract (na - 1) na).reverse = out.push a[na - 1] := by
    apply Array.toList_inj.mp
    rw [Array.toList_append, Array.toList_reverse, Array.toList_extract, List.extract_eq_take_drop, Array.toList_push, show na - (na - 1) = 1 from by exact ar718 hna0]
    congr 1
    rw [List.drop_eq_getElem_cons (by simpa using hna)]
    simp
  rw [e] at this
  exact this
theorem MHA.pushB (h : MHA ky a b out na nb) (hsa : Up ky a 0 a.size) (hnb : nb - 1 < b.size) (hnb0 : 0 < nb) (hx : 0 < na → kyA ky a (na - 1) ≤ kyA ky b (nb - 1)) (hna : na ≤ a.size := by omega) : MHA ky a b (out.push b[nb - 1]) na (nb - 1) := (h.swap.pushA hsa hnb hnb0 hx hna).swap
theorem front_list (xs : Array Keyed) (i : Nat) : (xs.extract 0 i).toList = xs.toList.take i := by
  rw [Array.toList_extract, List.extract_eq_take_drop, List.drop_zero, Nat.sub_zero]
theorem MHA.done (h : MHA ky a b out na nb) (he : na = 0 ∨ nb = 0) : MR ky a b (a.extract 0 na ++ b.extract 0 nb ++ out.reverse) := by
  unfold MR
  rw [Array.toList_append, Array.toList_append, front_list, front_list, Array.toList_reverse]
  refine ⟨?_, MH.perm h⟩
  rcases he with rfl | rfl
  · rw [List.take_zero, List.nil_append]; exact MH.sb h
  · rw [List.take_zero, List.append_nil]; exact MH.sa h
theorem MHA.first (h : MHA ky a b out na nb) (he : nb = 1) (hx : ∀ j, j < a.size → kyA ky b 0 ≤ kyA ky a j) : MR ky a b (b.extract 0 nb ++ a.extract 0 na ++ out.reverse) := by
  unfold MR
  rw [Array.toList_append, Array.toList_append, front_list, front_list, Array.toList_reverse]
  refine ⟨?_, (MH.perm (MHA.swap h)).trans List.perm_append_comm⟩
  have h1 := MH.sa h
  have h2 := MH.sb h
  unfold Ups at *
  rw [List.append_assoc, List.pairwise_append]
  rw [List.pairwise_append] at h2
  refine ⟨h2.1, h1, fun x hm y hy => ?_⟩
  rcases List.mem_append.mp hy with q | q
  · obtain ⟨j, j1, j2, j3⟩ := mem_front hm
    obtain ⟨i, i1, i2, i3⟩ := mem_front q
    rw [ky_of (ky := ky) j3, ky_of (ky := ky) i3]
    have : j = 0 := by exact ar719 j1 he
    subst this
    exact hx i (by simpa using i2)
  · exact h2.2.2 x hm y q
theorem MHA.start (ha : Up ky a 0 a.size) (hb : Up ky b 0 b.size) : MHA ky a b #[] a.size b.size := by
  refine ⟨?_, ?_, ?_⟩
  · rw [List.take_of_length_le (by simp)]; simpa using ha.ups
  · rw [List.take_of_length_le (by simp)]; simpa using hb.ups
  · rw [List.take_of_length_le (by simp), List.take_of_length_le (by simp)]; simp
end
section
variable {prog : Program} {w : World} {A : Around} {E : Value → Shared → Prop} {s : Shared} {ky : Value → Int} {ok : Value → Prop} {knd : SortKind}
noncomputable abbrev HiI (ky : Value → Int) (a b : Array Keyed) (st : SortSt) (n : Nat) (c : Option (Array Keyed) × Nat × Nat × Array Keyed × Nat × Nat × Nat) (st3 : SortSt) : Prop :=
  Same st st3 ∧ ∃ out na nb mg ac bc, c = (none, na, nb, out, mg, ac, bc) ∧ MHA ky a b out na nb ∧ 0 < na ∧ na ≤ a.size ∧ 1 < nb ∧ nb ≤ b.size ∧ n + na + nb ≤ a.size + b.size
noncomputable abbrev HiQ (ky : Value → Int) (a b : Array Keyed) (st : SortSt) (n : Nat) (c : Option (Array Keyed) × Nat × Nat × Array Keyed × Nat × Nat × Nat) (st3 : SortSt) : Prop :=
  Same st st3 ∧ ((∃ o q, c = (some o, q) ∧ MR ky a b o) ∨ (∃ out na nb mg ac bc, c = (none, na, nb, out, mg, ac, bc) ∧ MHA ky a b out na nb ∧ 0 < na ∧ na ≤ a.size ∧ 1 < nb ∧ nb ≤ b.size ∧ n + na + nb ≤ a.size + b.size))
set_option maxHeartbeats 2000000
theorem wp_mergeHi {st : SortSt} {a b : Array Keyed} {Q : Array Keyed → SortSt → Prop} (hL : LtOk prog w A E s ky ok knd) (hk : kindOf st = knd) (hoa : Oks ok a) (hob : Oks ok b) (ha : 0 < a.size) (hb : 0 < b.size)
    (hsa : Up ky a 0 a.size) (hsb : Up ky b 0 b.size) (h0 : kyA ky b (b.size - 1) ≤ kyA ky a (a.size - 1)) (h1 : ∀ j, j < a.size → kyA ky b 0 ≤ kyA ky a j)
    (h : ∀ out st', Same st st' → MR ky a b out → Q out st') :
    wpS (model prog w) A E s (mergeHi' a b) Q st := by
  unfold mergeHi'
  refine wpS_bind (wpS_lift (wpAny_rule ⟨rfl, ?_⟩))
  have ha1 : a.size - 1 < a.size := by exact ar26 ha
  refine wpS_bind (wp_elem ha1 ?_)
  have hm0 : MHA ky a b #[a[a.size - 1]] (a.size - 1) b.size := (MHA.start hsa hsb).pushA hsb ha1 ha (fun _ => h0)
  refine wp_eqb (m := a.size - 1) (fun e1 => wpS_pure (h _ _ (.refl _) (hm0.done (.inl e1)))) (fun e1 => ?_)
  refine wp_eqb (m := b.size) (fun e2 => wpS_pure (h _ _ (.refl _) (hm0.first e2 h1))) (fun e2 => ?_)
  refine wpS_bind (wpS_get ?_)
  refine wpS_bind (wpS_mono (wpS_forRange (I := fun x c st' => Same st st' ∧ ∃ out na nb mg, c = (none, na, nb, out, mg) ∧ MHA ky a b out na nb ∧ 0 < na ∧ na ≤ a.size ∧ 1 < nb ∧ nb ≤ b.size ∧ x + 1 + na + nb ≤ a.size + b.size)
    (Q := fun c st' => Same st st' ∧ ∃ o q, c = (some o, q) ∧ MR ky a b o) ?_ ?_ ⟨.refl _, _, a.size - 1, b.size, _, rfl, hm0, by exact ar720 e1, by exact ar715, by exact ar721 hb e2, by exact ar578, by exact ar722 ha1⟩) ?_)
  · rintro x c st' _ hx ⟨hS, out, na, nb, mg, rfl, hm, hna, hna2, hnb, hnb2, hp⟩
    have hk1 : kindOf st' = knd := hS.kind.trans hk
    refine wpS_bind (wpS_mono (wpS_forRange (I := fun y c st2 => st2 = st' ∧ ∃ out na nb ac bc, c = (none, na, nb, out, ac, bc) ∧ MHA ky a b out na nb ∧ 0 < na ∧ na ≤ a.size ∧ 1 < nb ∧ nb ≤ b.size ∧ x + 1 + y + na + nb ≤ a.size + b.size)
      (Q := fun c st2 => st2 = st' ∧ ((∃ o q, c = (some o, q) ∧ MR ky a b o) ∨ (∃ out na nb ac bc, c = (none, na, nb, out, ac, bc) ∧ MHA ky a b out na nb ∧ 0 < na ∧ na ≤ a.size ∧ 1 < nb ∧ nb ≤ b.size ∧ x + 1 + na + nb ≤ a.size + b.size))) ?_ ?_ ⟨rfl, out, na, nb, 0, 0, rfl, hm, hna, hna2, hnb, hnb2, by exact ar723 hp⟩) ?_)
    · clear hm hna hna2 hnb hnb2 hp
      rintro y c st2 _ hy ⟨rfl, out, na, nb, ac, bc, rfl, hm, hna, hna2, hnb, hnb2, hp⟩
      have hna1 : na - 1 < a.size := by exact ar549 hna hna2
      have hnb1 : nb - 1 < b.size := by exact ar724 hnb hnb2
      refine wpS_bind (wp_elem hnb1 ?_)
      refine wpS_bind (wp_elem hna1 ?_)
      refine wpS_bind (hL _ _ _ _ (hob.at hnb1) (hoa.at hna1) hk1 ?_)
      rw [← kyA_at (ky := ky) hnb1, ← kyA_at (ky := ky) hna1]
      cases hd : decide (kyA ky b (nb - 1) < kyA ky a (na - 1))
      · refine wp_neg Bool.false_ne_true ?_
        have hd := of_decide_eq_false hd
        refine wpS_bind (wp_elem hnb1 ?_)
        have hm2 := hm.pushB hsa hnb1 (by exact ar725 hnb) (fun _ => by exact ar574 hd)
        refine wp_eqb (m := nb - 1) (fun e3 => wpS_pure ⟨rfl, .inl ⟨_, _, rfl, hm2.first e3 h1⟩⟩) (fun e3 => ?_)
        refine wp_ite (fun _ => ?_) (fun _ => ?_)
        · exact wpS_pure ⟨rfl, .inr ⟨_, na, nb - 1, _, _, rfl, hm2, hna, hna2, by exact ar726 hnb e3, by exact ar727 hnb1, by exact ar728 hp⟩⟩
        · exact wpS_pure ⟨rfl, _, na, nb - 1, _, _, rfl, hm2, hna, hna2, by exact ar726 hnb e3, by exact ar727 hnb1, by exact ar729 hnb hp⟩
      · refine wp_pos rfl ?_
        have hd := of_decide_eq_true hd
        refine wpS_bind (wp_elem hna1 ?_)
        have hm2 := hm.pushA hsb hna1 hna (fun _ => by exact ar182 hd)
        refine wp_eqb (m := na - 1) (fun e3 => wpS_pure ⟨rfl, .inl ⟨_, _, rfl, hm2.done (.inl e3)⟩⟩) (fun e3 => ?_)
        refine wp_ite (fun _ => ?_) (fun _ => ?_)
        · exact wpS_pure ⟨rfl, .inr ⟨_, na - 1, nb, _, _, rfl, hm2, by exact ar720 e3, by exact ar727 hna1, hnb, hnb2, by exact ar730 hp⟩⟩
        · exact wpS_pure ⟨rfl, _, na - 1, nb, _, _, rfl, hm2, by exact ar720 e3, by exact ar727 hna1, hnb, hnb2, by exact ar731 hp e3⟩
    · rintro c st2 ⟨rfl, out, na, nb, ac, bc, rfl, hm, hna, hna2, hnb, hnb2, hp⟩
      exfalso; exact ar732 hp
    · clear hm hna hna2 hnb hnb2 hp
      rintro c st2 ⟨rfl, ⟨o, q, rfl, ho⟩ | ⟨out, na, nb, ac, bc, rfl, hm, hna, hna2, hnb, hnb2, hp⟩⟩
      · exact wpS_pure ⟨hS, o, _, rfl, ho⟩
      refine wpS_bind (wpS_lift (wpAny_rule ⟨rfl, ?_⟩))
      refine wpS_bind (wpS_mono (wpS_forRange (I := fun y c st3 => HiI ky a b st (x + 1 + y) c st3)
        (Q := fun c st3 => HiQ ky a b st (x + 2) c st3) ?_ ?_ ⟨hS, out, na, nb, _, _, _, rfl, hm, hna, hna2, hnb, hnb2, by exact ar723 hp⟩) ?_)
      · clear hS hk1 hm hna hna2 hnb hnb2 hp
        rintro y c st2 _ hy ⟨hS, out, na, nb, mg, ac, bc, rfl, hm, hna, hna2, hnb, hnb2, hp⟩
        have hnb1 : nb - 1 < b.size := by exact ar724 hnb hnb2
        dsimp -zeta only
        extract_lets _ na1 _ nb1 _ out1 _ mg1 _ ac1 bc1 nbn jp
        refine wp_jp1 jp fun r g => wp_gal hS hk (g := g) (fun st3 hS2 hk2 => ?_) rfl
        refine wpS_bind (wp_elem hnb1 ?_)
        refine wpS_bind (wp_gallop (base := 0) (n := na) (hint := na - 1) hL hk2 (hob.at hnb1) hoa (by exact ar733 hna2) (by exact ar26 hna) (hsa.sub (by exact ar83) (by exact ar733 hna2)) fun at1 hat1 g1 g2 => ?_)
        rw [← kyA_at (ky := ky) hnb1] at g1 g2
        simp only [Nat.zero_add] at g1 g2
        have hmk := hm.chunkA hsb (k := at1) hat1 hna2 fun i i1 i2 _ => by have := gbR' (g2 i i1 i2); exact ar182 this
        have hn1 : 0 < at1 → kyA ky a (at1 - 1) ≤ kyA ky b (nb - 1) := fun q => gbR (g1 (at1 - 1) (by exact ar26 q))
        dsimp -zeta only
        extract_lets k1 ac2 jp2 out2 na2
        refine wp_jp jp2 (fun i o => MHA ky a b o i nb ∧ 0 < i ∧ i ≤ na ∧ kyA ky a (i - 1) ≤ kyA ky b (nb - 1)) ?_ fun hj => ?_
        · rintro r i o ⟨hm1, hi, hi2, hle⟩
          have hi1 : i - 1 < a.size := by exact ar734 hi hi2 hna2
          refine wpS_bind (wp_elem hnb1 ?_)
          have hm2 := hm1.pushB hsa hnb1 (by exact ar725 hnb) (fun _ => hle)
          refine wp_eqb (m := nb - 1) (fun e3 => wpS_pure ⟨hS2, .inl ⟨_, _, rfl, hm2.first e3 h1⟩⟩) (fun e3 => ?_)
          refine wpS_bind (wp_elem hi1 ?_)
          refine wpS_bind (wp_gallop (base := 0) (n := nb - 1) (hint := nb - 1 - 1) hL hk2 (hoa.at hi1) hob (by exact ar735 hnb1) (by exact ar736 hnb) (hsb.sub (by exact ar83) (by exact ar735 hnb1)) fun at2 hat2 g3 g4 => ?_)
          rw [← kyA_at (ky := ky) hi1] at g3 g4
          simp only [Nat.zero_add] at g3 g4
          have hm3 := hm2.chunkB hsa (k := at2) hat2 (by exact ar727 hnb1) fun i' i1 i2 _ => gbL' (g4 i' i1 i2)
          have hn2 : 0 < at2 → kyA ky b (at2 - 1) ≤ kyA ky a (i - 1) := fun q => by have := gbL (g3 (at2 - 1) (by exact ar26 q)); exact ar182 this
          dsimp -zeta only
          extract_lets k2 bc2 nan jp3 out3 nb3
          refine wp_jp jp3 (fun j o => MHA ky a b o i j ∧ 1 < j ∧ j ≤ nb - 1 ∧ kyA ky b (j - 1) ≤ kyA ky a (i - 1)) ?_ fun hj3 => ?_
          · rintro r3 j o3 ⟨hm4, hj1, hj2, hle2⟩
            refine wpS_bind (wp_elem hi1 ?_)
            have hm5 := hm4.pushA hsb hi1 hi (fun _ => hle2)
            refine wp_eqb (m := i - 1) (fun e5 => wpS_pure ⟨hS2, .inl ⟨_, _, rfl, hm5.done (.inl e5)⟩⟩) (fun e5 => ?_)
            refine wp_ite (fun _ => ?_) (fun _ => ?_)
            · exact wpS_pure ⟨hS2, .inr ⟨_, i - 1, j, _, _, _, rfl, hm5, by exact ar720 e5, by exact ar727 hi1, hj1, by exact ar737 hj2 hnb1, by exact ar738 hp hi2 hj2 e5⟩⟩
            · exact wpS_pure ⟨hS2, _, i - 1, j, _, _, _, rfl, hm5, by exact ar720 e5, by exact ar727 hi1, hj1, by exact ar737 hj2 hnb1, by exact ar739 hp hi2 hj2 e5⟩
          · by_cases c2 : nb - 1 - at2 > 0
            · refine wp_pos c2 ?_
              exact wp_eqb (m := at2) (fun e4 => wpS_pure ⟨hS2, .inl ⟨_, _, rfl, hm3.first e4 h1⟩⟩) (fun e4 =>
                wp_eqb (m := at2) (fun e6 => wpS_pure ⟨hS2, .inl ⟨_, _, rfl, hm3.done (.inr e6)⟩⟩) (fun e6 => hj3 ⟨⟩ at2 _ ⟨hm3, by exact ar740 e6 e4, by exact hat2, hn2 (by exact ar197 e6)⟩))
            · have hk0 : at2 = nb - 1 := by exact ar741 hat2 c2
              exact wp_neg c2 (hj3 ⟨⟩ (nb - 1) _ ⟨hm2, by exact ar726 hnb e3, Nat.le_refl _, by have := hn2 (by exact ar742 hnb c2); rw [hk0] at this; exact this⟩)
        · by_cases c1 : na - at1 > 0
          · refine wp_pos c1 ?_
            exact wp_eqb (m := at1) (fun e1 => wpS_pure ⟨hS2, .inl ⟨_, _, rfl, hmk.done (.inl e1)⟩⟩) (fun e1 => hj ⟨⟩ at1 _ ⟨hmk, by exact ar197 e1, hat1, hn1 (by exact ar197 e1)⟩)
          · have hk0 : at1 = na := by exact ar743 hat1 c1
            exact wp_neg c1 (hj ⟨⟩ na _ ⟨hm, hna, Nat.le_refl _, by have := hn1 (by exact ar744 hna hk0); rw [hk0] at this; exact this⟩)
      · rintro c st3 ⟨_, out, na, nb, mg, ac, bc, rfl, hm, hna, hna2, hnb, hnb2, hp⟩
        exfalso; exact ar732 hp
      · rintro c st3 ⟨hS3, ⟨o, q, rfl, ho⟩ | ⟨out, na, nb, mg, ac, bc, rfl, hm, hna, hna2, hnb, hnb2, hp⟩⟩
        · exact wpS_pure ⟨hS3, o, _, rfl, ho⟩
        refine wpS_bind (wpS_modify (wpS_pure ⟨⟨hS3.arr, hS3.kind, hS3.failed, hS3.pend⟩, _, na, nb, _, rfl, hm, hna, hna2, hnb, hnb2, by exact ar745 hp⟩))
  · rintro c st' ⟨_, out, na, nb, mg, rfl, hm, hna, hna2, hnb, hnb2, hp⟩
    exfalso; exact ar746 hp
  · rintro c st' ⟨hS, o, q, rfl, ho⟩
    exact wpS_pure (h o st' hS ho)
end
end Mine
end

section
open PySem PyProof.Rows
set_option Elab.async false
set_option linter.unusedVariables false
namespace Mine
theorem put_at (sa : Nat) : ∀ (l : List Keyed) (k : Nat) (xs : Array Keyed), sa + k + l.length ≤ xs.size →
    ∀ i, ((l.zipIdx k).foldl (fun (a : Array Keyed) (pj : Keyed × Nat) => a.setIfInBounds (sa + pj.2) pj.1) xs)[i]? = if sa + k ≤ i ∧ i < sa + k + l.length then l[i - (sa + k)]? else xs[i]?
  | [], k, xs, _, i => by rw [if_neg (by simp; try omega)]; rfl
  | p :: l, k, xs, h, i => by
    rw [List.length_cons] at h
    rw [List.zipIdx_cons, List.foldl_cons, put_at sa l (k + 1) _ (by rw [Array.size_setIfInBounds]; exact ar747 h)]
    dsimp only
    rw [Array.getElem?_setIfInBounds, List.length_cons]
    by_cases h1 : sa + (k + 1) ≤ i ∧ i < sa + (k + 1) + l.length
    · rw [if_pos h1, if_pos (by exact ar748 h1)]
      rw [show i - (sa + k) = (i - (sa + (k + 1))) + 1 from by exact ar749 h1, List.getElem?_cons_succ]
    · rw [if_neg h1]
      by_cases h2 : sa + k = i
      · rw [if_pos h2, if_pos (by exact ar750 h), if_pos (by exact ar751 h2), show i - (sa + k) = 0 from by exact ar752 h2]; rfl
      · rw [if_neg h2, if_neg (by exact ar753 h1 h2)]
theorem put_list {sa : Nat} {l : List Keyed} {xs : Array Keyed} (h : sa + l.length ≤ xs.size) :
    (l.zipIdx.foldl (fun (a : Array Keyed) (pj : Keyed × Nat) => a.setIfInBounds (sa + pj.2) pj.1) xs).toList = xs.toList.take sa ++ (l ++ xs.toList.drop (sa + l.length)) := by
  refine List.ext_getElem? fun i => ?_
  rw [Array.getElem?_toList, put_at sa l 0 xs (by exact ar754 h)]
  have hl : (xs.toList.take sa).length = sa := by rw [List.length_take]; simp; exact ar755 h
  rcases Nat.lt_or_ge i sa with q | q
  · rw [if_neg (by exact ar756 q), List.getElem?_append_left (by exact ar757 q hl), List.getElem?_take_of_lt q, Array.getElem?_toList]
  · rw [List.getElem?_append_right (by exact ar758 hl q), hl]
    rcases Nat.lt_or_ge i (sa + l.length) with q2 | q2
    · rw [if_pos (by exact ar759 q q2), List.getElem?_append_left (by exact ar462 q2 q)]; rfl
    · rw [if_neg (by exact ar760 q2), List.getElem?_append_right (by exact ar391 q2), List.getElem?_drop, Array.getElem?_toList]
      congr 1; exact ar761 q2
theorem Up.join {ky : Value → Int} {xs : Array Keyed} {m n : Nat} (h1 : Up ky xs 0 m) (h2 : Up ky xs m n) (h : 0 < m → m < n → kyA ky xs (m - 1) ≤ kyA ky xs m) : Up ky xs 0 n := by
  intro i j a b c
  rcases Nat.lt_or_ge j m with q | q
  · exact h1 i j a b q
  · rcases Nat.lt_or_ge i m with r | r
    · have := h1 i (m - 1) a (by exact ar37 r) (by exact ar569 r)
      have := h2 m j (Nat.le_refl _) q c
      have := h (by exact ar16 r) (by exact ar605 q c)
      exact ar762 (by assumption) this (by assumption)
    · exact h2 i j r b c
theorem mid_ups {ky : Value → Int} {xs : Array Keyed} {M : List Keyed} {k n1 nb : Nat} (hk : k ≤ n1) (hn : n1 + nb ≤ xs.size) (hnb : 0 < nb) (h1 : Up ky xs 0 n1) (h2 : Up ky xs n1 xs.size)
    (hM : Ups ky M) (hp : M.Perm ((xs.toList.take n1).drop k ++ (xs.toList.drop n1).take nb)) (hx : 0 < k → kyA ky xs (k - 1) ≤ kyA ky xs n1) (hy : k < n1 → ∀ i, n1 + nb ≤ i → i < xs.size → kyA ky xs (n1 - 1) ≤ kyA ky xs i) :
    Ups ky (xs.toList.take k ++ (M ++ xs.toList.drop (n1 + nb))) ∧ (xs.toList.take k ++ (M ++ xs.toList.drop (n1 + nb))).Perm xs.toList := by
  have e1 : xs.toList.take k ++ (xs.toList.take n1).drop k = xs.toList.take n1 := by
    have := List.take_append_drop k (xs.toList.take n1)
    rwa [List.take_take, Nat.min_eq_left hk] at this
  have e2 : (xs.toList.drop n1).take nb ++ xs.toList.drop (n1 + nb) = xs.toList.drop n1 := by rw [← List.drop_drop, List.take_append_drop]
  have hall := List.take_append_drop n1 xs.toList
  have hsz : xs.toList.length = xs.size := by simp
  have hall2 : Ups ky (xs.toList.take n1) ∧ Ups ky (xs.toList.drop n1) := by
    constructor
    · unfold Ups
      rw [List.pairwise_iff_getElem]
      intro i j hi hj hij
      rw [List.length_take] at hi hj
      have := h1 i j (by exact ar369) (by exact ar138 hij) (by exact ar712 hj)
      rw [kyA_at (show i < xs.size by exact ar713 hi), kyA_at (show j < xs.size by exact ar713 hj)] at this
      simpa using this
    · unfold Ups
      rw [List.pairwise_iff_getElem]
      intro i j hi hj hij
      rw [List.length_drop] at hi hj
      have := h2 (n1 + i) (n1 + j) (by exact ar563) (by exact ar763 hij) (by exact ar764 hj)
      rw [kyA_at (show n1 + i < xs.size by exact ar764 hi), kyA_at (show n1 + j < xs.size by exact ar764 hj)] at this
      simpa using this
  refine ⟨?_, ?_⟩
  · obtain ⟨ha, hb⟩ := hall2
    unfold Ups at *
    rw [← e1, List.pairwise_append] at ha
    rw [← e2, List.pairwise_append] at hb
    have inM : ∀ x ∈ M, x ∈ (xs.toList.take n1).drop k ∨ x ∈ (xs.toList.drop n1).take nb := fun x hm => List.mem_append.mp (hp.mem_iff.mp hm)
    rw [List.pairwise_append, List.pairwise_append]
    refine ⟨ha.1, ⟨hM, hb.2.1, fun x hm y hy' => ?_⟩, fun x hm y hy' => ?_⟩
    · rcases inM x hm with q | q
      · obtain ⟨j, j1, j2, j3, j4⟩ := mem_mid q
        obtain ⟨i, i1, i2, i3⟩ := mem_rest hy'
        rw [ky_of (ky := ky) j4, ky_of (ky := ky) i3]
        have := h1 j (n1 - 1) (by exact ar369) (by exact ar37 j2) (by exact ar569 j2)
        have := hy (by exact ar605 j1 j2) i i1 (by exact i2)
        exact ar570 (by assumption) this
      · exact hb.2.2 x q y hy'
    · obtain ⟨j, j1, j2, j3⟩ := mem_front hm
      rcases List.mem_append.mp hy' with q | q
      · rcases inM y q with r | r
        · exact ha.2.2 x hm y r
        · obtain ⟨i, i1, i2, i3⟩ := mem_run r
          rw [ky_of (ky := ky) j3, ky_of (ky := ky) i3]
          have := h1 j (k - 1) (by exact ar369) (by exact ar37 j1) (by exact ar714 hk j1)
          have := hx (by exact ar16 j1)
          have := h2 n1 (n1 + i) (by exact ar578) (by exact ar563) (by exact i2)
          exact ar762 (by assumption) (by assumption) this
      · obtain ⟨i, i1, i2, i3⟩ := mem_rest q
        rw [ky_of (ky := ky) j3, ky_of (ky := ky) i3]
        have := h1 j (k - 1) (by exact ar369) (by exact ar37 j1) (by exact ar714 hk j1)
        have := hx (by exact ar16 j1)
        have := h2 n1 i (by exact ar578) (by exact ar765 i1) (by exact i2)
        exact ar762 (by assumption) (by assumption) this
  · have q := ((hp.append_right (xs.toList.drop (n1 + nb))).append_left (xs.toList.take k))
    refine q.trans ?_
    rw [List.append_assoc, ← List.append_assoc, e1, e2, hall]
theorem pend_one (x y z : Nat × Nat × Nat) : ((#[x, y] : Array (Nat × Nat × Nat)).setIfInBounds 0 z).eraseIdxIfInBounds (0 + 1) = #[z] := by simp
section
variable {prog : Program} {w : World} {A : Around} {E : Value → Shared → Prop} {s : Shared} {ky : Value → Int} {ok : Value → Prop} {knd : SortKind} {a₀ : Array Keyed}
theorem wp_set {v st : SortSt} {Q : PUnit → SortSt → Prop} (h : Q ⟨⟩ v) : wpS (model prog w) A E s (set v : StateT SortSt Sem PUnit) Q st := by
  unfold wpS; rw [StateT.run_set]; exact wpAny_pure ⟨rfl, h⟩
theorem oks_extract {xs : Array Keyed} {i j : Nat} (h : Oks ok xs) : Oks ok (xs.extract i j) := fun p hp => h p (by
  rw [Array.toList_extract, List.extract_eq_take_drop] at hp
  exact List.mem_of_mem_drop (List.mem_of_mem_take hp))
theorem up_extract {xs : Array Keyed} {i j : Nat} (hj : j ≤ xs.size) (h : Up ky xs i j) : Up ky (xs.extract i j) 0 (xs.extract i j).size := by
  have e : ∀ q, q < j - i → kyA ky (xs.extract i j) q = kyA ky xs (i + q) := fun q hq => kyA_congr (by rw [Array.getElem?_extract, if_pos (by exact ar766 hq hj)])
  intro p q a b c
  rw [Array.size_extract] at c
  rw [e p (by exact ar767 b c), e q (by exact ar768 c)]
  exact h _ _ (by exact ar563) (by exact ar652 b) (by exact ar769 c)
theorem wp_mergeAt {st : SortSt} {n1 n2 p1 p2 : Nat} {Q : Bool → SortSt → Prop} (hL : LtOk prog w A E s ky ok knd) (ho : Oks ok a₀) (hB : SB knd #[(0, n1, p1), (n1, n2, p2)] a₀ st) (h1 : 0 < n1) (h2 : 0 < n2) (hn : n1 + n2 = a₀.size) (hu1 : Up ky (arrOf st) 0 n1) (hu2 : Up ky (arrOf st) n1 (n1 + n2))
    (h : ∀ st' p, SB knd #[p] a₀ st' → Up ky (arrOf st') 0 a₀.size → Q true st') : wpS (model prog w) A E s (mergeAt' 0) Q st := by
  have hsz : (arrOf st).size = a₀.size := hB.size
  have hos : Oks ok (arrOf st) := fun p hp => ho p ((Array.perm_iff_toList_perm.mp hB.perm).mem_iff.mp hp)
  unfold mergeAt'
  refine wpS_bind (wpS_get ?_)
  have hpd := hB.pend
  dsimp only
  unfold pendingOf at hpd
  rw [hpd]
  refine wpS_bind (wp_set ?_)
  refine wpS_bind (wp_elem (arr := arrOf st) (show n1 < (arrOf st).size by exact ar770 h2 hn hsz) ?_)
  rw [pend_one]
  generalize hst1 : SortSt.mk' (kindOf st) (arrOf st) #[(0, n1 + n2, p1)] (gallopOf st) (failedOf st) = st1
  have hB1 : SB knd #[(0, n1 + n2, p1)] a₀ st1 := by rw [← hst1]; exact ⟨hB.perm, hB.kind, hB.failed, rfl⟩
  have ha1 : arrOf st1 = arrOf st := by rw [← hst1]
  show wpS _ _ _ _ _ _ (SortSt.mk' (kindOf st) (arrOf st) #[(0, n1 + n2, p1)] (gallopOf st) (failedOf st))
  rw [hst1]
  refine wpS_bind (wp_gallop hL hB1.kind (hos.at (show n1 < (arrOf st).size by exact ar770 h2 hn hsz)) hos (show 0 + n1 ≤ (arrOf st).size by exact ar771 hn hsz) h1 (hu1.sub (by exact ar83) (by exact ar448)) fun k hk g1 g2 => ?_)
  dsimp only
  rw [← kyA_at (ky := ky) (show n1 < (arrOf st).size by exact ar770 h2 hn hsz)] at g1 g2
  simp only [Nat.zero_add] at g1 g2
  by_cases ek : n1 - k = 0
  · refine wp_pos (by simpa using ek) ?_
    refine wpS_pure (h st1 _ hB1 ?_)
    rw [ha1, ← hn]
    refine hu1.join hu2 fun _ _ => ?_
    exact gbR (g1 (n1 - 1) (by exact ar772 h1 ek))
  refine wp_neg (by simpa using ek) ?_
  have hkn : k < n1 := by exact ar773 ek
  refine wpS_bind (wp_elem (arr := arrOf st) (show 0 + k + (n1 - k) - 1 < (arrOf st).size by exact ar774 hkn hn hsz) ?_)
  refine wpS_bind (wp_gallop hL hB1.kind (hos.at (show 0 + k + (n1 - k) - 1 < (arrOf st).size by exact ar774 hkn hn hsz)) hos (show n1 + n2 ≤ (arrOf st).size by exact ar775 hn hsz) (by exact ar26 h2) hu2 fun nb hnb g3 g4 => ?_)
  dsimp only
  rw [← kyA_at (ky := ky) (show 0 + k + (n1 - k) - 1 < (arrOf st).size by exact ar774 hkn hn hsz), show 0 + k + (n1 - k) - 1 = n1 - 1 from by exact ar776 hkn] at g3 g4
  by_cases eb : nb = 0
  · refine wp_pos (by simpa using eb) ?_
    refine wpS_pure (h st1 _ hB1 ?_)
    rw [ha1, ← hn]
    refine hu1.join hu2 fun _ _ => ?_
    exact gbL' (g4 0 (by exact ar777 eb) h2)
  refine wp_neg (by simpa using eb) ?_
  have q1 : kyA ky (arrOf st) n1 < kyA ky (arrOf st) k := gbR' (g2 k (Nat.le_refl _) hkn)
  have sx : ((arrOf st).extract (0 + k) n1).size = n1 - k := by rw [Array.size_extract]; exact ar778 hn hsz
  have sy : ((arrOf st).extract n1 (n1 + nb)).size = nb := by rw [Array.size_extract]; exact ar779 hn hnb hsz
  have kx : ∀ i, i < n1 - k → kyA ky ((arrOf st).extract (0 + k) n1) i = kyA ky (arrOf st) (k + i) := fun i hi => kyA_congr (by rw [Array.getElem?_extract, if_pos (by exact ar780 hi hn hsz), Nat.zero_add])
  have kz : ∀ i, i < nb → kyA ky ((arrOf st).extract n1 (n1 + nb)) i = kyA ky (arrOf st) (n1 + i) := fun i hi => kyA_congr (by rw [Array.getElem?_extract, if_pos (by exact ar781 hi hn hnb hsz)])
  have ux : Up ky ((arrOf st).extract (0 + k) n1) 0 ((arrOf st).extract (0 + k) n1).size := up_extract (by exact ar782 hn hsz) (hu1.sub (by exact ar783) (by exact ar578))
  have uy : Up ky ((arrOf st).extract n1 (n1 + nb)) 0 ((arrOf st).extract n1 (n1 + nb)).size := up_extract (by exact ar784 hn hnb hsz) (hu2.sub (by exact ar578) (by exact ar652 hnb))
  have fin : ∀ (out : Array Keyed) (st2 : SortSt), Same st1 st2 → MR ky ((arrOf st).extract (0 + k) n1) ((arrOf st).extract n1 (n1 + nb)) out → ∀ f : Array Keyed → Keyed × Nat → Array Keyed, f = (fun a x => a.setIfInBounds (0 + k + x.snd) x.fst) →
      ∀ st3, st3 = setArr st2 (List.foldl f (arrOf st2) out.toList.zipIdx) → Q (failedOf st3).isNone st3 := by
    rintro out st2 hS ⟨hM, hp⟩ f rfl st3 rfl
    have ex : ((arrOf st).extract (0 + k) n1).toList = ((arrOf st).toList.take n1).drop k := by rw [Array.toList_extract, List.extract_eq_take_drop, List.drop_take, Nat.zero_add]
    have ey : ((arrOf st).extract n1 (n1 + nb)).toList = ((arrOf st).toList.drop n1).take nb := by rw [Array.toList_extract, List.extract_eq_take_drop, show n1 + nb - n1 = nb from by exact ar680]
    rw [ex, ey] at hp
    have hlen : out.toList.length = n1 - k + nb := by
      rw [hp.length_eq]; simp; exact ar785 hn hsz hnb
    obtain ⟨m1, m2⟩ := mid_ups (ky := ky) (xs := arrOf st) (M := out.toList) (k := k) (n1 := n1) (nb := nb) (by exact hk) (by exact ar784 hn hnb hsz) (by exact ar197 eb) hu1 (by rw [hsz, ← hn]; exact hu2) hM hp
      (fun hk0 => gbR (g1 (k - 1) (by exact ar26 hk0))) (fun _ i i1 i2 => by
        have := gbL' (g4 (i - n1) (by exact ar391 i1) (by exact ar786 i2 hn i1 hsz))
        rwa [show n1 + (i - n1) = i from by exact ar787 i1] at this)
    have e := put_list (sa := 0 + k) (l := out.toList) (xs := arrOf st2) (by rw [hS.arr, ha1, hlen]; exact ar788 hkn hn hnb hsz)
    rw [hS.arr, ha1, hlen, Nat.zero_add, show k + (n1 - k + nb) = n1 + nb from by exact ar789 hkn] at e
    have hB3 : SB knd #[(0, n1 + n2, p1)] a₀ (setArr st2 (List.foldl (fun (a : Array Keyed) (x : Keyed × Nat) => a.setIfInBounds (0 + k + x.snd) x.fst) (arrOf st2) out.toList.zipIdx)) := by
      refine ⟨?_, hS.kind.trans hB1.kind, hS.failed.trans hB1.failed, hS.pend.trans hB1.pend⟩
      refine Array.Perm.trans ?_ hB.perm
      rw [Array.perm_iff_toList_perm]
      show (List.foldl _ (arrOf st2) out.toList.zipIdx).toList.Perm _
      rw [hS.arr, ha1, Nat.zero_add, e]; exact m2
    have hf : (failedOf (setArr st2 (List.foldl (fun (a : Array Keyed) (x : Keyed × Nat) => a.setIfInBounds (0 + k + x.snd) x.fst) (arrOf st2) out.toList.zipIdx))).isNone = true := by rw [hB3.failed]; rfl
    rw [hf]
    refine h _ _ hB3 ?_
    have : Ups ky (arrOf (setArr st2 (List.foldl (fun (a : Array Keyed) (x : Keyed × Nat) => a.setIfInBounds (0 + k + x.snd) x.fst) (arrOf st2) out.toList.zipIdx))).toList := by
      show Ups ky (List.foldl _ (arrOf st2) out.toList.zipIdx).toList
      rw [hS.arr, ha1, Nat.zero_add, e]; exact m1
    have := this.up
    rwa [hB3.size] at this
  have f0 : ∀ i, i < nb → kyA ky (arrOf st) (n1 + i) ≤ kyA ky (arrOf st) (n1 - 1) := fun i hi => Int.le_of_lt (gbL (g3 i hi))
  by_cases ec : n1 - k ≤ nb
  · refine wp_pos ec ?_
    refine wpS_bind (wp_mergeLo hL hB1.kind (oks_extract hos) (oks_extract hos) (show 0 < ((arrOf st).extract (0 + k) n1).size by exact ar790 sx hkn) (show 0 < ((arrOf st).extract n1 (n1 + nb)).size by exact ar791 sy ec hkn) ux uy ?_ ?_ fun out st2 hS hR => ?_)
    · rw [kx 0 (by exact ar140 hkn), kz 0 (by exact ar792 ec hkn), Nat.add_zero, Nat.add_zero]; exact ar182 q1
    · intro j hj
      rw [sy] at hj
      rw [kz j hj, sx, kx _ (by exact ar793 hkn), show k + (n1 - k - 1) = n1 - 1 from by exact ar794 hkn]
      exact f0 j hj
    · exact wpS_bind (wpS_modify (wpS_bind (wpS_get (wpS_pure (fin out st2 hS hR _ rfl _ rfl)))))
  · refine wp_neg ec ?_
    refine wpS_bind (wp_mergeHi hL hB1.kind (oks_extract hos) (oks_extract hos) (show 0 < ((arrOf st).extract (0 + k) n1).size by exact ar795 sx ec) (show 0 < ((arrOf st).extract n1 (n1 + nb)).size by exact ar796 sy eb) ux uy ?_ ?_ fun out st2 hS hR => ?_)
    · rw [sy, sx, kx _ (by exact ar793 hkn), kz _ (by exact ar797 eb), show k + (n1 - k - 1) = n1 - 1 from by exact ar794 hkn]
      exact f0 _ (by exact ar797 eb)
    · intro j hj
      rw [sx] at hj
      rw [kz 0 (by exact ar197 eb), kx j hj, Nat.add_zero]
      have := hu1 k (k + j) (by exact ar369) (by exact ar563) (by exact ar764 hj)
      exact ar798 q1 this
    · exact wpS_bind (wpS_modify (wpS_bind (wpS_get (wpS_pure (fin out st2 hS hR _ rfl _ rfl)))))
end
end Mine
end

section
open PySem PyProof.Rows
set_option Elab.async false
set_option linter.unusedVariables false
namespace Mine
theorem minRun_facts {n : Nat} (h2 : 2 ≤ n) (h : n < 128) : 1 ≤ minRun' n n 0 ∧ minRun' n n 0 ≤ n ∧ n ≤ 2 * minRun' n n 0 := by
  obtain ⟨f, hf⟩ : ∃ f, n = f + 1 := ⟨n - 1, by exact ar799 h2⟩
  have e : minRun' n n 0 = if n < 64 then n + 0 else minRun' f (n / 2) (max 0 (n % 2)) := by
    conv => lhs; arg 1; rw [hf]
    exact minRun'_succ _ _ _
  rw [e]
  by_cases q : n < 64
  · rw [if_pos q]; exact ar800 hf
  · rw [if_neg q]
    obtain ⟨g, hg⟩ : ∃ g, f = g + 1 := ⟨f - 1, by exact ar801 hf q⟩
    rw [hg, minRun'_succ, if_pos (by exact ar802 h)]
    exact ar803 q
section
variable {prog : Program} {w : World} {A : Around} {E : Value → Shared → Prop} {s : Shared} {ky : Value → Int} {ok : Value → Prop} {knd : SortKind} {a₀ : Array Keyed}
theorem wp_sortRuns {st : SortSt} {Q : Unit → SortSt → Prop} (hL : LtOk prog w A E s ky ok knd) (ho : Oks ok a₀) (hB : SB knd #[] a₀ st) (h2 : 2 ≤ a₀.size) (h128 : a₀.size < 128)
    (h : ∀ st', (arrOf st').Perm a₀ → failedOf st' = none → Up ky (arrOf st') 0 a₀.size → Q () st') : wpS (model prog w) A E s sortRuns' Q st := by
  rw [sortRuns'_eq]
  refine wpS_bind (wpS_get ?_)
  dsimp only
  obtain ⟨r1, r2, r3⟩ := minRun_facts h2 h128
  simp only [hB.size]
  generalize minRun' a₀.size a₀.size 0 = mr at *
  refine wpS_bind (wpS_mono (wpS_forRange
    (I := fun x c st' => (x = 0 ∧ c = (none, 0) ∧ SB knd #[] a₀ st') ∨ (x = 1 ∧ ∃ n1, c = (none, n1) ∧ 1 ≤ n1 ∧ n1 ≤ a₀.size ∧ (n1 = a₀.size ∨ mr ≤ n1) ∧ SB knd #[(0, n1, 0)] a₀ st' ∧ Up ky (arrOf st') 0 n1) ∨
      (2 ≤ x ∧ c = (none, a₀.size) ∧ ∃ n1 pw, 1 ≤ n1 ∧ n1 < a₀.size ∧ SB knd #[(0, n1, pw), (n1, a₀.size - n1, 0)] a₀ st' ∧ Up ky (arrOf st') 0 n1 ∧ Up ky (arrOf st') n1 a₀.size))
    (Q := fun c st' => c = (none, a₀.size) ∧ ((SB knd #[(0, a₀.size, 0)] a₀ st' ∧ Up ky (arrOf st') 0 a₀.size) ∨ ∃ n1 pw, 1 ≤ n1 ∧ n1 < a₀.size ∧ SB knd #[(0, n1, pw), (n1, a₀.size - n1, 0)] a₀ st' ∧ Up ky (arrOf st') 0 n1 ∧ Up ky (arrOf st') n1 a₀.size)) ?step ?fin (.inl ⟨rfl, rfl, hB⟩)) ?post)
  case fin =>
    rintro c st' (⟨hx, _, _⟩ | ⟨hx, _⟩ | ⟨_, hc, hD⟩)
    · exact (ar804 h2 hx).elim
    · exact (ar805 h2 hx).elim
    · exact ⟨hc, .inr hD⟩
  case step =>
    rintro x c st' _ hx (⟨rfl, rfl, hB'⟩ | ⟨rfl, n1, rfl, a1, a2, a3, hB', hu⟩ | ⟨hx2, rfl, hD⟩)
    · dsimp only
      refine wp_neg (by exact ar806 h2) ?_
      refine wpS_bind (wp_countRun hL ho (by exact ar807) (by exact ar808 h2) hB' fun m st2 hB2 hf2 m1 m2 hu2 => ?_)
      dsimp only
      by_cases c : m < mr
      · refine wp_pos c ?_
        refine wpS_bind (wpS_lift (wpAny_rule ⟨rfl, ?_⟩))
        refine wpS_bind (wp_binarySort hL ho (by exact ar809) m1 (by exact ar810 c m2) hB2 hu2 fun st3 hB3 hf3' hu3 => ?_)
        have hf3 : ∀ k, k < 0 → kyA ky (arrOf st3) k = kyA ky (arrOf st') k := fun k hk => (hf3' k hk).trans (hf2 k hk)
        simp only [Bool.not_true, Bool.false_eq_true, if_false]
        refine wpS_bind (wpS_get ?_)
        have hb : (pendingOf st3).back? = none := by rw [hB3.pend]; rfl
        rw [hb]
        dsimp only
        refine wpS_bind (wpS_modify (wpS_pure (.inr (.inl ⟨by first | trivial | rfl, (min (a₀.size - 0) mr), by rw [Nat.zero_add], by exact ar811 r1 m1 m2, by exact ar812, by exact ar813, ?_, by simpa using hu3⟩))))
        exact ⟨hB3.perm, hB3.kind, hB3.failed, by show (pendingOf st3).push _ = _; rw [hB3.pend]; rfl⟩
      · refine wp_neg c ?_
        refine wpS_bind (wpS_get ?_)
        have hb : (pendingOf st2).back? = none := by rw [hB2.pend]; rfl
        rw [hb]
        dsimp only
        refine wpS_bind (wpS_modify (wpS_pure (.inr (.inl ⟨by first | trivial | rfl, m, by rw [Nat.zero_add], by exact m1, by exact ar814 m2, by exact ar815 c, ?_, by simpa using hu2⟩))))
        exact ⟨hB2.perm, hB2.kind, hB2.failed, by show (pendingOf st2).push _ = _; rw [hB2.pend]; rfl⟩
    · dsimp only
      by_cases hd : n1 = a₀.size
      · subst hd
        refine wp_pos (Nat.le_refl _) ?_
        exact wpS_pure ⟨rfl, .inl ⟨hB', hu⟩⟩
      refine wp_neg (by exact ar816 a2 hd) ?_
      refine wpS_bind (wp_countRun hL ho (by exact ar817 a2) (by exact ar818 a2 hd) hB' fun m st2 hB2 hf2 m1 m2 hu2 => ?_)
      dsimp only
      by_cases c : m < mr
      · refine wp_pos c ?_
        refine wpS_bind (wpS_lift (wpAny_rule ⟨rfl, ?_⟩))
        refine wpS_bind (wp_binarySort hL ho (by exact ar819 a2) m1 (by exact ar820 c m2) hB2 hu2 fun st3 hB3 hf3' hu3 => ?_)
        have hf3 : ∀ k, k < n1 → kyA ky (arrOf st3) k = kyA ky (arrOf st') k := fun k hk => (hf3' k hk).trans (hf2 k hk)
        simp only [Bool.not_true, Bool.false_eq_true, if_false]
        refine wpS_bind (wpS_get ?_)
        have hb : (pendingOf st3).back? = some (0, n1, 0) := by rw [hB3.pend]; rfl
        rw [hb]
        dsimp only
        refine wpS_bind (wpS_mono (wpS_forRange (I := fun _ c st5 => c = (none, ()) ∧ st5 = st3) (Q := fun c st5 => c = (none, ()) ∧ st5 = st3) ?_ (fun _ _ hh => hh) ⟨rfl, rfl⟩) ?_)
        · rintro y c st5 _ _ ⟨rfl, rfl⟩
          refine wpS_bind (wpS_get ?_)
          have hp : (if (pendingOf st5).size > 1 then (pendingOf st5)[(pendingOf st5).size - 2]? else none) = none := by rw [hB3.pend]; rfl
          rw [hp]
          exact wpS_pure ⟨rfl, rfl⟩
        · rintro c st5 ⟨rfl, rfl⟩
          dsimp only
          refine wpS_bind (wpS_modify (wpS_bind (wpS_modify (wpS_pure (.inr (.inr ⟨by exact ar821, by congr 1; exact ar822 a3 a2 r3, n1, power' a₀.size (2 * 0 + n1) (2 * 0 + n1 + n1 + (min (a₀.size - n1) mr)) a₀.size, a1, by exact ar823 m1 m2, ?_, ?_, ?_⟩))))))
          · refine ⟨hB3.perm, hB3.kind, hB3.failed, ?_⟩
            show ((pendingOf st5).modify ((pendingOf st5).size - 1) _).push _ = _
            rw [hB3.pend, show a₀.size - n1 = (min (a₀.size - n1) mr) from by exact ar824 r3 a3]
            simp [Array.modify, Array.modifyM]
          · intro i j b1 b2 b3
            show kyA ky (arrOf st5) i ≤ kyA ky (arrOf st5) j
            rw [hf3 i (by exact ar605 b2 b3), hf3 j b3]
            exact hu i j b1 b2 b3
          · have q : n1 + (min (a₀.size - n1) mr) = a₀.size := by exact ar822 a3 a2 r3
            rw [q] at hu3
            exact hu3
      · refine wp_neg c ?_
        refine wpS_bind (wpS_get ?_)
        have hb : (pendingOf st2).back? = some (0, n1, 0) := by rw [hB2.pend]; rfl
        rw [hb]
        dsimp only
        refine wpS_bind (wpS_mono (wpS_forRange (I := fun _ c st5 => c = (none, ()) ∧ st5 = st2) (Q := fun c st5 => c = (none, ()) ∧ st5 = st2) ?_ (fun _ _ hh => hh) ⟨rfl, rfl⟩) ?_)
        · rintro y c st5 _ _ ⟨rfl, rfl⟩
          refine wpS_bind (wpS_get ?_)
          have hp : (if (pendingOf st5).size > 1 then (pendingOf st5)[(pendingOf st5).size - 2]? else none) = none := by rw [hB2.pend]; rfl
          rw [hp]
          exact wpS_pure ⟨rfl, rfl⟩
        · rintro c st5 ⟨rfl, rfl⟩
          dsimp only
          refine wpS_bind (wpS_modify (wpS_bind (wpS_modify (wpS_pure (.inr (.inr ⟨by exact ar821, by congr 1; exact ar825 r3 a2 a3 m2 c, n1, power' a₀.size (2 * 0 + n1) (2 * 0 + n1 + n1 + m) a₀.size, a1, by exact ar823 m1 m2, ?_, ?_, ?_⟩))))))
          · refine ⟨hB2.perm, hB2.kind, hB2.failed, ?_⟩
            show ((pendingOf st5).modify ((pendingOf st5).size - 1) _).push _ = _
            rw [hB2.pend, show a₀.size - n1 = m from by exact ar826 r3 a3 m2 c]
            simp [Array.modify, Array.modifyM]
          · intro i j b1 b2 b3
            show kyA ky (arrOf st5) i ≤ kyA ky (arrOf st5) j
            rw [hf2 i (by exact ar605 b2 b3), hf2 j b3]
            exact hu i j b1 b2 b3
          · have q : n1 + m = a₀.size := by exact ar825 r3 a2 a3 m2 c
            rw [q] at hu2
            exact hu2
    · dsimp only
      refine wp_pos (Nat.le_refl _) ?_
      exact wpS_pure ⟨rfl, .inr hD⟩
  case post =>
    rintro c st' ⟨rfl, hD⟩
    dsimp only
    refine wpS_bind (wpS_mono (wpS_forRange (I := fun x c st2 => c = (none, ()) ∧ ((∃ p, SB knd #[p] a₀ st2 ∧ Up ky (arrOf st2) 0 a₀.size) ∨ (x = 0 ∧ st2 = st' ∧ ∃ n1 pw, 1 ≤ n1 ∧ n1 < a₀.size ∧ SB knd #[(0, n1, pw), (n1, a₀.size - n1, 0)] a₀ st' ∧ Up ky (arrOf st') 0 n1 ∧ Up ky (arrOf st') n1 a₀.size)))
      (Q := fun c st2 => c = (none, ()) ∧ ∃ p, SB knd #[p] a₀ st2 ∧ Up ky (arrOf st2) 0 a₀.size) ?_ ?_ ?_) ?_)
    · rintro x c st2 _ _ ⟨rfl, ⟨p, hB2, hu⟩ | ⟨rfl, rfl, n1, pw, b1, b2, hB2, u1, u2⟩⟩
      · refine wpS_bind (wpS_get ?_)
        refine wp_pos (by rw [hB2.pend]; exact Nat.le_refl 1) ?_
        exact wpS_pure ⟨rfl, p, hB2, hu⟩
      · refine wpS_bind (wpS_get ?_)
        refine wp_neg (by rw [hB2.pend]; show ¬ (2 ≤ 1); decide) ?_
        have hi : (pendingOf st2).size - 2 = 0 := by rw [hB2.pend]; rfl
        simp only [hi]
        simp only [gt_iff_lt, Nat.lt_irrefl, if_false, Option.any_none, Bool.false_eq_true]
        refine wpS_bind (wp_mergeAt hL ho hB2 b1 (by exact ar140 b2) (by exact ar415 b2) u1 (by rw [show n1 + (a₀.size - n1) = a₀.size from by exact ar415 b2]; exact u2) fun st3 p hB3 hu3 => ?_)
        simp only [Bool.not_true, Bool.false_eq_true, if_false]
        exact wpS_pure ⟨rfl, .inl ⟨p, hB3, hu3⟩⟩
    · rintro c st2 ⟨rfl, ⟨p, hB2, hu⟩ | ⟨hx, _⟩⟩
      · exact ⟨rfl, p, hB2, hu⟩
      · exact (ar804 h2 hx).elim
    · rcases hD with ⟨q1, q2⟩ | q
      · exact ⟨rfl, .inl ⟨_, q1, q2⟩⟩
      · exact ⟨rfl, .inr ⟨rfl, rfl, q⟩⟩
    · rintro c st2 ⟨rfl, p, hB2, hu⟩
      exact wpS_pure (h st2 hB2.perm hB2.failed hu)
end
end Mine
end

section
open PySem PyProof.Rows
set_option Elab.async false
set_option linter.unusedVariables false
namespace Mine
noncomputable def PairAt (h : Heap) (v : Value) (x y : Int) : Prop := ∃ a t u n, v = .ref a ∧ h.get? a = some (tobj [.int x t, .int y u] n)
noncomputable def kyH (h : Heap) : Value → Int
  | .ref a => match h.get? a with
    | some o => match o.data with
      | .seq xs _ => numOf (xs[0]?.getD .none) * 1000 + numOf (xs[1]?.getD .none)
      | _ => 0
    | none => 0
  | _ => 0
noncomputable def okH (h : Heap) (v : Value) : Prop := ∃ x y, PairAt h v x y ∧ 0 ≤ y ∧ y < 1000
theorem kyH_pair {h : Heap} {v : Value} {x y : Int} (hp : PairAt h v x y) : kyH h v = x * 1000 + y := by
  obtain ⟨a, t, u, n, rfl, hg⟩ := hp
  show (match h.get? a with
    | some o => match o.data with
      | .seq xs _ => numOf (xs[0]?.getD .none) * 1000 + numOf (xs[1]?.getD .none)
      | _ => 0
    | none => 0) = _
  rw [hg]
  rfl
section
variable {prog : Program} {w : World} {A : Around} {E : Value → Shared → Prop} {s : Shared}
theorem oneLt_no {a b : Int} {t u : Tok} {Q : Bool → Shared → Prop} (h : Q (decide (a < b)) s) : wpAny (model prog w) A (oneLt' false (.int a t) (.int b u)) Q E s := by
  rw [oneLt'_eq]
  simp only [Bool.false_eq_true, if_false]
  refine wpAny_bind (richCompare_gives (op := .Lt) (typeIs_int s _ t) (typeIs_int s _ u) F.slot_int_lt F.entry_int_lt (F.args_int_lt_2 _ _) (gives_int_lt _ _ t u) (fun x => nomatch x) ?_)
  exact wpAny_truthy_bool h
theorem ltOk_pairs : LtOk prog w A E s (kyH s.heap) (okH s.heap) (tuples' true) := by
  rintro ⟨v, p⟩ ⟨v', q⟩ st Q ⟨x, y, hp, y0, y1⟩ ⟨x', y', hp', y0', y1'⟩ hk hQ
  dsimp only at hp hp' hQ
  rw [kyH_pair hp, kyH_pair hp'] at hQ
  obtain ⟨a, t, u, n, rfl, hg⟩ := hp
  obtain ⟨a', t', u', n', rfl, hg'⟩ := hp'
  rw [lt'_eq]
  refine wpS_bind (wpS_get ?_)
  rw [hk]
  refine wpS_bind (wpS_lift (wpAny_attempt ?_))
  refine wpAny_bind (listItems_at hg rfl ?_)
  refine wpAny_bind (listItems_at hg' rfl ?_)
  refine wpAny_bind ?_
  rw [show (#[Value.int x t, Value.int y u].toList.zip #[Value.int x' t', Value.int y' u'].toList).zipIdx = [((.int x t, .int x' t'), 0), ((.int y u, .int y' u'), 1)] from rfl, List.forIn_cons]
  refine wpAny_bind (wpAny_bind (wpAny_eqBool_int ?_))
  by_cases e : x = x'
  · subst e
    rw [if_neg (by simp)]
    refine wpAny_pure ?_
    dsimp only
    rw [List.forIn_cons]
    refine wpAny_bind (wpAny_bind (wpAny_eqBool_int ?_))
    by_cases e2 : y = y'
    · subst e2
      rw [if_neg (by simp)]
      refine wpAny_pure ?_
      dsimp only
      rw [List.forIn_nil]
      refine wpAny_pure ?_
      dsimp only
      refine wpAny_pure ⟨rfl, wpS_pure ?_⟩
      have : decide (x * 1000 + y < x * 1000 + y) = decide ((#[Value.int x t, Value.int y u] : Array Value).size < (#[Value.int x t', Value.int y u'] : Array Value).size) := by
        rw [decide_eq_false (by exact ar827)]; rfl
      rw [this] at hQ
      exact hQ
    · rw [if_pos (by simpa using e2)]
      refine wpAny_bind (oneLt_no ?_)
      refine wpAny_pure ?_
      dsimp only
      refine wpAny_pure ?_
      refine wpAny_pure ⟨rfl, wpS_pure ?_⟩
      have : decide (x * 1000 + y < x * 1000 + y') = decide (y < y') := by
        rw [Bool.eq_iff_iff, decide_eq_true_eq, decide_eq_true_eq]; exact ⟨ar828, ar829⟩
      rw [this] at hQ
      exact hQ
  · rw [if_pos (by simpa using e)]
    refine wpAny_bind (oneLt_int ?_)
    refine wpAny_pure ?_
    dsimp only
    refine wpAny_pure ?_
    refine wpAny_pure ⟨rfl, wpS_pure ?_⟩
    have : decide (x * 1000 + y < x' * 1000 + y') = decide (x < x') := by
      rw [Bool.eq_iff_iff, decide_eq_true_eq, decide_eq_true_eq]; exact ⟨ar830 y0 y1' e, ar831 y0' y1⟩
    rw [this] at hQ
    exact hQ
noncomputable def Pairs (h : Heap) (vs : List Value) : Prop := ∀ v ∈ vs, ∃ x y, PairAt h v x y
theorem firsts {Q : List (Option Value) → Shared → Prop} : ∀ {vs : List Value} (_ : Pairs s.heap vs) (_ : ∀ xs : List (Option Value), xs.length = vs.length → (∀ x ∈ xs, ∃ i t, x = some (.int i t)) → Q xs s), wpAny (model prog w) A (vs.mapM firstOfTuple') Q E s
  | [], _, h => by rw [List.mapM_nil]; exact wpAny_pure (h [] rfl fun x hx => nomatch hx)
  | v :: vs, hp, h => by
    rw [List.mapM_cons]
    obtain ⟨x, y, a, t, u, n, rfl, hg⟩ := hp v (.head _)
    refine wpAny_bind ?_
    have h1 : s.TypeIs (.ref a) "tuple" := ⟨_, hg, rfl⟩
    refine wpAny_bind (wpAny_typeOf h1 ?_)
    rw [if_neg (by decide)]
    refine wpAny_bind (listItems_at hg rfl ?_)
    refine wpAny_pure ?_
    refine wpAny_bind (firsts (fun v hv => hp v (.tail _ hv)) fun xs hl hx => wpAny_pure (h _ (by simp [hl]) fun z hz => ?_))
    rcases List.mem_cons.mp hz with rfl | q
    · exact ⟨x, t, rfl⟩
    · exact hx z q
theorem typesOf_ints {Q : List Value → Shared → Prop} : ∀ {vs : List Value} (_ : ∀ v ∈ vs, ∃ i t, v = .int i t) (_ : Q (vs.map fun _ => Value.type "int") s), wpAny (model prog w) A (vs.mapM typeOf) Q E s
  | [], _, h => by rw [List.mapM_nil]; exact wpAny_pure h
  | v :: vs, hp, h => by
    rw [List.mapM_cons]
    obtain ⟨i, t, rfl⟩ := hp v (.head _)
    refine wpAny_bind (wpAny_typeOf (T := "int") (typeIs_int s i t) ?_)
    exact wpAny_bind (typesOf_ints (fun v hv => hp v (.tail _ hv)) (wpAny_pure h))
theorem keyKind_pairs {v₁ : Value} {vs : List Value} {Q : SortKind → Shared → Prop} (hp : Pairs s.heap (v₁ :: vs)) (h : Q (tuples' true) s) : wpAny (model prog w) A (keyKind' (v₁ :: vs).toArray) Q E s := by
  rw [keyKind'_eq, List.mapM_toArray]
  refine wpAny_bind ?_
  rw [map_eq_pure_bind]
  refine wpAny_bind (firsts hp fun xs hl hx => wpAny_pure ?_)
  have h1 : (xs.toArray.all fun x => x.isSome) = true := by
    simp only [List.all_toArray, List.all_eq_true]
    intro x hm
    obtain ⟨i, t, rfl⟩ := hx x hm
    rfl
  rw [if_pos h1]
  refine wpAny_bind (wpAny_rule ?_)
  have h2 : xs.toArray.filterMap id = (xs.filterMap id).toArray := by simp
  rw [h2, oneTypeOnly'_eq, List.mapM_toArray]
  refine wpAny_bind (wpAny_bind ?_)
  rw [map_eq_pure_bind]
  have hi : ∀ v ∈ xs.filterMap id, ∃ i t, v = Value.int i t := fun v hv => by
    obtain ⟨x, hm, e⟩ := List.mem_filterMap.mp hv
    obtain ⟨i, t, rfl⟩ := hx x hm
    simp only [id, Option.some.injEq] at e
    exact ⟨i, t, e.symm⟩
  have hne : xs.filterMap id ≠ [] := by
    intro q
    match xs, hl with
    | x :: xs, _ =>
      obtain ⟨i, t, rfl⟩ := hx x (.head _)
      simp at q
  refine wpAny_bind (typesOf_ints hi (wpAny_pure ?_))
  obtain ⟨z, zs, hz⟩ : ∃ z zs, xs.filterMap id = z :: zs := by
    cases hq : xs.filterMap id with
    | nil => exact absurd hq hne
    | cons z zs => exact ⟨z, zs, rfl⟩
  rw [hz]
  have h3 : ((z :: zs).map fun _ => Value.type "int").toArray[0]? = some (Value.type "int") := by simp
  rw [h3]
  dsimp only
  have h4 : (((z :: zs).map fun _ => Value.type "int").toArray.all fun x => x == Value.type "int") = true := by
    simp only [List.all_toArray, List.all_map, List.all_eq_true]
    intro _ _
    rfl
  rw [if_pos h4]
  exact wpAny_pure (wpAny_pure h)
end
end Mine
end

section
open PySem PyProof.Rows
set_option Elab.async false
set_option linter.unusedVariables false
set_option maxRecDepth 100000
namespace Mine
section
variable {prog : Program} {w : World} {A : Around} {E : Value → Shared → Prop} {s : Shared}
theorem list_sort_pairs {a : Addr} {vs : List Value} {n : Nat} {P : Fin → Shared → Prop} (ho : s.heap.get? a = some (seqObj "list" vs.toArray n)) (hok : ∀ v ∈ vs, okH s.heap v) (hna : ∀ v ∈ vs, v ≠ .ref a) (h128 : vs.length < 128)
    (h : ∀ st' : SortSt, (arrOf st').Perm (pairsOf vs) → Up (kyH s.heap) (arrOf st') 0 (pairsOf vs).size → P (.done (.ret .none)) { s with heap := sortedHeap s.heap a vs ((arrOf st').map (·.2)) }) :
    wpAny (model prog w) A (Builtin.«list.sort» ⟨[.ref a], []⟩) P E s := by
  rw [list_sort_plain]
  have ha : a < s.heap.objs.size := Heap.lt_size ho
  refine wpAny_bind (listItems_at ho rfl ?_)
  refine wpAny_bind (listUpdate_at ho rfl ?_ (by show vs.toArray.size ≤ _; rw [sizeLine_eq]; simp; exact ar604 h128))
  obtain ⟨e1, ho1⟩ : ∃ e1, (s.heap.update a (Obj.mapSeq fun _ => #[])).get? a = some (seqObj "list" #[] e1) := ⟨_, get?_update_seq ho (fun _ => #[])⟩
  refine wpAny_bind (seqEpoch_at ho1 rfl ?_)
  refine wpAny_bind (wpAny_newTuple ?_)
  refine wpAny_bind (wpAny_newList ?_)
  refine wpAny_holding ?_
  have ho6 : (((s.heap.update a (Obj.mapSeq fun _ => #[])).push (seqObj "tuple" vs.toArray 0)).push (seqObj "list" #[] 0)).get? a = some (seqObj "list" #[] e1) := by
    rw [Heap.get?_push_ne _ _ _ (by rw [size_push', Heap.size_update]; exact Nat.ne_of_lt (Nat.lt_succ_of_lt ha)), Heap.get?_push_ne _ _ _ (by rw [Heap.size_update]; exact Nat.ne_of_lt ha)]
    exact ho1
  have hold : ∀ b o, b ≠ a → s.heap.get? b = some o → (((s.heap.update a (Obj.mapSeq fun _ => #[])).push (seqObj "tuple" vs.toArray 0)).push (seqObj "list" #[] 0)).get? b = some o := fun b o hb e => by
    have hlt : b < s.heap.objs.size := Heap.lt_size e
    rw [Heap.get?_push_ne _ _ _ (by rw [size_push', Heap.size_update]; exact Nat.ne_of_lt (Nat.lt_succ_of_lt hlt)), Heap.get?_push_ne _ _ _ (by rw [Heap.size_update]; exact Nat.ne_of_lt hlt), Heap.get?_update_ne _ _ _ _ hb]
    exact e
  show wpAny (model prog w) A _ P E { s with heap := ((s.heap.update a (Obj.mapSeq fun _ => #[])).push (seqObj "tuple" vs.toArray 0)).push (seqObj "list" #[] 0) }
  dsimp only
  have hsz : vs.toArray.size = vs.length := by simp
  generalize hh2 : (((s.heap.update a (Obj.mapSeq fun _ => #[])).push (seqObj "tuple" vs.toArray 0)).push (seqObj "list" #[] 0)) = h2 at *
  have pair : ∀ v ∈ vs, ∀ x y, PairAt s.heap v x y → PairAt h2 v x y := fun v hv x y ⟨b, t, u, m, e, hg⟩ => ⟨b, t, u, m, e, hold b _ (fun q => hna v hv (by rw [e, q])) hg⟩
  have kyE : ∀ v ∈ vs, kyH h2 v = kyH s.heap v := fun v hv => by
    obtain ⟨x, y, hp, _⟩ := hok v hv
    rw [kyH_pair hp, kyH_pair (pair v hv x y hp)]
  have fin : ∀ st' : SortSt, (arrOf st').Perm (pairsOf vs) → Up (kyH h2) (arrOf st') 0 (pairsOf vs).size → P (.done (.ret .none)) { s with heap := sortedHeap s.heap a vs ((arrOf st').map (·.2)) } := fun st' hp hu => by
    refine h st' hp fun i j b c d => ?_
    have inv : ∀ k, k < (pairsOf vs).size → kyA (kyH s.heap) (arrOf st') k = kyA (kyH h2) (arrOf st') k := fun k hk => by
      have hk' : k < (arrOf st').size := by rw [hp.size_eq]; exact hk
      rw [kyA_at hk', kyA_at hk']
      have hm : (arrOf st')[k] ∈ (pairsOf vs).toList := (Array.perm_iff_toList_perm.mp hp).mem_iff.mp (by simp)
      rw [pairsOf_toList] at hm
      exact (kyE _ (mem_zip_self hm).2).symm
    rw [inv i (by exact ar605 c d), inv j d]
    exact hu i j b c d
  have hs2 : ∀ (out : Array Value), h2.update a (Obj.mapSeq fun _ => out) = sortedHeap s.heap a vs out := fun out => by rw [← hh2]; rfl
  by_cases h2' : vs.toArray.size < 2
  · rw [if_pos h2', if_pos h2']
    refine wpAny_bind (wpAny_pure ?_)
    rw [StateT.run_pure]
    refine wpAny_bind (wpAny_pure ?_)
    dsimp only
    refine wpAny_bind (seqEpoch_at ho6 rfl ?_)
    refine wpAny_bind (listUpdate_at ho6 rfl ?_ (by simp) (hsz2 := by rw [Array.size_map]; show (pairsOf vs).size ≤ _; rw [pairsOf_size, sizeLine_eq]; exact ar606 h2'))
    simp only [bne_self_eq_false, Bool.false_eq_true, if_false]
    have := fin (SortSt.mk' general' (vs.toArray.zip vs.toArray) #[] 7 none) (Array.Perm.refl _) fun i j b c d => by
      have : i = j := by rw [pairsOf_size] at d; exact ar607 c d h2'
      subst this; exact Int.le_refl _
    rw [← hs2] at this
    exact wpAny_pure this
  · rw [if_neg h2', if_neg h2']
    have hpr : Pairs h2 vs := fun v hv => by
      obtain ⟨x, y, hp, _⟩ := hok v hv
      exact ⟨x, y, pair v hv x y hp⟩
    obtain ⟨v₁, rest, rfl⟩ : ∃ v₁ rest, vs = v₁ :: rest := by
      cases vs with
      | nil => simp at h2'
      | cons v rest => exact ⟨v, rest, rfl⟩
    refine wpAny_bind (keyKind_pairs (s := { s with heap := h2 }) hpr ?_)
    refine wpAny_bind (wpAny_mono (wp_sortRuns (s := { s with heap := h2 }) (ky := kyH h2) (ok := okH h2) (knd := tuples' true) (a₀ := pairsOf (v₁ :: rest)) (st := SortSt.mk' (tuples' true) ((v₁ :: rest).toArray.zip (v₁ :: rest).toArray) #[] 7 none)
      (Q := fun _ st' => (arrOf st').Perm (pairsOf (v₁ :: rest)) ∧ failedOf st' = none ∧ Up (kyH h2) (arrOf st') 0 (pairsOf (v₁ :: rest)).size)
      (ltOk_pairs (s := { s with heap := h2 })) (fun p hp => ?_) ⟨Array.Perm.refl _, rfl, rfl, rfl⟩ (by rw [pairsOf_size]; exact ar608 h2') (by rw [pairsOf_size]; exact h128) fun st' a1 a2 a3 => ⟨a1, a2, a3⟩) ?_ fun _ _ e => e)
    · rw [pairsOf_toList] at hp
      obtain ⟨x, y, hq, y0, y1⟩ := hok _ (mem_zip_self hp).2
      exact ⟨x, y, pair _ (mem_zip_self hp).2 x y hq, y0, y1⟩
    rintro ⟨⟨⟩, st'⟩ s' ⟨rfl, hp, hf, hu⟩
    dsimp only
    refine wpAny_bind (seqEpoch_at ho6 rfl ?_)
    refine wpAny_bind (listUpdate_at ho6 rfl ?_ (by simp) (hsz2 := by refine Nat.le_trans (Nat.le_of_eq ((Array.size_map ..).trans (hp.size_eq.trans (pairsOf_size _)))) ?_; rw [sizeLine_eq]; exact ar609 h128))
    rw [hf]
    simp only [bne_self_eq_false, Bool.false_eq_true, if_false]
    have := fin st' hp hu
    rw [← hs2] at this
    exact wpAny_pure this
theorem sorted_pairs {l : Addr} {vs : List Value} {Q : Value → Shared → Prop} (hl : s.heap.IsList l vs.toArray) (hok : ∀ v ∈ vs, okH s.heap v) (h128 : vs.length < 128)
    (h : ∀ st' : SortSt, (arrOf st').Perm (pairsOf vs) → Up (kyH s.heap) (arrOf st') 0 (pairsOf vs).size → Q (.ref (s.heap.objs.size + 1)) { s with heap := sortedAll s.heap vs ((arrOf st').map (·.2)) }) :
    wpAny (model prog w) A (call (.builtin "sorted") [.ref l]) Q E s := by
  refine Calls.call_function_entry kind_sorted plain_sorted entry_sorted (args_sorted1 _) ?_
  unfold Builtin.«sorted»
  refine wpAny_bind (m := checkCount "sorted" 1 1 _) (wpAny_pure ?_)
  refine wpAny_bind (collect_list hl ?_ (by rw [sizeLine_eq]; exact ar604 h128))
  refine wpAny_bind (wpAny_newList ?_)
  have hsz : ((s.heap.push (seqObj "list" #[] 0)).update s.heap.objs.size (Obj.mapSeq (· ++ vs.toArray))).objs.size = s.heap.objs.size + 1 := by
    rw [Heap.size_update, size_push']
  have hoL : (((s.heap.push (seqObj "list" #[] 0)).update s.heap.objs.size (Obj.mapSeq (· ++ vs.toArray))).push (seqObj "list" vs.toArray 0)).get? (s.heap.objs.size + 1) = some (seqObj "list" vs.toArray 0) := by
    rw [← hsz]; exact Heap.get?_push_size _ rfl
  have hold : ∀ b o, s.heap.get? b = some o → (((s.heap.push (seqObj "list" #[] 0)).update s.heap.objs.size (Obj.mapSeq (· ++ vs.toArray))).push (seqObj "list" vs.toArray 0)).get? b = some o := fun b o e => by
    have hlt : b < s.heap.objs.size := Heap.lt_size e
    rw [Heap.get?_push_ne _ _ _ (by rw [hsz]; exact Nat.ne_of_lt (Nat.lt_succ_of_lt hlt)), Heap.get?_update_ne _ _ _ _ (Nat.ne_of_lt hlt), Heap.get?_push_ne _ _ _ (Nat.ne_of_lt hlt)]
    exact e
  show wpAny _ _ _ _ _ { s with heap := ((s.heap.push (seqObj "list" #[] 0)).update s.heap.objs.size (Obj.mapSeq (· ++ vs.toArray))).push (seqObj "list" vs.toArray 0) }
  rw [hsz]
  have pair : ∀ v x y, PairAt s.heap v x y → PairAt (((s.heap.push (seqObj "list" #[] 0)).update s.heap.objs.size (Obj.mapSeq (· ++ vs.toArray))).push (seqObj "list" vs.toArray 0)) v x y := fun v x y ⟨b, t, u, m, e, hg⟩ => ⟨b, t, u, m, e, hold b _ hg⟩
  refine wpAny_bind (wpAny_holding (wpAny_call_entry slot_list_sort ⟨_, hoL, rfl⟩ entry_list_sort (list_sort_pairs hoL (fun v hv => ?_) (fun v hv e => ?_) h128 fun st' a1 a2 => ⟨_, rfl, ?_⟩) (args_list_sort _)))
  · obtain ⟨x, y, hp, q⟩ := hok v hv
    exact ⟨x, y, pair v x y hp, q⟩
  · obtain ⟨x, y, ⟨b, t, u, m, e', hg⟩, _⟩ := hok v hv
    rw [e] at e'
    have := Heap.lt_size hg
    injection e' with e'
    rw [← e'] at this
    exact absurd this (Nat.not_lt.mpr (Nat.le_succ _))
  · refine wpAny_pure ⟨_, rfl, h st' a1 fun i j b c d => ?_⟩
    have inv : ∀ k, k < (pairsOf vs).size → kyA (kyH s.heap) (arrOf st') k = kyA (kyH (((s.heap.push (seqObj "list" #[] 0)).update s.heap.objs.size (Obj.mapSeq (· ++ vs.toArray))).push (seqObj "list" vs.toArray 0))) (arrOf st') k := fun k hk => by
      have hk' : k < (arrOf st').size := by rw [a1.size_eq]; exact hk
      rw [kyA_at hk', kyA_at hk']
      have hm : (arrOf st')[k] ∈ (pairsOf vs).toList := (Array.perm_iff_toList_perm.mp a1).mem_iff.mp (by simp)
      rw [pairsOf_toList] at hm
      obtain ⟨x, y, hp, _⟩ := hok _ (mem_zip_self hm).2
      rw [kyH_pair hp, kyH_pair (pair _ x y hp)]
    rw [inv i (by exact ar605 c d), inv j d]
    exact a2 i j b c d
end
end Mine
end

section
open PySem PyProof.Rows
set_option Elab.async false
set_option linter.unusedVariables false
set_option maxRecDepth 100000
namespace Mine
theorem sorted_unique {α : Type} {r : α → α → Prop} : ∀ {l₁ l₂ : List α}, l₁.Perm l₂ → l₁.Pairwise r → l₂.Pairwise r → (∀ a ∈ l₁, ∀ b ∈ l₁, r a b → r b a → a = b) → l₁ = l₂
  | [], l₂, hp, _, _, _ => (List.nil_perm.mp hp).symm
  | a :: l₁, [], hp, _, _, _ => absurd hp.length_eq (by simp)
  | a :: l₁, b :: l₂, hp, h1, h2, ha => by
    rw [List.pairwise_cons] at h1 h2
    have hab : a = b := by
      rcases List.mem_cons.mp (hp.mem_iff.mp (List.mem_cons_self (a := a) (l := l₁))) with e | e
      · exact e
      · rcases List.mem_cons.mp (hp.mem_iff.mpr (List.mem_cons_self (a := b) (l := l₂))) with e' | e'
        · exact e'.symm
        · exact ha a (.head _) b (.tail _ e') (h1.1 b e') (h2.1 a e)
    subst hab
    rw [sorted_unique ((List.perm_cons a).mp hp) h1.2 h2.2 fun x hx y hy => ha x (.tail _ hx) y (.tail _ hy)]
noncomputable def rk (p : Int × Int) : Int := p.1 * 1000 + p.2
theorem rk_inj {p q : Int × Int} (hp : 0 ≤ p.2 ∧ p.2 < 1000) (hq : 0 ≤ q.2 ∧ q.2 < 1000) (h : rk p = rk q) : p = q := by
  unfold rk at h
  exact Prod.ext (by exact ar610 hp hq h) (by omega)
noncomputable def prH (h : Heap) (v : Value) : Int × Int := (kyH h v / 1000, kyH h v % 1000)
theorem pair_of {X : Addr → Prop} {h : Heap} {p : Int × Int} {v : Value} (hd : Den X h (V.pair p) v) : PairAt h v p.1 p.2 := by
  simp only [V.pair, Den] at hd
  obtain ⟨_, a, vs, n, rfl, _, hg, hl⟩ := hd
  simp only [DenL] at hl
  obtain ⟨v1, vs1, rfl, ⟨t, rfl⟩, v2, vs2, rfl, ⟨u, rfl⟩, rfl⟩ := hl
  exact ⟨a, t, u, n, rfl, hg⟩
theorem prH_pair {X : Addr → Prop} {h : Heap} {p : Int × Int} {v : Value} (hd : Den X h (V.pair p) v) (hp : 0 ≤ p.2 ∧ p.2 < 1000) : prH h v = p ∧ kyH h v = rk p := by
  have e := kyH_pair (pair_of hd)
  unfold prH
  rw [e]
  exact ⟨Prod.ext (by dsimp only; exact ar611 hp) (by dsimp only; omega), rfl⟩
section
variable {prog : Program} {w : World} {G : Glo} {A : Around}
theorem fun_sortedP {ps qs : List (Int × Int)} (hq : qs.Perm ps) (hs : qs.Pairwise fun a b => rk a ≤ rk b) (hb : ∀ p ∈ ps, 0 ≤ p.2 ∧ p.2 < 1000) (hl : ps.length < 128) : Fun prog w G A (.builtin "sorted") [V.pairs ps] (V.pairs qs) := by
  intro X s E vs hx hg hd₀
  obtain ⟨v, rfl, hd⟩ := one_arg hd₀
  simp only [V.pairs, Den] at hd
  obtain ⟨_, a, us, n, rfl, hXa, hga, hdl⟩ := hd
  have hul : us.length = ps.length := by rw [hdl.length, List.length_map]
  have each : ∀ v ∈ us, ∃ p ∈ ps, Den X s.heap (V.pair p) v := fun v hv => by
    obtain ⟨k, hk⟩ := List.mem_iff_getElem?.mp hv
    obtain ⟨d, hd1, hd2⟩ := hdl.get' hk
    obtain ⟨p, hp, rfl⟩ := List.mem_map.mp (List.mem_of_getElem? hd1)
    exact ⟨p, hp, hd2⟩
  have hmap : us.map (prH s.heap) = ps := by
    refine List.ext_getElem (by rw [List.length_map, hul]) fun i h1 h2 => ?_
    have h1' : i < us.length := by simpa using h1
    obtain ⟨d, hd1, hd2⟩ := hdl.get' (List.getElem?_eq_getElem h1')
    rw [List.getElem?_map, List.getElem?_eq_getElem h2] at hd1
    simp only [Option.map_some, Option.some.injEq] at hd1
    subst hd1
    rw [List.getElem_map]
    exact (prH_pair hd2 (hb _ (List.getElem_mem h2))).1
  refine sorted_pairs ⟨_, hga, rfl, n, rfl⟩ (fun v hv => ?_) (by exact ar612 hul hl) fun st' hp hu => ?_
  · obtain ⟨p, hpm, hd⟩ := each v hv
    exact ⟨p.1, p.2, pair_of hd, hb p hpm⟩
  · have hL : (arrOf st').toList.Perm (us.zip us) := by rw [← pairsOf_toList]; exact Array.perm_iff_toList_perm.mp hp
    have hmem : ∀ p ∈ (arrOf st').toList, p.1 = p.2 ∧ p.1 ∈ us := fun p hp' => mem_zip_self (hL.mem_iff.mp hp')
    have hsz : (arrOf st').size = us.length := by rw [hp.size_eq, pairsOf_size]
    have eout : ((arrOf st').map (·.2)).toList = (arrOf st').toList.map (·.1) := by
      rw [Array.toList_map]; exact List.map_congr_left fun p hp' => (hmem p hp').1.symm
    obtain ⟨e, he⟩ := sortedAll_at s.heap us ((arrOf st').map (·.2))
    have hk : HK s.heap (sortedAll s.heap us ((arrOf st').map (·.2))) := fun b o q => sortedAll_old q
    have hfst : (us.zip us).map (·.1) = us := List.map_fst_zip (Nat.le_refl _)
    have hperm : (((arrOf st').toList.map (·.1)).map (prH s.heap)).Perm ps := by
      have := (hL.map (·.1)).map (prH s.heap)
      rwa [hfst, hmap] at this
    have hin : ∀ v ∈ (arrOf st').toList.map (·.1), v ∈ us := fun v hv => by
      obtain ⟨p, hpm, rfl⟩ := List.mem_map.mp hv
      exact (hmem p hpm).2
    have hsorted : (((arrOf st').toList.map (·.1)).map (prH s.heap)).Pairwise fun a b => rk a ≤ rk b := by
      rw [List.pairwise_iff_getElem]
      intro i j hi hj hij
      have hi' : i < (arrOf st').size := by simpa using hi
      have hj' : j < (arrOf st').size := by simpa using hj
      have := hu i j (by exact ar369) (by exact ar138 hij) (by rw [pairsOf_size, ← hsz]; exact hj')
      rw [kyA_at hi', kyA_at hj'] at this
      simp only [List.getElem_map, Array.getElem_toList]
      obtain ⟨p, hpm, hd⟩ := each _ (hmem _ (show (arrOf st')[i] ∈ (arrOf st').toList by simp)).2
      obtain ⟨q, hqm, hd'⟩ := each _ (hmem _ (show (arrOf st')[j] ∈ (arrOf st').toList by simp)).2
      rw [(prH_pair hd (hb p hpm)).1, (prH_pair hd' (hb q hqm)).1, ← (prH_pair hd (hb p hpm)).2, ← (prH_pair hd' (hb q hqm)).2]
      exact this
    have heq : qs = ((arrOf st').toList.map (·.1)).map (prH s.heap) := sorted_unique (hq.trans hperm.symm) hs hsorted fun x hx y hy h1 h2 => rk_inj (hb x (hq.mem_iff.mp hx)) (hb y (hq.mem_iff.mp hy)) (by exact ar613 h1 h2)
    refine ⟨⟨_, s.toks, rfl, hk⟩, ?_⟩
    simp only [V.pairs, Den]
    refine ⟨by rw [List.length_map, hq.length_eq, sizeLine_eq]; exact ar604 hl, _, (arrOf st').toList.map (·.1), e, rfl, fun q => ?_, ?_, ?_⟩
    · obtain ⟨o, ho⟩ := hx _ q
      have := Heap.lt_size ho
      exact absurd this (Nat.not_lt.mpr (Nat.le_succ _))
    · rw [← eout]
      show _ = some (lobj _ e)
      unfold lobj
      rw [Array.toArray_toList]
      exact he
    · rw [heq]
      generalize (arrOf st').toList.map (·.1) = L at hin
      have go : ∀ L : List Value, (∀ v ∈ L, v ∈ us) → DenL X s.heap ((L.map (prH s.heap)).map V.pair) L := by
        intro L
        induction L with
        | nil => intro _; exact .nil
        | cons v L ih =>
          intro hm
          refine .cons ?_ (ih fun x hx => hm x (.tail _ hx))
          obtain ⟨p, hpm, hd⟩ := each v (hm v (.head _))
          rw [(prH_pair hd (hb p hpm)).1]; exact hd
      exact (go L hin).keeps hk
theorem fun_sortedI {ns ms : List Int} (hq : ms.Perm ns) (hs : ms.Pairwise (· ≤ ·)) (hl : ns.length < 64) : Fun prog w G A (.builtin "sorted") [V.ints ns] (V.ints ms) := by
  intro X s E vs hx hg hd₀
  obtain ⟨v, rfl, hd⟩ := one_arg hd₀
  simp only [Den] at hd
  obtain ⟨_, a, us, n, rfl, hXa, hga, hdl⟩ := hd
  have hi := denL_ints hdl
  have hul : us.length = ns.length := by rw [hdl.length, List.length_map]
  refine sorted_ints ⟨_, hga, rfl, n, rfl⟩ hi (by exact ar614 hul hl) fun out ns' h1 h2 h3 => ?_
  have heq : ms = ns' := sorted_unique (hq.trans h2.symm) hs h3 fun x _ y _ a b => Int.le_antisymm a b
  subst heq
  obtain ⟨e, he⟩ := sortedAll_at s.heap us out
  have hk : HK s.heap (sortedAll s.heap us out) := fun b o q => sortedAll_old q
  refine ⟨⟨_, s.toks, rfl, hk⟩, ?_⟩
  simp only [Den]
  refine ⟨by rw [List.length_map, hq.length_eq, sizeLine_eq]; exact ar615 hl, _, out.toList, e, rfl, fun q => ?_, ?_, denL_of_ints h1⟩
  · obtain ⟨o, ho⟩ := hx _ q
    have := Heap.lt_size ho
    exact absurd this (Nat.not_lt.mpr (Nat.le_succ _))
  · show _ = some (lobj _ e)
    unfold lobj
    rw [Array.toArray_toList]
    exact he
end
end Mine
end

section
set_option Elab.async false
set_option linter.unusedVariables false
namespace Mine
theorem bd_tr {xs : List Int} {N c k : Nat} (h1 : Bd xs N c) (h2 : Bd xs c k) : Bd xs N k := by
  have a := h1.1
  have b := h2.1
  refine ⟨by exact ar303 b a, fun j hj => ?_⟩
  rw [h2.2 j hj, h1.2 _ (by exact ar68 b hj)]
  congr 1; exact ar69 a b
theorem bd_sub {xs : List Int} {N c k : Nat} (h1 : Bd xs N c) (h2 : Bd xs N k) (h : k < c) : Bd xs c k := by
  have a := h1.1
  refine ⟨h, fun j hj => ?_⟩
  have a1 := h2.2 j hj
  have a2 := h1.2 (c - k + j) (by exact ar68 h hj)
  rw [a1, a2]
  congr 1; exact ar70 h a
structure ChI (xs : List Int) (i : Nat) (l : List Nat) : Prop where
  bd : ∀ k ∈ l, Bd xs xs.length k
  down : l.Pairwise (· > ·)
  last : ∀ k ∈ l, l.getLastD 0 ≤ k
  all : ∀ k, Bd xs xs.length k → k ∈ l ∨ k < l.getLastD 0
  prog : l.getLastD 0 = 0 ∨ l.getLastD 0 + i + 1 ≤ xs.length
theorem chI {xs : List Int} (h1 : 1 ≤ xs.length) : ∀ i, ChI xs i (chN xs i)
  | 0 => by
    obtain ⟨a, b⟩ := lb_spec xs (n := xs.length) (by exact ar370 h1)
    have c := a.1
    unfold chN
    refine ⟨by simpa using a, by simp, by simp, fun k hk => ?_, .inr (by simp; exact ar62 c)⟩
    have := b k hk
    simp
    exact ar371 this
  | i + 1 => by
    have ih := chI h1 i
    have hne := chN_ne xs i
    have hlm := getLastD_mem hne
    unfold chN
    generalize chN xs i = l at *
    generalize hc : l.getLastD 0 = c at *
    by_cases q : 0 < c
    · rw [if_pos q]
      have hbc := ih.bd c hlm
      obtain ⟨a, b⟩ := lb_spec xs q
      have a1 := a.1
      refine ⟨?_, ?_, ?_, ?_, ?_⟩
      · intro k hk
        rcases List.mem_append.mp hk with z | z
        · exact ih.bd k z
        · rw [List.mem_singleton.mp z]; exact bd_tr hbc a
      · rw [List.pairwise_append]
        refine ⟨ih.down, by simp, fun x hx y hy => ?_⟩
        rw [List.mem_singleton] at hy
        have := ih.last x hx
        exact ar372 hy a1 hc this
      · intro k hk
        rw [List.getLastD_concat]
        rcases List.mem_append.mp hk with z | z
        · have := ih.last k z; exact ar373 a1 hc this
        · rw [List.mem_singleton] at z; exact ar374 z
      · intro k hk
        rw [List.getLastD_concat]
        rcases ih.all k hk with z | z
        · exact .inl (List.mem_append.mpr (.inl z))
        · have := b k (bd_sub hbc hk (by exact ar375 z hc))
          rcases Nat.eq_or_lt_of_le this with y | y
          · exact .inl (List.mem_append.mpr (.inr (by rw [y]; exact List.mem_singleton.mpr rfl)))
          · exact .inr y
      · rw [List.getLastD_concat]
        rcases ih.prog with z | z
        · exact ar376 q z hc
        · right; exact ar377 a1 z hc
    · rw [if_neg q]
      exact ⟨ih.bd, ih.down, ih.last, ih.all, .inl (by exact ar378 hc q)⟩
theorem chL_mem {xs : List Int} (h1 : 1 ≤ xs.length) {k : Nat} : k ∈ chL xs ↔ 0 < k ∧ Bd xs xs.length k := by
  have h := chI h1 xs.length
  unfold chL
  rw [List.mem_filter]
  constructor
  · rintro ⟨a, b⟩
    exact ⟨by simp at b; exact ar197 b, h.bd k a⟩
  · rintro ⟨a, b⟩
    refine ⟨?_, by simp; exact ar379 a⟩
    rcases h.all k b with z | z
    · exact z
    · rcases h.prog with y | y <;> (first | exact (ar380 z y).elim | exact (ar381 y).elim)
theorem chL_down {xs : List Int} (h1 : 1 ≤ xs.length) : (chL xs).Pairwise (· > ·) := (chI h1 xs.length).down.filter _
theorem chL_len {xs : List Int} : (chL xs).length ≤ xs.length + 1 := Nat.le_trans (List.length_filter_le _ _) (chN_len _ _)

section
variable {u : List Int} {bar : Int}
noncomputable def X1 (u : List Int) (bar : Int) (i : Nat) : List Int := u.drop i ++ [bar] ++ (u.drop i).reverse
noncomputable def X2 (u : List Int) (bar : Int) (f : Nat) : List Int := (u.take f).reverse ++ [bar] ++ u.take f
theorem X1_len {i : Nat} (h : i ≤ u.length) : (X1 u bar i).length = 2 * (u.length - i) + 1 := by unfold X1; simp; exact ar382
theorem X2_len {f : Nat} (h : f ≤ u.length) : (X2 u bar f).length = 2 * f + 1 := by unfold X2; simp; exact ar383 h
theorem drop_get {l : List Int} {i k : Nat} : (l.drop i).getD k 0 = l.getD (i + k) 0 := by rw [List.getD, List.getElem?_drop, List.getD]
theorem take_get {l : List Int} {i k : Nat} (h : k < i) : (l.take i).getD k 0 = l.getD k 0 := by rw [List.getD, List.getElem?_take_of_lt h, List.getD]
theorem x1_mem (hb : bar ∉ u) {i k : Nat} (h : i < u.length) : k ∈ chL (X1 u bar i) ↔ 0 < k ∧ i + k ≤ u.length ∧ PS u i (i + k) := by
  have hl : (u.drop i).reverse.length = u.length - i := by simp
  rw [chL_mem (by rw [X1_len (by exact ar138 h)]; exact ar384), X1_len (by exact ar138 h)]
  have hbar : ∀ j, j < (u.drop i).reverse.length → (u.drop i).reverse.getD j 0 ≠ bar := fun j hj e => by
    have : (u.drop i).reverse.getD j 0 ∈ (u.drop i).reverse := by rw [List.getD, List.getElem?_eq_getElem hj]; exact List.getElem_mem _
    rw [e] at this
    exact hb (List.mem_of_mem_drop (List.mem_reverse.mp this))
  have e := bd_bar (a := (u.drop i).reverse) (bar := bar) hbar (k := k)
  rw [List.reverse_reverse, hl] at e
  unfold X1
  rw [e]
  have e2 : ∀ j, j < u.length - i → (u.drop i).reverse.getD j 0 = u.getD (u.length - 1 - j) 0 := fun j hj => by
    rw [rev_getD (by rw [List.length_drop]; exact hj), drop_get, List.length_drop]
    congr 1; exact ar338 hj
  constructor
  · rintro ⟨a, b, c⟩
    refine ⟨a, by exact ar385 h b, fun j hj => ?_⟩
    have := c j (by exact ar386 hj)
    rw [hl, e2 _ (by exact ar387 a b), e2 _ (by exact ar388 b hj)] at this
    rw [show i + j = u.length - 1 - (u.length - i - 1 - j) from by exact ar389 hj b, this]
    congr 1; exact ar390 a b
  · rintro ⟨a, b, c⟩
    refine ⟨a, by exact ar391 b, fun j hj => ?_⟩
    have := c j (by exact ar392 hj)
    rw [hl, e2 _ (by exact ar393 b hj), e2 _ (by exact ar394 b hj), show u.length - 1 - (u.length - i - 1 - j) = i + j from by exact ar395 b hj, this]
    congr 1; exact ar396 b
theorem x2_mem (hb : bar ∉ u) {f k : Nat} (h0 : 0 < f) (h : f ≤ u.length) : k ∈ chL (X2 u bar f) ↔ 0 < k ∧ k ≤ f ∧ PS u (f - k) f := by
  have hl : (u.take f).length = f := by simp; exact ar397 h
  rw [chL_mem (by rw [X2_len h]; exact ar398), X2_len h]
  have hbar : ∀ j, j < (u.take f).length → (u.take f).getD j 0 ≠ bar := fun j hj e => by
    have : (u.take f).getD j 0 ∈ u.take f := by rw [List.getD, List.getElem?_eq_getElem hj]; exact List.getElem_mem _
    rw [e] at this
    exact hb (List.mem_of_mem_take this)
  have e := bd_bar (a := u.take f) (bar := bar) hbar (k := k)
  rw [hl] at e
  unfold X2
  rw [e]
  constructor
  · rintro ⟨a, b, c⟩
    refine ⟨a, b, fun j hj => ?_⟩
    have := c j (by exact ar399 hj)
    rw [hl, take_get (by exact ar400 a b), take_get (by exact ar401 hj)] at this
    exact this.symm
  · rintro ⟨a, b, c⟩
    refine ⟨a, b, fun j hj => ?_⟩
    have := c j (by exact ar402 hj b)
    rw [hl, take_get (by exact ar403 hj b), take_get (by exact ar404 b hj)]
    exact this.symm

noncomputable def begunP (u : List Int) (bar : Int) (n : Nat) : List (Int × Int) := (List.range n).flatMap fun i => (chL (X1 u bar i)).map fun (k : Nat) => ((i : Int), ((i + k : Nat) : Int))
noncomputable def endedP (u : List Int) (bar : Int) (n : Nat) : List (Int × Int) := (List.range n).flatMap fun i => (chL (X2 u bar (u.length - i))).map fun (k : Nat) => (((u.length - i : Nat) : Int), ((u.length - i - k : Nat) : Int))
noncomputable def plcP (n : Nat) : List (Int × Int) := (List.range n).flatMap fun i => (List.range (n - i)).map fun (t : Nat) => ((i : Int), ((i + 1 + t : Nat) : Int))
noncomputable def slP (u : List Int) (p : Int × Int) : List Int := (u.drop p.1.toNat).take (p.2.toNat - p.1.toNat)
noncomputable def plB (u : List Int) (p : Int × Int) : Bool := slP u p == (slP u p).reverse
noncomputable def plainP (u : List Int) : List (Int × Int) := (plcP u.length).filter (plB u)
theorem plB_iff {i j : Nat} (hij : i < j) (hj : j ≤ u.length) : plB u ((i : Int), (j : Int)) = true ↔ PS u i j := by
  have hl : (slP u ((i : Int), (j : Int))).length = j - i := by unfold slP; simp; exact ar336 hj
  have hg : ∀ k, k < j - i → (slP u ((i : Int), (j : Int))).getD k 0 = u.getD (i + k) 0 := fun k hk => by
    unfold slP
    dsimp only
    rw [Int.toNat_natCast, Int.toNat_natCast, take_get hk, drop_get]
  unfold plB
  rw [beq_iff_eq, ext_getD (by rw [List.length_reverse]), hl]
  constructor
  · intro h k hk
    have := h k hk
    rw [rev_getD (by exact ar405 hk hl), hl, hg k hk, hg _ (by exact ar406 hk), show i + (j - i - 1 - k) = j - 1 - k from by exact ar338 hk] at this
    exact this
  · intro h k hk
    have := h k hk
    rw [rev_getD (by exact ar405 hk hl), hl, hg k hk, hg _ (by exact ar406 hk), show i + (j - i - 1 - k) = j - 1 - k from by exact ar338 hk]
    exact this
theorem plc_mem {n : Nat} {p : Int × Int} : p ∈ plcP n ↔ ∃ i j : Nat, p = ((i : Int), (j : Int)) ∧ i < j ∧ j ≤ n := by
  unfold plcP
  rw [List.mem_flatMap]
  constructor
  · rintro ⟨i, hi, h⟩
    obtain ⟨t, ht, rfl⟩ := List.mem_map.mp h
    rw [List.mem_range] at hi ht
    exact ⟨i, i + 1 + t, rfl, by exact ar407, by exact ar408 ht⟩
  · rintro ⟨i, j, rfl, h1, h2⟩
    exact ⟨i, List.mem_range.mpr (by exact ar207 h1 h2), List.mem_map.mpr ⟨j - i - 1, List.mem_range.mpr (by exact ar409 h2 h1), by congr 2; exact ar410 h1⟩⟩
theorem plain_mem {p : Int × Int} : p ∈ plainP u ↔ ∃ i j : Nat, p = ((i : Int), (j : Int)) ∧ i < j ∧ j ≤ u.length ∧ PS u i j := by
  unfold plainP
  rw [List.mem_filter, plc_mem]
  constructor
  · rintro ⟨⟨i, j, rfl, h1, h2⟩, h⟩
    exact ⟨i, j, rfl, h1, h2, (plB_iff h1 h2).mp h⟩
  · rintro ⟨i, j, rfl, h1, h2, h3⟩
    exact ⟨⟨i, j, rfl, h1, h2⟩, (plB_iff h1 h2).mpr h3⟩
theorem plc_up {n : Nat} (hn : n < 1000) : (plcP n).Pairwise fun a b => rk a < rk b := by
  unfold plcP
  rw [List.pairwise_flatMap]
  refine ⟨fun i hi => ?_, ?_⟩
  · rw [List.pairwise_map]
    refine List.Pairwise.imp (fun {a b} h => ?_) List.pairwise_lt_range
    unfold rk; dsimp only; exact ar411 h
  · refine List.Pairwise.imp_of_mem (fun {a b} ha hb h x hx y hy => ?_) List.pairwise_lt_range
    obtain ⟨s, hs, rfl⟩ := List.mem_map.mp hx
    obtain ⟨t, ht, rfl⟩ := List.mem_map.mp hy
    rw [List.mem_range] at ha hb hs ht
    unfold rk; dsimp only; exact ar412 h hs hn
theorem begun_mem (hb : bar ∉ u) {p : Int × Int} : p ∈ begunP u bar u.length ↔ ∃ i j : Nat, p = ((i : Int), (j : Int)) ∧ i < j ∧ j ≤ u.length ∧ PS u i j := by
  unfold begunP
  rw [List.mem_flatMap]
  constructor
  · rintro ⟨i, hi, h⟩
    rw [List.mem_range] at hi
    obtain ⟨k, hk, rfl⟩ := List.mem_map.mp h
    obtain ⟨a, b, c⟩ := (x1_mem hb hi).mp hk
    exact ⟨i, i + k, rfl, by exact ar413 a, b, c⟩
  · rintro ⟨i, j, rfl, h1, h2, h3⟩
    refine ⟨i, List.mem_range.mpr (by exact ar207 h1 h2), List.mem_map.mpr ⟨j - i, (x1_mem hb (by exact ar207 h1 h2)).mpr ⟨by exact ar140 h1, by exact ar414 h1 h2, ?_⟩, by congr 2; exact ar415 h1⟩⟩
    rw [show i + (j - i) = j from by exact ar415 h1]; exact h3
theorem ended_mem (hb : bar ∉ u) {p : Int × Int} : p ∈ endedP u bar u.length ↔ ∃ i j : Nat, p = ((j : Int), (i : Int)) ∧ i < j ∧ j ≤ u.length ∧ PS u i j := by
  unfold endedP
  rw [List.mem_flatMap]
  constructor
  · rintro ⟨i, hi, h⟩
    rw [List.mem_range] at hi
    obtain ⟨k, hk, rfl⟩ := List.mem_map.mp h
    obtain ⟨a, b, c⟩ := (x2_mem hb (by exact ar140 hi) (by exact ar139)).mp hk
    exact ⟨u.length - i - k, u.length - i, rfl, by exact ar416 a b, by exact ar139, c⟩
  · rintro ⟨i, j, rfl, h1, h2, h3⟩
    refine ⟨u.length - j, List.mem_range.mpr (by exact ar417 h2 h1), List.mem_map.mpr ⟨j - i, ?_, by congr 2 <;> (first | exact ar368 h2 | exact ar418 h2 h1)⟩⟩
    rw [show u.length - (u.length - j) = j from by exact ar368 h2]
    refine (x2_mem hb (by exact ar16 h1) h2).mpr ⟨by exact ar140 h1, by exact ar139, ?_⟩
    rw [show j - (j - i) = i from by exact ar419 h1]; exact h3
theorem begun_nodup : ∀ n, n ≤ u.length → (begunP u bar n).Nodup := by
  intro n hn
  unfold begunP
  rw [List.Nodup, List.pairwise_flatMap]
  refine ⟨fun i hi => ?_, ?_⟩
  · rw [List.mem_range] at hi
    rw [List.pairwise_map]
    refine List.Pairwise.imp (fun {a b} h e => ?_) (chL_down (xs := X1 u bar i) (by rw [X1_len (by exact ar262 hi hn)]; exact ar384))
    have := (Prod.mk.inj e).2; exact ar420 this h
  · refine List.Pairwise.imp (fun {a b} h x hx y hy e => ?_) List.pairwise_lt_range
    obtain ⟨s, hs, rfl⟩ := List.mem_map.mp hx
    obtain ⟨t, ht, rfl⟩ := List.mem_map.mp hy
    have := (Prod.mk.inj e).1; exact ar421 this h
theorem ended_nodup (hb : bar ∉ u) : ∀ n, n ≤ u.length → (endedP u bar n).Nodup := by
  intro n hn
  unfold endedP
  rw [List.Nodup, List.pairwise_flatMap]
  refine ⟨fun i hi => ?_, ?_⟩
  · rw [List.mem_range] at hi
    rw [List.pairwise_map]
    refine List.Pairwise.imp_of_mem (fun {a b} ha hb' h e => ?_) (chL_down (xs := X2 u bar (u.length - i)) (by rw [X2_len (by exact ar139)]; exact ar384))
    have h1 := ((x2_mem hb (by exact ar422 hi hn) (by exact ar139)).mp ha).2.1
    have h2 := ((x2_mem hb (by exact ar423 h h1) (by exact ar139)).mp hb').2.1
    have := (Prod.mk.inj e).2; exact ar424 this h1 h
  · refine List.Pairwise.imp_of_mem (fun {a b} ha hb' h x hx y hy e => ?_) List.pairwise_lt_range
    rw [List.mem_range] at ha hb'
    obtain ⟨s, hs, rfl⟩ := List.mem_map.mp hx
    obtain ⟨t, ht, rfl⟩ := List.mem_map.mp hy
    have := (Prod.mk.inj e).1; exact ar425 this h hb' hn
theorem plain_nodup (hn : u.length < 1000) : (plainP u).Nodup := by
  unfold plainP
  refine List.Pairwise.imp (fun {a b} h e => ?_) ((plc_up hn).filter _)
  rw [e] at h; exact absurd h (Int.lt_irrefl _)
theorem plain_begun (hb : bar ∉ u) (hn : u.length < 1000) : (plainP u).Perm (begunP u bar u.length) :=
  (List.perm_ext_iff_of_nodup (plain_nodup hn) (begun_nodup _ (Nat.le_refl _))).mpr fun p => by rw [plain_mem, begun_mem hb]
theorem plain_ended (hb : bar ∉ u) (hn : u.length < 1000) : (plainP u).Perm ((endedP u bar u.length).map fun p => (p.2, p.1)) := by
  refine (List.perm_ext_iff_of_nodup (plain_nodup hn) ?_).mpr fun p => ?_
  · rw [List.Nodup, List.pairwise_map]
    refine List.Pairwise.imp (fun {a b} h e => h ?_) (ended_nodup hb _ (Nat.le_refl _))
    exact Prod.ext (Prod.mk.inj e).2 (Prod.mk.inj e).1
  · rw [plain_mem, List.mem_map]
    constructor
    · rintro ⟨i, j, rfl, h⟩
      exact ⟨((j : Int), (i : Int)), (ended_mem hb).mpr ⟨i, j, rfl, h⟩, rfl⟩
    · rintro ⟨q, hq, rfl⟩
      obtain ⟨i, j, rfl, h⟩ := (ended_mem hb).mp hq
      exact ⟨i, j, rfl, h⟩
end
end Mine
end

section
set_option Elab.async false
set_option linter.unusedVariables false
namespace Mine
theorem re_mono {x : Int} : ∀ {l : List (Int × Int)} {r : List Int}, x ∈ r → x ∈ l.foldl reStep r
  | [], r, h => h
  | p :: l, r, h => by
    rw [List.foldl_cons]
    refine re_mono ?_
    unfold reStep
    split
    · exact List.mem_append.mpr (.inl h)
    · exact h
theorem re_new {z : Int} : ∀ {l : List (Int × Int)} {r : List Int}, z ∈ l.foldl reStep r → z ∈ r ∨ ∃ q ∈ l, q.2 = z
  | [], r, h => .inl h
  | p :: l, r, h => by
    rw [List.foldl_cons] at h
    rcases re_new h with q | ⟨q, hq, e⟩
    · unfold reStep at q
      split at q
      · rcases List.mem_append.mp q with q | q
        · exact .inl q
        · exact .inr ⟨p, .head _, (List.mem_singleton.mp q).symm⟩
      · exact .inl q
    · exact .inr ⟨q, .tail _ hq, e⟩
theorem re_sound {P : Int → Prop} : ∀ {l : List (Int × Int)} {r : List Int}, (∀ z ∈ r, P z) → (∀ p ∈ l, P p.1 → (p.2 - p.1) % 2 = 0 → P p.2) → ∀ z ∈ l.foldl reStep r, P z
  | [], r, h, _ => h
  | p :: l, r, h, hs => by
    rw [List.foldl_cons]
    refine re_sound (fun z hz => ?_) fun q hq => hs q (.tail _ hq)
    unfold reStep at hz
    split at hz
    · rename_i hc
      rcases List.mem_append.mp hz with q | q
      · exact h z q
      · rw [List.mem_singleton.mp q]
        simp only [Bool.and_eq_true, List.contains_iff_mem, beq_iff_eq] at hc
        exact hs p (.head _) (h _ hc.1) hc.2.2
    · exact h z hz
theorem re_nodup : ∀ {l : List (Int × Int)} {r : List Int}, r.Nodup → (l.foldl reStep r).Nodup
  | [], r, h => h
  | p :: l, r, h => by
    rw [List.foldl_cons]
    refine re_nodup ?_
    unfold reStep
    split
    · rename_i hc
      simp only [Bool.and_eq_true, Bool.not_eq_true', beq_iff_eq] at hc
      rw [List.nodup_append]
      refine ⟨h, by simp, fun a ha b hb e => ?_⟩
      rw [List.mem_singleton] at hb
      rw [e, hb] at ha
      have := List.contains_iff_mem.mpr ha
      rw [hc.2.1] at this; cases this
    · exact h
theorem re_closed : ∀ {l : List (Int × Int)} {r : List Int}, l.Pairwise (fun p q => q.2 ≠ p.1) → (∀ p ∈ l, p.2 ≠ p.1) → ∀ p ∈ l, p.1 ∈ l.foldl reStep r → (p.2 - p.1) % 2 = 0 → p.2 ∈ l.foldl reStep r
  | [], r, _, _, p, hp, _, _ => nomatch hp
  | q :: l, r, h1, h2, p, hp, hm, he => by
    rw [List.pairwise_cons] at h1
    rw [List.foldl_cons] at hm ⊢
    rcases List.mem_cons.mp hp with rfl | hp
    · have hr : p.1 ∈ r := by
        have : p.1 ∈ (p :: l).foldl reStep r := hm
        rcases re_new this with z | ⟨q, hq, e⟩
        · exact z
        · exfalso
          rcases List.mem_cons.mp hq with rfl | hq
          · exact h2 _ (.head _) e
          · exact h1.1 q hq e
      refine re_mono ?_
      unfold reStep
      by_cases c : p.2 ∈ r
      · split
        · exact List.mem_append.mpr (.inl c)
        · exact c
      · rw [if_pos]
        · exact List.mem_append.mpr (.inr (List.mem_singleton.mpr rfl))
        · simp only [Bool.and_eq_true, Bool.not_eq_true', beq_iff_eq]
          exact ⟨List.contains_iff_mem.mpr hr, by rw [← Bool.not_eq_true, List.contains_iff_mem]; exact c, he⟩
    · exact re_closed h1.2 (fun p hp => h2 p (.tail _ hp)) p hp hm he
theorem reP_nodup (ps : List (Int × Int)) (a : Int) : (reP ps a).Nodup := re_nodup (by simp)
section
variable {u : List Int} {bar : Int}
theorem ahead_mem (hn : u.length < 1000) {z : Int} : z ∈ reP (plainP u) 0 ↔ ∃ j : Nat, z = (j : Int) ∧ RR u 0 j := by
  have topo : (plainP u).Pairwise (fun p q => q.2 ≠ p.1) := by
    unfold plainP
    refine List.Pairwise.imp_of_mem (fun {a b} ha hb h e => ?_) ((plc_up hn).filter _)
    obtain ⟨i, j, rfl, h1, h2⟩ := plc_mem.mp (List.mem_filter.mp ha).1
    obtain ⟨i', j', rfl, h1', h2'⟩ := plc_mem.mp (List.mem_filter.mp hb).1
    unfold rk at h
    dsimp only at h e
    exact ar426 h e h1 h1'
  have ne : ∀ p ∈ plainP u, p.2 ≠ p.1 := fun p hp e => by
    obtain ⟨i, j, rfl, h1, _⟩ := plain_mem.mp hp
    dsimp only at e; exact ar427 e h1
  unfold reP
  constructor
  · refine re_sound (P := fun z => ∃ j : Nat, z = (j : Int) ∧ RR u 0 j) (fun z hz => ?_) (fun p hp h he => ?_) z
    · exact ⟨0, List.mem_singleton.mp hz, .refl _⟩
    · obtain ⟨i, j, rfl, h1, h2, h3⟩ := plain_mem.mp hp
      obtain ⟨i', e, hr⟩ := h
      dsimp only at e he ⊢
      have : i' = i := by exact ar428 e
      subst this
      exact ⟨j, rfl, hr.snoc ⟨h1, h2, by omega, h3⟩⟩
  · rintro ⟨j, rfl, h⟩
    have go : ∀ i j, RR u i j → (i : Int) ∈ (plainP u).foldl reStep [0] → (j : Int) ∈ (plainP u).foldl reStep [0] := by
      intro i j h
      induction h with
      | refl i => exact id
      | @step i k j e r ih =>
        intro hm
        refine ih ?_
        have a := e.lt
        have b := e.even
        exact re_closed topo ne ((i : Int), (k : Int)) (plain_mem.mpr ⟨i, k, rfl, e.lt, e.le, e.ps⟩) hm (by dsimp only; omega)
    exact go 0 j h (re_mono (List.mem_singleton.mpr rfl))
theorem ended_topo (hb : bar ∉ u) : ∀ n, n ≤ u.length → (endedP u bar n).Pairwise (fun p q => q.2 ≠ p.1) := by
  intro n hn
  unfold endedP
  rw [List.pairwise_flatMap]
  refine ⟨fun i hi => ?_, ?_⟩
  · rw [List.mem_range] at hi
    rw [List.pairwise_map]
    refine List.Pairwise.imp_of_mem (fun {a b} ha hb' h e => ?_) (chL_down (xs := X2 u bar (u.length - i)) (by rw [X2_len (by exact ar139)]; exact ar384))
    have h2 := (x2_mem hb (by exact ar422 hi hn) (by exact ar139)).mp hb'
    have := h2.1; have := h2.2.1
    dsimp only at e; omega
  · refine List.Pairwise.imp_of_mem (fun {a b} ha hb' h x hx y hy e => ?_) List.pairwise_lt_range
    rw [List.mem_range] at ha hb'
    obtain ⟨s, hs, rfl⟩ := List.mem_map.mp hx
    obtain ⟨t, ht, rfl⟩ := List.mem_map.mp hy
    dsimp only at e; exact ar429 e h ha hn
theorem back_mem (hb : bar ∉ u) {z : Int} : z ∈ reP (endedP u bar u.length) (u.length : Int) ↔ ∃ j : Nat, z = (j : Int) ∧ RR u j u.length := by
  have topo := ended_topo (u := u) hb u.length (Nat.le_refl _)
  have ne : ∀ p ∈ endedP u bar u.length, p.2 ≠ p.1 := fun p hp e => by
    obtain ⟨i, j, rfl, h1, _⟩ := (ended_mem hb).mp hp
    dsimp only at e; exact ar421 e h1
  unfold reP
  constructor
  · refine re_sound (P := fun z => ∃ j : Nat, z = (j : Int) ∧ RR u j u.length) (fun z hz => ?_) (fun p hp h he => ?_) z
    · exact ⟨u.length, List.mem_singleton.mp hz, .refl _⟩
    · obtain ⟨i, j, rfl, h1, h2, h3⟩ := (ended_mem hb).mp hp
      obtain ⟨j', e, hr⟩ := h
      dsimp only at e he ⊢
      have : j' = j := by exact ar428 e
      subst this
      exact ⟨i, rfl, .step ⟨h1, h2, by omega, h3⟩ hr⟩
  · rintro ⟨j, rfl, h⟩
    have go : ∀ i j, RR u i j → (j : Int) ∈ (endedP u bar u.length).foldl reStep [(u.length : Int)] → (i : Int) ∈ (endedP u bar u.length).foldl reStep [(u.length : Int)] := by
      intro i j h
      induction h with
      | refl i => exact id
      | @step i k j e r ih =>
        intro hm
        have a := e.lt
        have b := e.even
        exact re_closed topo ne ((k : Int), (i : Int)) ((ended_mem hb).mpr ⟨i, k, rfl, e.lt, e.le, e.ps⟩) (ih hm) (by dsimp only; omega)
    exact go j u.length h (re_mono (List.mem_singleton.mpr rfl))
theorem cst_up {l : List Nat} (h : l.Pairwise (· < ·)) : (cst l).Pairwise (· < ·) := by
  unfold cst
  rw [List.pairwise_map]
  exact h.imp fun {a b} q => by exact ar430 q
theorem nodup_of_lt {l : List Int} (h : l.Pairwise (· < ·)) : l.Nodup := h.imp fun {a b} q e => by exact ar431 q e
theorem ahead_perm (hu : 1 ≤ u.length) (hn : u.length < 1000) : (cst (shP u)).Perm (reP (plainP u) 0) :=
  (List.perm_ext_iff_of_nodup (nodup_of_lt (cst_up (shP_up hu))) (reP_nodup _ _)).mpr fun z => by
    rw [ahead_mem hn]
    unfold cst
    rw [List.mem_map]
    constructor
    · rintro ⟨j, hj, rfl⟩; exact ⟨j, rfl, (shP_mem hu).mp hj⟩
    · rintro ⟨j, rfl, h⟩; exact ⟨j, (shP_mem hu).mpr h, rfl⟩
theorem ahead_up (hu : 1 ≤ u.length) : (cst (shP u)).Pairwise (· ≤ ·) := (cst_up (shP_up hu)).imp fun {a b} h => by exact ar182 h
noncomputable def bhL (u : List Int) : List Int := (cst (shP u.reverse)).map fun c => (u.length : Int) - c
theorem shP_le (hu : 1 ≤ u.length) {c : Nat} (h : c ∈ shP u) : c ≤ u.length := by
  have h := (shP_mem hu).mp h
  rcases Nat.eq_zero_or_pos c with z | z
  · exact ar282 z
  · exact h.len z
theorem bhL_mem (hu : 1 ≤ u.length) {z : Int} : z ∈ bhL u ↔ ∃ j : Nat, z = (j : Int) ∧ RR u j u.length := by
  have hur : 1 ≤ u.reverse.length := by rw [List.length_reverse]; exact hu
  unfold bhL cst
  rw [List.map_map, List.mem_map]
  constructor
  · rintro ⟨c, hc, rfl⟩
    have hle := shP_le hur hc
    rw [List.length_reverse] at hle
    exact ⟨u.length - c, by simp only [Function.comp]; exact ar161 hle, (shP_rev hu hle).mp hc⟩
  · rintro ⟨j, rfl, h⟩
    have hle := h.le
    refine ⟨u.length - j, (shP_rev hu (by exact ar139)).mpr ?_, by simp only [Function.comp]; exact ar432 hle⟩
    rw [show u.length - (u.length - j) = j from by exact ar368 hle]; exact h
theorem bhL_up (hu : 1 ≤ u.length) : (bhL u).reverse.Pairwise (· < ·) := by
  unfold bhL
  rw [List.pairwise_reverse, List.pairwise_map]
  exact (cst_up (shP_up (by rw [List.length_reverse]; exact hu))).imp fun {a b} h => by exact ar433 h
theorem back_perm (hu : 1 ≤ u.length) (hb : bar ∉ u) : (if (cst (shP u)).contains (u.length : Int) then cst (shP u) else (bhL u).reverse).Perm (reP (endedP u bar u.length) (u.length : Int)) := by
  split
  · rename_i h
    refine (List.perm_ext_iff_of_nodup (nodup_of_lt (cst_up (shP_up hu))) (reP_nodup _ _)).mpr fun z => ?_
    rw [back_mem hb]
    have h := List.contains_iff_mem.mp h
    unfold cst at h ⊢
    rw [List.mem_map] at h ⊢
    obtain ⟨n, hn, e⟩ := h
    have : n = u.length := by exact ar434 e
    subst this
    have h0 := (shP_mem hu).mp hn
    constructor
    · rintro ⟨j, hj, rfl⟩
      exact ⟨j, rfl, (both h0 (shP_le hu hj)).mpr ((shP_mem hu).mp hj)⟩
    · rintro ⟨j, rfl, h⟩
      exact ⟨j, (shP_mem hu).mpr ((both h0 h.le).mp h), rfl⟩
  · refine (List.perm_ext_iff_of_nodup (nodup_of_lt (bhL_up hu)) (reP_nodup _ _)).mpr fun z => ?_
    rw [back_mem hb, List.mem_reverse, bhL_mem hu]
theorem back_up (hu : 1 ≤ u.length) : (if (cst (shP u)).contains (u.length : Int) then cst (shP u) else (bhL u).reverse).Pairwise (· ≤ ·) := by
  split
  · exact ahead_up hu
  · exact (bhL_up hu).imp fun {a b} h => by exact ar182 h
end
end Mine
end

section
set_option Elab.async false
set_option linter.unusedVariables false
namespace Mine
noncomputable def toB (n : Int) : UInt8 := n.toNat.toUInt8
theorem toB_back {n : Int} (h0 : 0 ≤ n) (h1 : n < 256) : ((toB n).toNat : Int) = n := by
  unfold toB
  have : n.toNat < 256 := by exact ar512 h1
  simp [Nat.mod_eq_of_lt this]
  exact ar513 h0
theorem bytes_back {row : List Int} (h : ∀ n ∈ row, 0 ≤ n ∧ n < 256) : (row.map toB).map (fun u => (u.toNat : Int)) = row := by
  rw [List.map_map]
  conv => rhs; rw [← List.map_id row]
  exact List.map_congr_left fun n hn => toB_back (h n hn).1 (h n hn).2
end Mine
end

section
set_option Elab.async false
set_option linter.unusedVariables false
namespace Mine
/-! ## tables -/
theorem swp_cons {b c : List UInt8} : swp (b ++ c) b.length = b.reverse ++ swp c b.length := by
  refine List.ext_getElem (by simp [swp]) fun p h1 h2 => ?_
  have hp : p < b.length + c.length := by simpa [swp] using h1
  simp only [swp, List.getElem_map, List.getElem_range]
  rcases Nat.lt_or_ge p b.length with q | q
  · rw [List.getElem_append_left (by simpa using q), List.getElem_reverse]
    unfold tgt
    rw [Nat.div_eq_of_lt q, Nat.mod_eq_of_lt q, Nat.zero_mul, Nat.zero_add]
    simp [List.getD, List.getElem?_append, show b.length - 1 - p < b.length from by exact ar18 q]
  · rw [List.getElem_append_right (by simpa using q)]
    simp only [List.length_reverse, List.getElem_map, List.getElem_range]
    unfold tgt
    rcases Nat.eq_zero_or_pos b.length with z | z
    · have : b = [] := List.eq_nil_of_length_eq_zero z
      subst this
      rfl
    · have e1 : p / b.length = (p - b.length) / b.length + 1 := by
        conv => lhs; rw [show p = p - b.length + b.length from by exact ar306 q]
        exact Nat.add_div_right _ z
      have e2 : p % b.length = (p - b.length) % b.length := by
        conv => lhs; rw [show p = p - b.length + b.length from by exact ar306 q]
        exact Nat.add_mod_right _ _
      rw [e1, e2, Nat.succ_mul]
      have := Nat.mod_lt (p - b.length) z
      simp only [List.getD]
      rw [List.getElem?_append_right (by exact ar307)]
      congr 2
      exact ar308
end Mine
end

section
set_option Elab.async false
set_option linter.unusedVariables false
namespace Mine
theorem drawStep2_ge {sg row : List Int} {n : Int} : row.length + 2 ≤ (drawStep2 sg row n).length := by
  unfold drawStep2
  split
  · simp
  · split <;> simp <;> omega
theorem drawnP2_ge {sg : List Int} (ns : List Int) : 2 * ns.length ≤ (drawnP2 sg ns).length := by
  have go : ∀ (l : List Int) (row : List Int), row.length + 2 * l.length ≤ (l.foldl (drawStep2 sg) row).length := by
    intro l
    induction l with
    | nil => intro row; simp
    | cons a l ih =>
      intro row
      have h1 := ih (drawStep2 sg row a)
      have h2 := drawStep2_ge (sg := sg) (row := row) (n := a)
      rw [List.foldl_cons, List.length_cons]; exact ar435 h2 h1
  have := go ns []
  simpa [drawnP2] using this
theorem flat_bound {α β : Type} {l : List α} {f : α → List β} {b : Nat} (h : ∀ a ∈ l, (f a).length ≤ b) : (l.flatMap f).length ≤ l.length * b := by
  induction l with
  | nil => simp
  | cons a l ih =>
    rw [List.flatMap_cons, List.length_append, List.length_cons, Nat.succ_mul]
    have := h a (.head _)
    have := ih fun x hx => h x (.tail _ hx)
    exact ar436 (by assumption) this
theorem begunP_len {u : List Int} {bar : Int} {n : Nat} (hn : n ≤ u.length) (h13 : u.length ≤ 13) : (begunP u bar n).length ≤ n * 28 := by
  unfold begunP
  have := flat_bound (l := List.range n) (f := fun i => (chL (X1 u bar i)).map fun (k : Nat) => ((i : Int), ((i + k : Nat) : Int))) (b := 28) fun i hi => by
    rw [List.mem_range] at hi
    have := chL_len (xs := X1 u bar i)
    rw [X1_len (by exact ar262 hi hn)] at this
    rw [List.length_map]; exact ar437 this h13
  rwa [List.length_range] at this
theorem endedP_len {u : List Int} {bar : Int} {n : Nat} (hn : n ≤ u.length) (h13 : u.length ≤ 13) : (endedP u bar n).length ≤ n * 28 := by
  unfold endedP
  have := flat_bound (l := List.range n) (f := fun i => (chL (X2 u bar (u.length - i))).map fun (k : Nat) => (((u.length - i : Nat) : Int), ((u.length - i - k : Nat) : Int))) (b := 28) fun i hi => by
    rw [List.mem_range] at hi
    have := chL_len (xs := X2 u bar (u.length - i))
    rw [X2_len (by exact ar139)] at this
    rw [List.length_map]; exact ar437 this h13
  rwa [List.length_range] at this
theorem begunP_succ {u : List Int} {bar : Int} (n : Nat) : begunP u bar (n + 1) = begunP u bar n ++ (chL (X1 u bar n)).map fun (k : Nat) => ((n : Int), ((n + k : Nat) : Int)) := by
  unfold begunP; rw [List.range_succ, List.flatMap_append]; simp
theorem endedP_succ {u : List Int} {bar : Int} (n : Nat) : endedP u bar (n + 1) = endedP u bar n ++ (chL (X2 u bar (u.length - n))).map fun (k : Nat) => (((u.length - n : Nat) : Int), ((u.length - n - k : Nat) : Int)) := by
  unfold endedP; rw [List.range_succ, List.flatMap_append]; simp
theorem plcP_len {n : Nat} (h : n ≤ 13) : (plcP n).length ≤ 91 := by
  have : ((List.range 14).all fun n => decide ((plcP n).length ≤ 91)) = true := by decide +kernel
  rw [List.all_eq_true] at this
  simpa using this n (List.mem_range.mpr (by exact ar438 h))
theorem plainP_len {u : List Int} (h : u.length ≤ 13) : (plainP u).length ≤ 91 := Nat.le_trans (List.length_filter_le _ _) (plcP_len h)
theorem swp_pair {a b : List UInt8} {n : Nat} (ha : a.length = n) (hb : b.length = n) : swp (a ++ b) n = a.reverse ++ b.reverse := by
  subst ha
  rw [swp_cons]
  have := swp_cons (b := b) (c := [])
  rw [List.append_nil] at this
  rw [← hb, this]
  simp [swp]
end Mine
end

section
open PySem PyProof.Rows
set_option Elab.async false
set_option linter.unusedVariables false
set_option maxRecDepth 100000
namespace Mine
section
variable {prog : Program} {w : World} {A : Around} {E : Value → Shared → Prop} {s : Shared} {env : Env}
theorem compLoop_in {elt tgt iter : Expr} {g1 : Comprehension} {scope : Scope} {pos : Pos} {it acc : Value} {R : Result → Shared → Prop} (I : Nat → Shared → Prop)
    (turn : ∀ n s, I n s → wpAny (model prog w) A (pyNext it) (fun r s₁ => match r with
      | none => R (.ok .next) s₁
      | some v => wpAny (model prog w) A (letOwnedTupleGo tgt it v) (fun _ s₁' => wpAny (model prog w) A (assign tgt env v) (fun _ s₂ =>
          wpAny (model prog w) A (eval elt env) (fun x s₄ =>
              wpAny (model prog w) A (call (.builtin "list.append") [acc, x]) (fun _ s₅ => ∃ m, m < n ∧ I m s₅) (notedBy (model prog w) A env fun e s' => R (.error e) s') s₄) (notedBy (model prog w) A env fun e s' => R (.error e) s') s₂) (notedBy (model prog w) A env fun e s' => R (.error e) s') s₁') (notedBy (model prog w) A env fun e s' => R (.error e) s') s₁) (notedBy (model prog w) A env fun e s' => R (.error e) s') s)
    (n : Nat) (h : I n s) : codeAny (model prog w) A (.compLoop (.ListComp elt [g1, ⟨tgt, iter, [], 0⟩] scope pos) 1 it acc env) R s := by
  refine codeAny_loop rfl I (fun n s hI => ?_) n h
  show wpAny _ A ((compTurn (.ListComp elt [g1, ⟨tgt, iter, [], 0⟩] scope pos) 1 it acc env).onRaise (fun x => do noteFrame x env; theTreesLotGoes x)) _ _ s
  refine wpAny_noted ?_
  unfold compTurn
  refine wpAny_bind (wpAny_standAt (wpAny_bind (wpAny_mono (turn n s hI) (fun r s₁ h₁ => ?_) fun _ _ h' => h')))
  cases r with
  | none => exact wpAny_pure h₁
  | some v =>
    refine wpAny_bind (wpAny_mono h₁ (fun _ s₁' h₁' => ?_) fun _ _ h' => h')
    refine wpAny_bind (wpAny_mono h₁' (fun _ s₂ h₂ => ?_) fun _ _ h' => h')
    refine wpAny_bind (wpAny_tests_nil ?_)
    exact wpAny_bind (wpAny_bind (wpAny_mono h₂ (fun x s₄ h₄ => wpAny_bind (wpAny_mono h₄ (fun _ s₅ h₅ => wpAny_pure (wpAny_pure ⟨rfl, h₅⟩)) fun _ _ h' => h')) fun _ _ h' => h'))
theorem compLoop_out {elt tgt iter tgt2 iter2 : Expr} {scope : Scope} {pos : Pos} {it acc : Value} {R : Result → Shared → Prop} (I : Nat → Shared → Prop)
    (turn : ∀ n s, I n s → wpAny (model prog w) A (pyNext it) (fun r s₁ => match r with
      | none => R (.ok .next) s₁
      | some v => wpAny (model prog w) A (letOwnedTupleGo tgt it v) (fun _ s₁' => wpAny (model prog w) A (assign tgt env v) (fun _ s₂ =>
          wpAny (model prog w) A (eval iter2 env) (fun x s₄ => wpAny (model prog w) A (pyIter x) (fun it2 s₅ =>
            codeAny (model prog w) A (.compStart (.ListComp elt [⟨tgt, iter, [], 0⟩, ⟨tgt2, iter2, [], 0⟩] scope pos) 1 it2 acc env) (fun r s₆ => match r with
              | .ok _ => ∃ m, m < n ∧ I m s₆
              | .error _ => False) s₅) (notedBy (model prog w) A env fun e s' => R (.error e) s') s₄) (notedBy (model prog w) A env fun e s' => R (.error e) s') s₂) (notedBy (model prog w) A env fun e s' => R (.error e) s') s₁') (notedBy (model prog w) A env fun e s' => R (.error e) s') s₁) (notedBy (model prog w) A env fun e s' => R (.error e) s') s)
    (n : Nat) (h : I n s) (hfs : ∀ x, foldedSetIterable iter2 env x = pure x) : codeAny (model prog w) A (.compLoop (.ListComp elt [⟨tgt, iter, [], 0⟩, ⟨tgt2, iter2, [], 0⟩] scope pos) 0 it acc env) R s := by
  refine codeAny_loop rfl I (fun n s hI => ?_) n h
  show wpAny _ A ((compTurn (.ListComp elt [⟨tgt, iter, [], 0⟩, ⟨tgt2, iter2, [], 0⟩] scope pos) 0 it acc env).onRaise (fun x => do noteFrame x env; theTreesLotGoes x)) _ _ s
  refine wpAny_noted ?_
  unfold compTurn
  refine wpAny_bind (wpAny_standAt (wpAny_bind (wpAny_mono (turn n s hI) (fun r s₁ h₁ => ?_) fun _ _ h' => h')))
  cases r with
  | none => exact wpAny_pure h₁
  | some v =>
    refine wpAny_bind (wpAny_mono h₁ (fun _ s₁' h₁' => ?_) fun _ _ h' => h')
    refine wpAny_bind (wpAny_mono h₁' (fun _ s₂ h₂ => ?_) fun _ _ h' => h')
    refine wpAny_bind (wpAny_tests_nil ?_)
    refine wpAny_bind (wpAny_mono h₂ (fun x s₄ h₄ => ?_) fun _ _ h' => h')
    refine wpAny_bind (wpAny_standAt ?_)
    refine wpAny_bind (wpAny_of_eq (hfs x) ?_)
    refine wpAny_bind (wpAny_holding (wpAny_mono h₄ (fun it2 s₅ h₅ => ?_) fun _ _ h' => h'))
    refine wpAny_bind (wpAny_runOwn (codeAny_mono h₅ fun r s₆ h₆ => ?_))
    cases r with
    | ok f => exact wpAny_pure ⟨rfl, h₆⟩
    | error e => exact h₆.elim
theorem compStart_in {elt tgt iter : Expr} {g1 : Comprehension} {scope : Scope} {pos : Pos} {it acc : Value} {R : Result → Shared → Prop}
    (h0 : codeAny (model prog w) A (.compLoop (.ListComp elt [g1, ⟨tgt, iter, [], 0⟩] scope pos) 1 it acc env) R s)
    (h : wpAny (model prog w) A (pyIter it) (fun it' s' => codeAny (model prog w) A (.compLoop (.ListComp elt [g1, ⟨tgt, iter, [], 0⟩] scope pos) 1 it' acc env) R s')
      (notedBy (model prog w) A env fun x s' => R (.error x) s') s) :
    codeAny (model prog w) A (.compStart (.ListComp elt [g1, ⟨tgt, iter, [], 0⟩] scope pos) 1 it acc env) R s := by
  refine codeAny_of_tree ?_
  show wpAny _ _ ((compStart (.ListComp elt [g1, ⟨tgt, iter, [], 0⟩] scope pos) 1 it acc env).onRaise (fun x => do noteFrame x env; standAt theWindowsPlace)) _ _ s
  refine wpAny_notedAt ?_
  unfold compStart
  show wpAny _ _ (ask >>= _) _ _ s
  refine wpAny_bind (wpAny_askSetting (wpAny_ite ?_))
  split
  · first
      | exact wpAny_bind (wpAny_pure (wpAny_pure (And.intro rfl h0)))
      | exact wpAny_pure (And.intro rfl h0)
  · first
      | exact wpAny_bind (wpAny_rule (wpAny_bind (wpAny_standAt (wpAny_bind (wpAny_mono h (fun it' s' h' => wpAny_pure (And.intro rfl h')) fun _ _ x => x)))))
      | (refine wpAny_bind (wpAny_rule ?_); show wpAny _ _ (standAt iter.pos >>= _) _ _ s; exact wpAny_bind (wpAny_standAt (wpAny_bind (wpAny_mono h (fun it' s' h' => wpAny_pure (And.intro rfl h')) fun _ _ x => x))))
end
end Mine
end

section
open PySem PyProof.Rows
set_option Elab.async false
set_option linter.unusedVariables false
set_option maxRecDepth 100000
namespace Mine
theorem flat_at {α β : Type} {l : List α} {i : Nat} {d : α} (h : l[i]? = some d) (F : α → List β) : (l.take (i + 1)).flatMap F = (l.take i).flatMap F ++ F d := by
  rw [List.take_add_one, h, List.flatMap_append]; simp
theorem flat_le {α β : Type} {l : List α} {i : Nat} (F : α → List β) : ((l.take i).flatMap F).length ≤ (l.flatMap F).length := by
  have : l.flatMap F = (l.take i).flatMap F ++ (l.drop i).flatMap F := by rw [← List.flatMap_append, List.take_append_drop]
  rw [this, List.length_append]; exact ar563
section
variable {prog : Program} {w : World} {G : Glo} {env : Env} {X : Addr → Prop} {GN : List (Str × NameKind)} {st : List (Str × Slot)} {A : Around}
theorem comp_core2 {elt iter iter2 : Expr} {scope : Scope} {pos px py : Pos} {x y : Str} {items : List V} {items2 : V → List V} {cap : List (Str × Slot)} {g : V → V → V} {s₂ : Shared} {h₀ h₁ : Heap} {I : Addr} {fp wr : List Addr} {St : Nat → Heap → Prop}
    {RR : Value → Addr → Result → Shared → Prop} {E : Value → Shared → Prop}
    (W : Wk prog w A X h₁ I (.Name x px) [x] (items.map fun d => [d]) fp wr St) (hst : St 0 s₂.heap) (hfp : ∀ b ∈ fp, b < s₂.heap.objs.size) (k1 : HK h₀ h₁) (k2 : HK h₁ s₂.heap)
    (r : RelE G env X GN st h₀) (hs : ScopeOk scope GN [x, y]) (hcap : Cap st scope.names cap) (hsz : (items.flatMap fun d => (items2 d).map (g d)).length ≤ sizeLine)
    (hi2 : ∀ d ∈ items, ∀ X cenv, EvW prog w G cenv X (frees scope.names) (bnd [x] [d] ++ cap) A iter2 (.Name y py) [y] ((items2 d).map fun e => [e]))
    (hel : ∀ d ∈ items, ∀ e ∈ items2 d, ∀ X cenv, Ev prog w G cenv X (frees scope.names) (bnd [x, y] [d, e] ++ cap) A elt (g d e))
    (hfs : ∀ cenv x, foldedSetIterable iter2 cenv x = pure x)
    (hRR : ∀ D C h' tk m' ys n, s₂.heap.get? D = none → s₂.heap.get? C = none → D ≠ C → h'.Ns C m' → h'.get? D = some (lobj ys n) → DenL X h' (items.flatMap fun d => (items2 d).map (g d)) ys → (∀ b o, b ∉ wr → s₂.heap.get? b = some o → h'.get? b = some o) →
      RR (.ref D) C (.ok .next) { s₂ with heap := h', toks := tk }) :
    wpAny (model prog w) A (newList []) (fun acc s₃ => wpAny (model prog w) A (newFunctionEnv scope env.globals (closL env scope.names []) [] env.qual none .none (some env)) (fun cenv s₄ =>
      codeAny (model prog w) A (.compStart (.ListComp elt [⟨.Name x px, iter, [], 0⟩, ⟨.Name y py, iter2, [], 0⟩] scope pos) 0 (.ref I) acc { cenv with scope := relabel scope env }) (RR acc cenv.locals) s₄) E s₃) E s₂ := by
  have hs1 : ScopeOk scope GN [x] := ⟨hs.look, hs.nocell, hs.free, hs.nodebug, hs.kind, fun z hz => hs.loc z (by rw [List.mem_singleton.mp hz]; exact .head _), by simp⟩
  have hxy : x ≠ y := by have := hs.nodup; simp at this; exact this
  refine wpAny_newObj_type (wpAny_newFunctionEnv hs.nocell (by intro y hy; simp at hy) (fun h₃ hns₁ hsb₁ => ?_) hs.kind)
  dsimp only at hns₁ hsb₁ ⊢
  generalize hH2 : s₂.heap.push { cls := .type "list", dict := none, data := .seq ([] : List Value).toArray } = H2 at hns₁ hsb₁ ⊢
  have hC : H2.objs.size = s₂.heap.objs.size + 1 := by rw [← hH2, Heap.size_push]
  have hDC : s₂.heap.objs.size ≠ H2.objs.size := by rw [hC]; exact Nat.ne_of_lt (Nat.lt_succ_self _)
  have below : ∀ b, b < s₂.heap.objs.size → b ≠ H2.objs.size ∧ b ≠ s₂.heap.objs.size := fun b hb => ⟨by rw [hC]; exact Nat.ne_of_lt (Nat.lt_succ_of_lt hb), Nat.ne_of_lt hb⟩
  have hDf : s₂.heap.objs.size ∉ fp := fun hm => Nat.lt_irrefl _ (hfp _ hm)
  have hCf : H2.objs.size ∉ fp := fun hm => by have := hfp _ hm; rw [hC] at this; exact Nat.lt_irrefl _ (Nat.lt_of_succ_lt this)
  have hDw : s₂.heap.objs.size ∉ wr := fun hm => hDf (W.sub _ hm)
  have hCw : H2.objs.size ∉ wr := fun hm => hCf (W.sub _ hm)
  have old : ∀ b o, s₂.heap.get? b = some o → h₃.get? b = some o := fun b o e => hsb₁.extBut b o (below b (Heap.lt_size e)).1 (Heap.get?_push_of_some _ (hH2 ▸ Heap.get?_push_of_some _ e))
  have hacc : h₃.get? s₂.heap.objs.size = some (lobj [] 0) := hsb₁.extBut _ _ hDC (Heap.get?_push_of_some _ (hH2 ▸ Heap.get?_push_size _ rfl))
  have hst₁ : St 0 h₃ := W.frame _ _ _ hst fun b _ o e => old b o e
  generalize hDD : s₂.heap.objs.size = D at *
  generalize hCC : H2.objs.size = C at *
  have r1 : RelE G env X GN st h₁ := r.keeps k1
  have below1 : ∀ b o, h₁.get? b = some o → b ≠ C ∧ b ≠ D ∧ b ∉ wr := fun b o e => by
    have hlt := Heap.lt_size (k2 _ _ e)
    rw [hDD] at hlt
    exact ⟨(below b hlt).1, (below b hlt).2, fun q => by rw [W.fresh b q] at e; cases e⟩
  -- the environment of the comprehension, at any heap that kept what it must
  have relAt : ∀ (X' : Addr → Prop) (h' : Heap) (m : Str → Option Value) (zs : List Str) (ds : List V) (vals : List Value), ScopeOk scope GN zs → HK h₁ h' → (∀ a, X a → X' a) → (∀ a o, X' a → h₁.get? a = some o → X a) → (∀ a, X' a → ∃ o, h'.get? a = some o) →
      h'.Ns C m → DenL X' h' ds vals → (∀ (i : Nat) x v, zs[i]? = some x → vals[i]? = some v → m x = some v) → RelE G (compEnvC scope (closL env scope.names []) C env) X' (frees scope.names) (bnd zs ds ++ cap) h' := by
    intro X' h' m zs ds vals hz hk hx1 hx2 hx3 hN hD hm
    have r5' : RelE G env X' GN st h' := {
      g := G.keeps _ _ r1.g hk
      kd := r1.kd
      gl := r1.gl
      bl := r1.bl
      gn := r1.gn
      cn := r1.cn
      nd := r1.nd
      xo := hx3
      vars := fun p hp => (slot_more hx2 hx1 (r1.vars p hp)).keeps hk }
    exact relC hz hcap r5' hN hD hm
  generalize hcenv : compEnvC scope (closL env scope.names []) C env = cenv at relAt
  have hkl : ∀ z ∈ [x, y], cenv.kindOf z = some .local := fun z hz => by rw [← hcenv]; exact lookup_relabel_local (hs.loc z hz)
  have hloc : cenv.locals = C := by rw [← hcenv]; rfl
  have hkd : (cenv.scope.kind == .class || (cenv.scope.kind == .module && cenv.locals != cenv.globals)) = false := by rw [← hcenv]; simp [compEnvC, relabel, hs.kind]
  have hlen : (items.map fun d => [d]).length = items.length := List.length_map ..
  have main : ∀ s₃ : Shared, s₃ = { s₂ with heap := h₃, toks := s₂.toks + ([] : List (Str × Value)).length } →
      codeAny (model prog w) A (.compLoop (.ListComp elt [⟨.Name x px, iter, [], 0⟩, ⟨.Name y py, iter2, [], 0⟩] scope pos) 0 (.ref I) (.ref D) cenv) (RR (.ref D) C) s₃ := by
    rintro s₃ rfl
    refine compLoop_out (fun k s' => ∃ h' tk m' ys n i, s' = { s₂ with heap := h', toks := tk } ∧ St i h' ∧ h'.get? D = some (lobj ys n) ∧ h'.Ns C m' ∧ DenL (fun b => X b ∨ b ∈ wr ∨ b = D) h' ((items.take i).flatMap fun d => (items2 d).map (g d)) ys ∧ i ≤ items.length ∧ k = items.length + 1 - i ∧
      (∀ b o, b ∉ wr → b ≠ C → b ≠ D → s₂.heap.get? b = some o → h'.get? b = some o)) ?_ (items.length + 1)
      ⟨h₃, _, _, [], 0, 0, rfl, hst₁, hacc, hns₁, by simp only [List.take_zero, List.flatMap_nil, DenL], Nat.zero_le _, rfl, fun b o _ _ _ e => old b o e⟩ (fun x => hfs _ x)
    rintro k s' ⟨h', tk, m', ys, n, i, rfl, hSt, hD, hN, hY, hi, rfl, hK⟩
    have upto : HK h₁ h' := fun b o e => hK b o (below1 b o e).2.2 (below1 b o e).1 (below1 b o e).2.1 (k2 _ _ e)
    by_cases hlt : i < items.length
    · have hit : items[i]? = some items[i] := List.getElem?_eq_getElem hlt
      generalize hd : items[i] = d at hit
      have hdm : d ∈ items := List.mem_of_getElem? hit
      refine wpAny_mono (W.item i [d] _ cenv
        (fun _ s₂' => wpAny (model prog w) A (eval iter2 cenv) (fun z1 s₄ => wpAny (model prog w) A (pyIter z1) (fun it2 s₅ =>
            codeAny (model prog w) A (.compStart (.ListComp elt [⟨.Name x px, iter, [], 0⟩, ⟨.Name y py, iter2, [], 0⟩] scope pos) 1 it2 (.ref D) cenv) (fun r s₆ => match r with
              | .ok _ => ∃ m, m < items.length + 1 - i ∧ ∃ h' tk m' ys n j, s₆ = { s₂ with heap := h', toks := tk } ∧ St j h' ∧ h'.get? D = some (lobj ys n) ∧ h'.Ns C m' ∧ DenL (fun b => X b ∨ b ∈ wr ∨ b = D) h' ((items.take j).flatMap fun d => (items2 d).map (g d)) ys ∧ j ≤ items.length ∧ m = items.length + 1 - j ∧
                (∀ b o, b ∉ wr → b ≠ C → b ≠ D → s₂.heap.get? b = some o → h'.get? b = some o)
              | .error _ => False) s₅) (notedBy (model prog w) A cenv fun e s' => RR (.ref D) C (.error e) s') s₄) (notedBy (model prog w) A cenv fun e s' => RR (.ref D) C (.error e) s') s₂')
        (notedBy (model prog w) A cenv fun e s' => RR (.ref D) C (.error e) s') (by rw [List.getElem?_map, hit]; rfl) hSt (Hold.of_hk upto) ?_)
        (fun v s₁ hv => ?_) fun _ _ e => e
      · intro vals h4 tk4 hDv hlen1 hSt4 hk4
        have hvl := hDv.length
        have upto4 : HK h₁ h4 := fun b o e => hk4 b o (below1 b o e).2.2 (upto b o e)
        have hN4 : h4.Ns C m' := hN.at' fun o e => hk4 _ o hCw e
        refine bindAll_local (env := cenv) [x] vals _ m' _ (fun z hz => hkl z (by rw [List.mem_singleton.mp hz]; exact .head _)) (by simp) hkd (by rw [hloc]; exact hN4) (by rw [hvl, hlen1]) fun h5 tk5 m5 hN5 hb5 _ hs5 => ?_
        rw [hloc] at hN5 hs5
        have keep5 : ∀ b o, b ≠ C → h4.get? b = some o → h5.get? b = some o := fun b o hb e => hs5.extBut b o hb e
        have upto5 : HK h₁ h5 := fun b o e => keep5 b o (below1 b o e).1 (upto4 b o e)
        have hD5 : h5.get? D = some (lobj ys n) := keep5 _ _ hDC (hk4 _ _ hDw hD)
        have hSt5 : St (i + 1) h5 := W.frame _ _ _ hSt4 fun b hb o e => keep5 b o (fun q => hCf (q ▸ hb)) e
        have newX : ∀ a o, (X a ∨ a ∈ wr ∨ a = D) → h₁.get? a = some o → X a := fun a o q e => by
          rcases q with q | q | q
          · exact q
          · exact absurd q (below1 a o e).2.2
          · exact absurd q (below1 a o e).2.1
        have xo5 : ∀ h'', HK h₁ h'' → (∀ b ∈ wr, ∃ o, h''.get? b = some o) → (∃ o, h''.get? D = some o) → ∀ a, (X a ∨ a ∈ wr ∨ a = D) → ∃ o, h''.get? a = some o := fun h'' a1 a2 a3 a q => by
          rcases q with q | q | q
          · obtain ⟨o, e⟩ := r1.xo a q; exact ⟨o, a1 _ _ e⟩
          · exact a2 a q
          · rw [q]; exact a3
        have r5 := relAt (fun b => X b ∨ b ∈ wr ∨ b = D) h5 m5 [x] [d] vals hs1 upto5 (fun _ q => .inl q) newX (xo5 h5 upto5 (W.alive _ _ hSt5) ⟨_, hD5⟩) hN5 ((DenL.imp newX (fun _ _ _ e => e) _ _ hDv).keeps upto5) hb5
        have hK5 : ∀ b o, b ∉ wr → b ≠ C → b ≠ D → s₂.heap.get? b = some o → h5.get? b = some o := fun b o b1 b2 b3 e => keep5 b o b2 (hk4 b o b1 (hK b o b1 b2 b3 e))
        have hY5 : DenL (fun b => X b ∨ b ∈ wr ∨ b = D) h5 ((items.take i).flatMap fun d => (items2 d).map (g d)) ys := by
          refine DenL.hold (fun b o xs' n' hx e hd => ?_) _ _ hY
          have hbC : b ≠ C := fun q => by
            subst q
            obtain ⟨oc, es, ep, ec, dc, _⟩ := hN
            rw [ec] at e; cases e
            rw [dc] at hd; cases hd
          exact keep5 b o hbC (hk4 b o (fun q => hx (.inr (.inl q))) e)
        refine wpAny_mono (hi2 d hdm _ _ _ _ r5) (fun xv s6 q6 => ?_) fun _ _ e => e
        obtain ⟨⟨h6, tk6, rfl, hk6⟩, h61, k61, k62, hq⟩ := q6
        refine hq _ _ fun I2 fp2 wr2 St2 s7 W2 hst2 hfp2 K7 => ?_
        obtain ⟨h7, tk7, rfl, hk7⟩ := K7
        dsimp only at hst2 hfp2 hk7 k62 hk6 k61
        have k57 : HK h5 h7 := fun b o e => hk7 b o (hk6 b o e)
        have k617 : HK h61 h7 := fun b o e => hk7 b o (k62 b o e)
        have hD7 := k57 _ _ hD5
        have hN7 : h7.Ns C m5 := hN5.at' fun o e => k57 _ o e
        have fr2 : ∀ b o, h61.get? b = some o → b ∉ wr2 := fun b o e q => by rw [W2.fresh b q] at e; cases e
        have hDf2 : D ∉ fp2 := fun q => by
          have e := k61 _ _ hD5
          rcases W2.foot _ q with z | ⟨z, _⟩
          · rw [z] at e; cases e
          · exact z (.inr (.inr rfl))
        have hCf2 : C ∉ fp2 := fun q => by
          obtain ⟨oc, es, ep, ec, dc, _⟩ := hN5
          have e := k61 _ _ ec
          rcases W2.foot _ q with z | ⟨_, o, xs, n, z, zd⟩
          · rw [z] at e; cases e
          · rw [e] at z; cases z
            rw [dc] at zd; cases zd
        have hDw2 : D ∉ wr2 := fun q => hDf2 (W2.sub _ q)
        have hCw2 : C ∉ wr2 := fun q => hCf2 (W2.sub _ q)
        obtain ⟨v0, hv0⟩ : ∃ v0, vals = [v0] := len1 (hvl.trans hlen1)
        subst hv0
        have hmx : m5 x = some v0 := hb5 0 x v0 rfl rfl
        have hDv0 : Den X h₁ d v0 := by
          simp only [DenL] at hDv
          obtain ⟨v, vs', e, h1, _⟩ := hDv
          cases e; exact h1
        have hl2 : ((items2 d).map fun e => [e]).length = (items2 d).length := List.length_map ..
        have inner : codeAny (model prog w) A (.compLoop (.ListComp elt [⟨.Name x px, iter, [], 0⟩, ⟨.Name y py, iter2, [], 0⟩] scope pos) 1 (.ref I2) (.ref D) cenv) (fun r s₆ => match r with
              | .ok _ => ∃ m, m < items.length + 1 - i ∧ ∃ h' tk m' ys n j, s₆ = { s₂ with heap := h', toks := tk } ∧ St j h' ∧ h'.get? D = some (lobj ys n) ∧ h'.Ns C m' ∧ DenL (fun b => X b ∨ b ∈ wr ∨ b = D) h' ((items.take j).flatMap fun d => (items2 d).map (g d)) ys ∧ j ≤ items.length ∧ m = items.length + 1 - j ∧
                (∀ b o, b ∉ wr → b ≠ C → b ≠ D → s₂.heap.get? b = some o → h'.get? b = some o)
              | .error _ => False) { s₂ with heap := h7, toks := tk7 } := by
          refine compLoop_in (fun k s' => ∃ h' tk m' ys n j, s' = { s₂ with heap := h', toks := tk } ∧ St2 j h' ∧ h'.get? D = some (lobj ys n) ∧ h'.Ns C m' ∧ m' x = some v0 ∧ DenL (fun b => (X b ∨ b ∈ wr ∨ b = D) ∨ b ∈ wr2) h' (((items.take i).flatMap fun d => (items2 d).map (g d)) ++ ((items2 d).take j).map (g d)) ys ∧ j ≤ (items2 d).length ∧ k = (items2 d).length + 1 - j ∧
            (∀ b o, b ∉ wr2 → b ≠ C → b ≠ D → h7.get? b = some o → h'.get? b = some o)) ?_ ((items2 d).length + 1)
            ⟨h7, _, m5, ys, n, 0, rfl, hst2, hD7, hN7, hmx, ?_, Nat.zero_le _, rfl, fun b o _ _ _ e => e⟩
          · rintro k s' ⟨h8, tk8, m8, ys8, n8, j, rfl, hSt8, hD8, hN8, hm8, hY8, hj, rfl, hK8⟩
            have up8 : ∀ b o, b ≠ C → b ≠ D → h61.get? b = some o → h8.get? b = some o := fun b o b1 b2 e => hK8 b o (fr2 b o e) b1 b2 (k617 _ _ e)
            have up18 : HK h₁ h8 := fun b o e => up8 b o (below1 b o e).1 (below1 b o e).2.1 (k61 _ _ (upto5 _ _ e))
            have hold8 : Hold (fun b => X b ∨ b ∈ wr ∨ b = D) h61 h8 := fun b o xs n hx e hd => by
              refine up8 b o (fun q => ?_) (fun q => hx (.inr (.inr q))) e
              subst q
              obtain ⟨oc, es, ep, ec, dc, _⟩ := hN5
              rw [k61 _ _ ec] at e; cases e
              rw [dc] at hd; cases hd
            by_cases hlt2 : j < (items2 d).length
            · have hit2 : (items2 d)[j]? = some (items2 d)[j] := List.getElem?_eq_getElem hlt2
              generalize hee : (items2 d)[j] = ee at hit2
              have hem : ee ∈ items2 d := List.mem_of_getElem? hit2
              refine wpAny_mono (W2.item j [ee] _ cenv
                (fun _ s₂' => wpAny (model prog w) A (eval elt cenv) (fun x₁ s₄ =>
                  wpAny (model prog w) A (call (.builtin "list.append") [.ref D, x₁]) (fun _ s₅ => ∃ m, m < (items2 d).length + 1 - j ∧ ∃ h' tk m' ys n j, s₅ = { s₂ with heap := h', toks := tk } ∧ St2 j h' ∧ h'.get? D = some (lobj ys n) ∧ h'.Ns C m' ∧ m' x = some v0 ∧ DenL (fun b => (X b ∨ b ∈ wr ∨ b = D) ∨ b ∈ wr2) h' (((items.take i).flatMap fun d => (items2 d).map (g d)) ++ ((items2 d).take j).map (g d)) ys ∧ j ≤ (items2 d).length ∧ m = (items2 d).length + 1 - j ∧
                    (∀ b o, b ∉ wr2 → b ≠ C → b ≠ D → h7.get? b = some o → h'.get? b = some o)) (notedBy (model prog w) A cenv fun e s' => False) s₄) (notedBy (model prog w) A cenv fun e s' => False) s₂')
                (notedBy (model prog w) A cenv fun e s' => False) (by rw [List.getElem?_map, hit2]; rfl) hSt8 hold8 ?_)
                (fun v s₁ hv => ?_) fun _ _ e => e
              · intro vals9 h9 tk9 hDv9 hlen9 hSt9 hk9
                have hvl9 := hDv9.length
                have hN9 : h9.Ns C m8 := hN8.at' fun o e => hk9 _ o hCw2 e
                refine bindAll_local (env := cenv) [y] vals9 _ m8 _ (fun z hz => hkl z (by rw [List.mem_singleton.mp hz]; exact .tail _ (.head _))) (by simp) hkd (by rw [hloc]; exact hN9) (by rw [hvl9, hlen9]) fun ha tka ma hNa hba hbo hsa => ?_
                rw [hloc] at hNa hsa
                have keepa : ∀ b o, b ≠ C → h9.get? b = some o → ha.get? b = some o := fun b o hb e => hsa.extBut b o hb e
                obtain ⟨u0, hu0⟩ : ∃ u0, vals9 = [u0] := len1 (hvl9.trans hlen9)
                subst hu0
                have hmy : ma y = some u0 := hba 0 y u0 rfl rfl
                have hmx' : ma x = some v0 := by rw [hbo x (by simpa using hxy)]; exact hm8
                have hDa : ha.get? D = some (lobj ys8 n8) := keepa _ _ hDC (hk9 _ _ hDw2 hD8)
                have hSta : St2 (j + 1) ha := W2.frame _ _ _ hSt9 fun b hb o e => keepa b o (fun q => hCf2 (q ▸ hb)) e
                have upa : HK h₁ ha := fun b o e => keepa b o (below1 b o e).1 (hk9 b o (fr2 b o (k61 _ _ (upto5 _ _ e))) (up18 b o e))
                have up5a : ∀ b o, b ≠ C → b ≠ D → h5.get? b = some o → ha.get? b = some o := fun b o b1 b2 e => keepa b o b1 (hk9 b o (fr2 b o (k61 _ _ e)) (up8 b o b1 b2 (k61 _ _ e)))
                have new2 : ∀ a o, ((X a ∨ a ∈ wr ∨ a = D) ∨ a ∈ wr2) → h61.get? a = some o → (X a ∨ a ∈ wr ∨ a = D) := fun a o q e => by
                  rcases q with q | q
                  · exact q
                  · exact absurd q (fr2 a o e)
                have hDe : Den (fun b => (X b ∨ b ∈ wr ∨ b = D) ∨ b ∈ wr2) ha ee u0 := by
                  simp only [DenL] at hDv9
                  obtain ⟨v, vs', e, h1, _⟩ := hDv9
                  cases e
                  refine Den.hold (fun b o xs n hx e hd => ?_) _ _ (Den.imp new2 (fun _ _ _ e => e) _ _ h1)
                  have bC : b ≠ C := fun q => by
                    subst q
                    obtain ⟨oc, es, ep, ec, dc, _⟩ := hN5
                    rw [k61 _ _ ec] at e; cases e
                    rw [dc] at hd; cases hd
                  exact keepa b o bC (hk9 b o (fun q => hx (.inr q)) (hold8 b o xs n (fun q => hx (.inl q)) e hd))
                have newX2 : ∀ a o, ((X a ∨ a ∈ wr ∨ a = D) ∨ a ∈ wr2) → h₁.get? a = some o → X a := fun a o q e => newX a o (new2 a o q (k61 _ _ (upto5 _ _ e))) e
                have ra := relAt (fun b => (X b ∨ b ∈ wr ∨ b = D) ∨ b ∈ wr2) ha ma [x, y] [d, ee] [v0, u0] hs upa (fun _ q => .inl (.inl q)) newX2 (fun a q => by
                    rcases q with q | q
                    · refine xo5 ha upa (fun b hb => ?_) ⟨_, hDa⟩ a q
                      obtain ⟨o, e⟩ := W.alive _ _ hSt5 b hb
                      exact ⟨o, up5a b o (fun z => hCw (z ▸ hb)) (fun z => hDw (z ▸ hb)) e⟩
                    · exact W2.alive _ _ hSta a q) hNa (.cons ((Den.imp newX2 (fun _ _ _ e => e) _ _ hDv0).keeps upa) (.cons hDe .nil)) (fun t z v e1 e2 => by
                    match t, e1, e2 with
                    | 0, e1, e2 => simp at e1 e2; subst e1; subst e2; exact hmx'
                    | 1, e1, e2 => simp at e1 e2; subst e1; subst e2; exact hmy)
                refine wpAny_mono (hel d hdm ee hem _ _ _ _ ra) (fun xx sb qb => ?_) fun _ _ e => e
                obtain ⟨⟨hb, tkb, rfl, hkb⟩, Dx⟩ := qb
                have hys : ys8.toArray.size ≤ sizeLine := by
                  have e1 := hY8.length
                  have e2 := flat_le (l := items) (i := i + 1) (fun d => (items2 d).map (g d))
                  rw [flat_at hit] at e2
                  simp only [List.length_append, List.length_map, List.length_take] at e1 e2
                  simp only [List.size_toArray]
                  exact ar564 e1 e2 hsz
                refine wpAny_list_append_plain (hsz := hys) ⟨n8, hkb _ _ hDa⟩ fun hc hlc hsc => ?_
                obtain ⟨nc, gc⟩ := hlc
                have stayc : ∀ b o, b ≠ D → hb.get? b = some o → hc.get? b = some o := fun b o hb' e => hsc.extBut b o hb' e
                refine ⟨(items2 d).length + 1 - (j + 1), by exact ar59 hlt2, hc, tkb, ma, ys8 ++ [xx], nc, j + 1, rfl, W2.frame _ _ _ hSta (fun b hb' o e => stayc b o (fun q => hDf2 (q ▸ hb')) (hkb b o e)), by rw [gc]; simp [lobj], (hNa.keeps hkb).sameBut hsc (Ne.symm hDC), hmx', ?_, hlt2, rfl, fun b o b1 b2 b3 e => stayc b o b3 (hkb b o (keepa b o b2 (hk9 b o b1 (hK8 b o b1 b2 b3 e))))⟩
                have e3 : ((items2 d).take (j + 1)).map (g d) = ((items2 d).take j).map (g d) ++ [g d ee] := by rw [List.take_add_one, hit2]; simp
                rw [e3, ← List.append_assoc]
                have go : Hold (fun b => (X b ∨ b ∈ wr ∨ b = D) ∨ b ∈ wr2) hb hc := fun b o _ _ hx e _ => stayc b o (fun q => hx (.inl (.inr (.inr q)))) e
                have hYa : DenL (fun b => (X b ∨ b ∈ wr ∨ b = D) ∨ b ∈ wr2) ha (((items.take i).flatMap fun d => (items2 d).map (g d)) ++ ((items2 d).take j).map (g d)) ys8 := by
                  refine DenL.hold (fun b o xs' n' hx e hd => ?_) _ _ hY8
                  have hbC : b ≠ C := fun q => by
                    subst q
                    obtain ⟨oc, es, ep, ec, dc, _⟩ := hN8
                    rw [ec] at e; cases e
                    rw [dc] at hd; cases hd
                  exact keepa b o hbC (hk9 b o (fun q => hx (.inr q)) e)
                exact DenL.snoc (DenL.hold go _ _ (hYa.keeps hkb)) (Den.hold go _ _ Dx)
              · cases v with
                | none => exact hv.elim
                | some v => exact hv
            · have hje : j = (items2 d).length := Nat.le_antisymm hj (Nat.not_lt.mp hlt2)
              subst hje
              rw [← hl2] at hSt8
              refine W2.done _ _ _ hSt8 fun h9 tk9 hk9 => ?_
              have hD9 := hk9 _ _ hDw2 hD8
              have k59 : ∀ b o, b ≠ C → b ≠ D → h5.get? b = some o → h9.get? b = some o := fun b o b1 b2 e => hk9 b o (fr2 b o (k61 _ _ e)) (up8 b o b1 b2 (k61 _ _ e))
              refine ⟨items.length + 1 - (i + 1), by exact ar59 hlt, h9, tk9, m8, ys8, n8, i + 1, rfl, W.frame _ _ _ hSt5 (fun b hb o e => k59 b o (fun q => hCf (q ▸ hb)) (fun q => hDf (q ▸ hb)) e), hD9, hN8.at' fun o e => hk9 _ o hCw2 e, ?_, hlt, rfl, fun b o b1 b2 b3 e => k59 b o b2 b3 (hK5 b o b1 b2 b3 e)⟩
              rw [flat_at hit]
              rw [List.take_of_length_le (Nat.le_refl _)] at hY8
              exact DenL.less (X := fun b => (X b ∨ b ∈ wr ∨ b = D) ∨ b ∈ wr2) (fun a q => .inl q) (DenL.hold (fun b o xs' n' hx e hd => hk9 b o (fun q => hx (.inr q)) e) _ _ hY8)
          · rw [List.take_zero, List.map_nil, List.append_nil]
            have h61Y := hY5.keeps k61
            refine DenL.keeps k617 (DenL.imp (fun a o q e => ?_) (fun _ _ _ e => e) _ _ h61Y)
            rcases q with q | q
            · exact q
            · exact absurd q (fr2 a o e)
        exact compStart_in inner (W2.self 0 _ _ _ hst2 inner)
      · cases v with
        | none => exact hv.elim
        | some v => exact hv
    · have hie : i = items.length := Nat.le_antisymm hi (Nat.not_lt.mp hlt)
      subst hie
      rw [← hlen] at hSt
      refine W.done _ _ _ hSt fun h4 tk4 hk4 => ?_
      refine hRR D C h4 tk4 m' ys n (none_of_ge (by rw [hDD]; exact Nat.le_refl _)) (none_of_ge (by rw [hDD, hC]; exact Nat.le_succ _)) hDC (hN.at' fun o e => hk4 _ o hCw e) (hk4 _ _ hDw hD) ?_ fun b o hb e => ?_
      · rw [List.take_of_length_le (Nat.le_refl _)] at hY
        refine DenL.less (X := fun b => X b ∨ b ∈ wr ∨ b = D) (fun a q => .inl q) (DenL.hold (fun b o xs' n' hx e hd => hk4 b o (fun q => hx (.inr (.inl q))) e) _ _ hY)
      · have hlt2 := Heap.lt_size e
        rw [hDD] at hlt2
        exact hk4 b o hb (hK b o hb (below b hlt2).1 (below b hlt2).2 e)
  rw [← hcenv] at main
  exact codeAny_compStart_list (main _ rfl) (W.self 0 _ _ _ hst₁ (main _ rfl))
end
end Mine
end

section
open PySem PyProof.Rows
set_option Elab.async false
set_option linter.unusedVariables false
set_option maxRecDepth 100000
namespace Mine
section
variable {prog : Program} {w : World} {G : Glo} {env : Env} {X₀ : Addr → Prop} {own : List Addr} {GN : List (Str × NameKind)} {kept : Addr → Option Obj} {S : Shared} {st st' : List (Str × Slot)} {A : Around} {E : Value → Shared → Prop} {s : Shared}
  {rest : List Stmt} {Q : Flow → Shared → Prop}
theorem st_comp2 {elt iter iter2 : Expr} {scope : Scope} {pos px pa pb spos : Pos} {x a b : Str} {items : List V} {items2 : V → List V} {cap : List (Str × Slot)} (g : V → V → V)
    (hi : EvW prog w G env (Xof X₀ own) GN st A iter (.Name a pa) [a] (items.map fun d => [d])) (hsc : scopeOk scope GN [a, b] = true) (hcap : Cap st scope.names cap) (hsz : (items.flatMap fun d => (items2 d).map (g d)).length ≤ sizeLine)
    (hi2 : ∀ d ∈ items, ∀ X cenv, EvW prog w G cenv X (frees scope.names) ((a, .val d) :: cap) A iter2 (.Name b pb) [b] ((items2 d).map fun e => [e]))
    (hel : ∀ d ∈ items, ∀ e ∈ items2 d, ∀ X cenv, Ev prog w G cenv X (frees scope.names) ((a, .val d) :: (b, .val e) :: cap) A elt (g d e))
    (hU : Upd x (.val (.list (items.flatMap fun d => (items2 d).map (g d)))) st st') (hk : (x, NameKind.local) ∈ GN) (R : Rel G env X₀ own GN kept S st s)
    (h : ∀ s', Rel G env X₀ own GN kept S st' s' → wpAny (model prog w) A (execs rest env) Q E s')
    (h1 : (px.line == pos.line) = true := by rfl) (h2 : (scope.names.any fun (n, k) => n == x && (k == .local || k == .cell)) = false := by decide +kernel)
    (hfs : ∀ x, foldedSetIterable iter env x = pure x := by intro _; rfl) (hfs2 : ∀ cenv x, foldedSetIterable iter2 cenv x = pure x := by intro _ _; rfl) :
    wpAny (model prog w) A (execs (.Assign [.Name x px] (.ListComp elt [⟨.Name a pa, iter, [], 0⟩, ⟨.Name b pb, iter2, [], 0⟩] scope pos) spos :: rest) env) Q E s := by
  have hs := ScopeOk.of hsc
  refine wpAny_execs_cons ?_
  rw [exec_Assign_Name_used _ _ _ _ (sw_used R.e.kd (R.e.gn _ hk) h1 h2)]
  refine wpAny_bind (wpAny_standAt (wpAny_bind ?_))
  show wpAny _ A (do let _ ← comprehension (.ListComp elt [⟨.Name a pa, iter, [], 0⟩, ⟨.Name b pb, iter2, [], 0⟩] scope pos) scope env _ (newList []) false (eval iter env) (some (assign (.Name x px) env))) _ _ s
  refine wpAny_bind (wpAny_mono (wpAny_comprehension_free (use := some (assign (.Name x px) env)) (Q := fun _ s' => wpAny (model prog w) A (execs rest env) Q E s') rfl hfs (closureFor_eq fun p hp e => R.e.cn _ (hs.free p hp e)) hs.kind (fun x hx e => (hs.look x hx).trans (by rw [e])) ?_)
    (fun _ s' hq => wpAny_pure (wpAny_pure hq)) fun _ _ e => e)
  refine wpAny_mono (hi s E R.e) (fun x s1 q => ?_) fun _ _ e => e
  obtain ⟨K1, h₁, k1, k2, hq⟩ := q
  refine hq E _ fun I fp wr St s2 W hst hfp K2 => ?_
  refine comp_core2 (RR := fun acc C => compPost (model prog w) A E (some (assign (.Name _ px) env)) _ acc C) W hst hfp k1 (fun b o e => K2.hk b o (k2 b o e)) R.e hs hcap hsz hi2 hel hfs2 fun D C h' tk m' ys n hD hC hDC hN hg hY hkk => ?_
  have all : HK s.heap h' := fun b o e => by
    refine hkk b o (fun q => ?_) (K2.hk b o (k2 b o (k1 b o e)))
    have := k1 b o e; rw [W.fresh b q] at this; cases this
  have old : ∀ b o, s.heap.get? b = some o → b ≠ C := fun b o e q => by
    have e2 := K2.hk b o (k2 b o (k1 b o e))
    subst q; rw [hC] at e2; cases e2
  have R2 : Rel G env X₀ own GN kept S st { s2 with heap := h', toks := tk } := by
    refine R.kp ?_
    obtain ⟨a1, a2, rfl, _⟩ := K1
    obtain ⟨b1, b2, rfl, _⟩ := K2
    exact ⟨h', tk, rfl, all⟩
  have hDen : Den (Xof X₀ own) h' (.list (items.flatMap fun d => (items2 d).map (g d))) (.ref D) := by
    simp only [Den]
    refine ⟨hsz, D, ys, n, rfl, fun q => ?_, hg, hY⟩
    obtain ⟨o, e⟩ := R.e.xo _ q
    have := K2.hk _ _ (k2 _ _ (k1 _ _ e))
    rw [hD] at this; cases this
  obtain ⟨ml, hml⟩ := R.ns
  have hLC : env.locals ≠ C := by obtain ⟨o, es, ep, e, _⟩ := hml; exact old _ o e
  have hCC : ∀ y c, env.cells.lookup y = some c → c ≠ C := fun y c e => by obtain ⟨u, o, e', _⟩ := R.cells y c e; exact old _ o e'
  show wpAny _ A (assign (.Name _ px) env (.ref D)) _ _ _
  refine wpAny_assign_Name (R2.store hk (.inl rfl) hU hDen fun h3 tk3 a R3 hE hA => ?_)
  have haC : C ≠ a := by
    rcases hA with rfl | ⟨y, hy⟩
    · exact Ne.symm hLC
    · exact Ne.symm (hCC y a hy)
  have hN3 : h3.Ns C m' := hN.extBut hE haC
  refine ⟨m', hN3, fun h4 hs4 => h _ ?_⟩
  refine R3.other tk3 hs4.extBut (Ne.symm hLC) (fun y c e => Ne.symm (hCC y c e)) (fun b o e => old b o (R.keep b o e)) fun o e q => ?_
  obtain ⟨oc, es, ep, ec, dc, _⟩ := hN3
  rw [ec] at e; cases e
  rw [dc] at q
  rcases q with ⟨_, _, q⟩ | ⟨_, _, q⟩ <;> cases q
end
end Mine
end

section
open PySem PyProof.Rows
set_option Elab.async false
set_option linter.unusedVariables false
set_option maxRecDepth 100000
namespace Mine
section
variable {prog : Program} {w : World} {G : Glo} {env : Env} {X₀ : Addr → Prop} {own : List Addr} {GN : List (Str × NameKind)} {kept : Addr → Option Obj} {S : Shared} {st st' : List (Str × Slot)} {A : Around} {E : Value → Shared → Prop} {s : Shared}
  {rest : List Stmt} {Q : Flow → Shared → Prop}
theorem st_extend {x : Str} {px ap cp pos : Pos} {e : Expr} {a : Addr} {ds es : List V} (hx : (x, Slot.own a ds) ∈ st) (hE : Ev prog w G env (Xof X₀ own) GN st A e (.list es)) (hl : ds.length + es.length ≤ sizeLine) (hU : Upd x (.own a (ds ++ es)) st st') (R : Rel G env X₀ own GN kept S st s)
    (h : ∀ s', Rel G env X₀ own GN kept S st' s' → wpAny (model prog w) A (execs rest env) Q E s') (hline : (ap.endLine == cp.line) = true := by rfl) (he : starEach [e] env = (false, eval e env) :: starEach [] env := by rfl) :
    wpAny (model prog w) A (execs (.Expr (.Call (.Attribute (.Name x px) (Str.ofString "extend") ap) [e] [] cp) pos :: rest) env) Q E s := by
  refine wpAny_execs_cons (wpAny_Expr ?_ (not_interactive R) rfl)
  refine wpAny_Call_method rfl (by rw [he]; rfl) hline PySem.F.plainAttrs_list PySem.F.slot_list_extend PySem.F.type_list_extend ?_
  obtain ⟨q1, q2, q3, vs, n, hg, hd⟩ := R.e.vars _ hx
  refine var_load R.e hx q1 ⟨⟨_, hg, rfl⟩, fun b e => ?_, ?_⟩
  · cases e; exact ⟨_, hg, rfl⟩
  have htr : backTo cp (starEach [e] env) = [(false, eval e env)] := by rw [he]; rfl
  rw [htr]
  refine Calls.callWith_builtin rfl (Calls.evalArgs_plain (Calls.spliced_cons (wpAny_mono (hE s E R.e) (fun v s1 q => ?_) fun _ _ e => e)))
  obtain ⟨k1, D⟩ := q
  refine Calls.spliced_nil ?_
  simp only [Den] at D
  obtain ⟨_, b, us, m, rfl, hXb, hgb, hdb⟩ := D
  have hab : a ≠ b := fun z => hXb (z ▸ q2)
  have hlen := hd.length
  have hlen2 := hdb.length
  have hga := k1.hk _ _ hg
  have hsz' : vs.toArray.size + us.toArray.size ≤ sizeLine := by simp only [List.size_toArray]; exact ar89 hlen hlen2 hl
  refine call_meets PySem.F.slot_list_extend ⟨_, hga, rfl⟩ PySem.F.entry_list_extend (PySem.F.args_list_extend_2 _ _) (PySem.AutoSeq1.list_extend_list_list_0 a vs.toArray n b us.toArray m (extend_door hsz') (Nat.le_trans (Nat.le_add_right _ _) hsz') (Nat.le_succ_of_le hsz')) ⟨hga, hgb, ?_⟩
  have e1 : vs.toArray ++ us.toArray = (vs ++ us).toArray := by simp
  have ho' : (s1.heap.update a (Obj.mapSeq fun x => x ++ us.toArray)).get? a = some (lobj (vs ++ us) (if (vs.toArray ++ us.toArray).size == vs.toArray.size then n else n + 1)) := by
    rw [Heap.get?_update_self _ hga (by rw [mapSeq_app]; rfl), mapSeq_app, e1]
  have hs' : Heap.SameBut a s1.heap (s1.heap.update a (Obj.mapSeq fun x => x ++ us.toArray)) := Heap.SameBut.update ..
  have hold : Hold (Xof X₀ own) s1.heap (s1.heap.update a (Obj.mapSeq fun x => x ++ us.toArray)) := fun b o xs m hx' e' hd' => hs'.extBut b o (fun z => hx' (z ▸ q2)) e'
  refine h _ ((R.kp k1).mutate (vs := vs ++ us) s1.toks hx hU hs'.extBut ho' ?_ (by rw [List.length_append]; exact hl))
  exact DenL.append (DenL.hold hold _ _ hdb) (DenL.hold hold _ _ (hd.keeps k1.hk))
end
end Mine
end

section
open PySem PyProof.Rows
set_option Elab.async false
set_option linter.unusedVariables false
set_option maxRecDepth 100000
namespace Mine
section
variable {prog : Program} {w : World} {G : Glo} {env : Env} {X : Addr → Prop} {GN : List (Str × NameKind)} {st : List (Str × Slot)} {A : Around}
end
section
variable {prog : Program} {w : World} {G : Glo} {env : Env} {X₀ : Addr → Prop} {own : List Addr} {GN : List (Str × NameKind)} {kept : Addr → Option Obj} {S : Shared} {st st' : List (Str × Slot)} {A : Around} {E : Value → Shared → Prop} {s : Shared}
  {rest : List Stmt} {Q : Flow → Shared → Prop}
end
end Mine
end

section
open PySem PyProof.Rows
set_option Elab.async false
set_option linter.unusedVariables false
set_option maxRecDepth 100000
namespace Mine

section
variable {prog : Program} {w : World} {A : Around} {E : Value → Shared → Prop} {s : Shared} {env : Env}

theorem codeC_forLoop {R : Result → Shared → Prop} {target : Expr} {it : Value} {body : List Stmt} (I : Nat → Shared → Prop)
    (turn : ∀ n s, I n s → wpAny (model prog w) A (pyNext it) (fun r s₁ => match r with
      | none => R (.ok .next) s₁
      | some v => wpAny (model prog w) A (letOwnedTupleGo target it v) (fun _ s₁' => wpAny (model prog w) A (assign target env v) (fun _ s₂ => wpC (model prog w) A (execs body env) (fun f s₃ => match f with
            | .next | .cont => ∃ m, m < n ∧ I m s₃
            | .brk => R (.ok .next) s₃
            | .ret v => R (.ok (.ret v)) s₃) (fun _ _ => False) s₂) (fun _ _ => False) s₁') (fun _ _ => False) s₁) (fun _ _ => False) s)
    (n : Nat) (h : I n s) : codeC (model prog w) A (.forLoop target it body [] env) R s := by
  refine codeC_turns rfl rfl I (fun n s hI => ?_) n h
  show wpC _ A ((forTurn target it body [] env).onRaise (fun x => do noteFrame x env; theTreesLotGoes x)) _ _ s
  refine wpC_onRaise (E := fun e s' => R (.error e) s') (wpC_mono (E := fun _ _ => False) ?_ (fun _ _ q => q) fun _ _ q => q.elim)
  simp only [forTurn]
  refine wpC_first (wpAny_standAt ?_)
  refine wpC_bind (wpC_onRaise (wpC_mono (wpC_any (turn n s hI)) (fun r s₁ h₁ => ?_) fun _ _ q => q.elim))
  cases r with
  | none => exact wpC_pure (.inr ⟨rfl, codeC_any (codeAny_block (wpAny_execs_nil h₁))⟩)
  | some v =>
    refine wpC_first (wpAny_mono h₁ (fun _ s₁' h₁' => ?_) fun _ _ h' => h')
    refine wpC_first (wpAny_mono h₁' (fun _ s₂ h₂ => wpC_bind (wpC_mono h₂ (fun f s₃ h₃ => ?_) fun _ _ h' => h')) fun _ _ h' => h')
    cases f with
    | next => exact wpC_pure (.inl ⟨rfl, h₃⟩)
    | cont => exact wpC_pure (.inl ⟨rfl, h₃⟩)
    | brk => exact wpC_pure h₃
    | ret v => exact wpC_pure h₃

theorem wpC_For {target iter : Expr} {body : List Stmt} {pos : Pos} {Q : Flow → Shared → Prop}
    (h : wpAny (model prog w) A (eval iter env) (fun x s₁ => wpAny (model prog w) A (pyIter x) (fun it s₂ =>
      codeC (model prog w) A (.forLoop target it body [] env) (fun r s' => match r with | .ok f => Q f s' | .error e => False) s₂) E s₁) E s)
    (hs : ∀ x, foldedSetIterable iter env x = pure x := by intro _; rfl) :
    wpC (model prog w) A (exec (.For target iter body [] pos) env) Q E s := by
  rw [exec_For]
  refine wpC_first (wpAny_standAt ?_)
  refine wpC_first (wpAny_mono h (fun x s₁ h₁ => ?_) fun _ _ e => e)
  refine wpC_bind (wpC_of_eq (hs x) (wpC_pure ?_))
  refine wpC_first (wpAny_standAt ?_)
  refine wpC_first (wpAny_holding (wpAny_mono h₁ (fun it s₂ h₂ => ?_) fun _ _ e => e))
  unfold runOwn
  refine wpC_onRaise (wpC_mono (E := fun _ _ => False) (wpC_runOf (codeC_mono h₂ fun r s' hr => ?_)) (fun _ _ q => q) fun _ _ q => q.elim)
  cases r with
  | ok f => exact hr
  | error e => exact hr
end
end Mine
end

section
open PySem PyProof.Rows
set_option Elab.async false
set_option linter.unusedVariables false
namespace Mine
section
variable {prog : Program} {w : World} {G : Glo} {env : Env} {X₀ : Addr → Prop} {own : List Addr} {GN : List (Str × NameKind)} {kept : Addr → Option Obj} {S : Shared} {st st' : List (Str × Slot)} {A : Around} {E : Value → Shared → Prop} {s : Shared}
  {rest : List Stmt} {Q : Flow → Shared → Prop}

open Classical in
theorem st_forC {σ : Type} {tgt iter : Expr} {body : List Stmt} {pos : Pos} {xs : List Str} {items : List (List V)} (stL : σ → List (Str × Slot)) (stB : List V → σ → List (Str × Slot)) (P : Nat → σ → Prop) (c₀ : σ)
    (hW : EvW prog w G env (Xof X₀ own) GN st A iter tgt xs items) (hU : ∀ ds ∈ items, ∀ c, UpdAll xs ds (stL c) (stB ds c)) (hk : ∀ x ∈ xs, (x, NameKind.local) ∈ GN ∨ (x, NameKind.cell) ∈ GN) (hw : Wkn st (stL c₀)) (h0 : P 0 c₀)
    (R : Rel G env X₀ own GN kept S st s)
    (hbody : ∀ i ds c X₁ kept' s', items[i]? = some ds → P i c → (∀ a, X₀ a → X₁ a) → (∀ b o, kept b = some o → kept' b = some o) → Rel G env X₁ own GN kept' S (stB ds c) s' →
      wpC (model prog w) A (execs body env) (fun f s₂ => match f with
        | .next | .cont => ∃ c' st2, P (i + 1) c' ∧ Rel G env X₁ own GN kept' S st2 s₂ ∧ Wkn st2 (stL c')
        | .brk => False
        | .ret v => Q (.ret v) s₂) (fun _ _ => False) s')
    (hdone : ∀ c s', P items.length c → Rel G env X₀ own GN kept S (stL c) s' → wpC (model prog w) A (execs rest env) Q E s')
    (hfs : ∀ x, foldedSetIterable iter env x = pure x := by intro _; rfl) :
    wpC (model prog w) A (execs (.For tgt iter body [] pos :: rest) env) Q E s := by
  refine wpC_execs_cons (wpC_For (wpAny_mono (hW s E R.e) (fun x s1 q => ?_) fun _ _ e => e) hfs)
  obtain ⟨K1, h₁, k1, k2, hq⟩ := q
  refine hq E _ fun I fp wr St s2 W hst hfp K2 => ?_
  have R2 := ((R.kp K1).kp K2).weaken hw
  have k2' : HK h₁ s2.heap := fun b o e => K2.hk b o (k2 b o e)
  have mtin : ∀ b, Mt env own b → ∃ o, s.heap.get? b = some o ∧ ((∃ xs n, o.data = .seq xs n) → b ∈ own) := fun b hm => by
    rcases hm with rfl | ⟨y, hy⟩ | hm
    · obtain ⟨m, o, es, ep, e, hd, _⟩ := R.ns
      exact ⟨o, e, fun ⟨_, _, q⟩ => by rw [hd] at q; cases q⟩
    · obtain ⟨v, o, e, hd⟩ := R.cells y b hy
      exact ⟨o, e, fun ⟨_, _, q⟩ => by rw [hd] at q; cases q⟩
    · obtain ⟨o, e, _⟩ := R.ownl b hm
      exact ⟨o, e, fun _ => hm⟩
  have fpm : ∀ b ∈ fp, ¬ Mt env own b := fun b hb hm => by
    obtain ⟨o, e, hseq⟩ := mtin b hm
    have e1 := k1 b o e
    rcases W.foot b hb with q | ⟨hX, o', xs', n, e', hd⟩
    · rw [e1] at q; cases q
    · rw [e1] at e'; cases e'
      exact hX (.inr (hseq ⟨_, _, hd⟩))
  have wrm : ∀ b ∈ wr, ¬ Mt env own b := fun b hb => fpm b (W.sub b hb)
  have freshm : ∀ b o, kept b = some o → b ∉ wr := fun b o q hb => by
    have := k1 b o (R.keep b o q)
    rw [W.fresh b hb] at this; cases this
  have newX : ∀ a o, ((X₀ a ∨ a ∈ wr) ∨ a ∈ own) → s.heap.get? a = some o → X₀ a ∨ a ∈ own := fun a o q e => by
    rcases q with (q | q) | q
    · exact .inl q
    · have := k1 _ _ e; rw [W.fresh a q] at this; cases this
    · exact .inr q
  -- the loop's own view: what the iterator writes stands apart
  let X₁ : Addr → Prop := fun a => X₀ a ∨ a ∈ wr
  let keptW : Heap → Addr → Option Obj := fun h b => if b ∈ wr then h.get? b else kept b
  have keptW_old : ∀ h b o, kept b = some o → keptW h b = some o := fun h b o e => by
    show (if b ∈ wr then h.get? b else kept b) = some o
    rw [if_neg (freshm b o e)]; exact e
  have gW : ∀ h h'', (∀ b o, keptW h b = some o → h''.get? b = some o) → G.P h'' := fun h h'' q => R.gk h'' fun b o e => q b o (keptW_old h b o e)
  have xW : ∀ h, (∀ b ∈ wr, ∃ o, h.get? b = some o) → ∀ a, X₁ a → ∃ o, keptW h a = some o := fun h ha a q => by
    rcases q with q | q
    · obtain ⟨o, e⟩ := R.xk a q; exact ⟨o, keptW_old h a o e⟩
    · obtain ⟨o, e⟩ := ha a q
      exact ⟨o, by show (if a ∈ wr then h.get? a else kept a) = some o; rw [if_pos q]; exact e⟩
  have kW : ∀ h, (∀ b o, kept b = some o → h.get? b = some o) → ∀ b o, keptW h b = some o → h.get? b = some o ∧ b ≠ env.locals ∧ (∀ x c, env.cells.lookup x = some c → b ≠ c) ∧ b ∉ own := fun h hk b o e => by
    by_cases hb : b ∈ wr
    · have e' : (if b ∈ wr then h.get? b else kept b) = some o := e
      rw [if_pos hb] at e'
      exact ⟨e', apart_of (wrm b hb)⟩
    · have e' : (if b ∈ wr then h.get? b else kept b) = some o := e
      rw [if_neg hb] at e'
      exact ⟨hk b o e', R.apart b o e'⟩
  have R0 : Rel G env X₁ own GN (keptW s2.heap) S (stL c₀) s2 := by
    have Rb : Rel G env X₁ own GN (keptW s2.heap) S st s2 := by
      have Ra := (R.kp K1).kp K2
      refine ⟨⟨Ra.e.g, R.e.kd, R.e.gl, R.e.bl, R.e.gn, R.e.cn, R.e.nd, fun a ha => ?_, fun p hp => ?_⟩, fun b o e => (kW _ Ra.keep b o e).1, fun b o e => (kW _ Ra.keep b o e).2, Ra.ns, Ra.cells, R.cinj, gW _, xW _ (W.alive _ _ hst), Ra.ownl, R.nodup, R.odist, R.oin, Ra.sh⟩
      · rcases ha with (ha | ha) | ha
        · exact Ra.e.xo a (.inl ha)
        · exact W.alive _ _ hst a ha
        · exact Ra.e.xo a (.inr ha)
      · exact (slot_more newX (fun a q => q.imp (fun z => Or.inl z) id) (R.e.vars p hp)).keeps (fun b o e => K2.hk b o (K1.hk b o e))
    exact Rb.weaken hw
  refine codeC_forLoop (fun k s' => ∃ i c, i ≤ items.length ∧ k = items.length + 1 - i ∧ P i c ∧ Rel G env X₁ own GN (keptW s'.heap) S (stL c) s' ∧ St i s'.heap ∧ (∀ b o, ¬ Mt env own b → h₁.get? b = some o → s'.heap.get? b = some o)) ?_ (items.length + 1)
    ⟨0, c₀, Nat.zero_le _, rfl, h0, R0, hst, fun b o _ e => k2' b o e⟩
  rintro k s' ⟨i, c, hi, rfl, hP, R', hSt, hK⟩
  have holdK : Hold (Xof X₀ own) h₁ s'.heap := fun b o xs' n hx e hd => by
    refine hK b o (fun hm => ?_) e
    obtain ⟨o', e', hs'⟩ := mtin b hm
    rw [k1 _ _ e'] at e; cases e
    exact hx (.inr (hs' ⟨_, _, hd⟩))
  by_cases hlt : i < items.length
  · have hit : items[i]? = some items[i] := List.getElem?_eq_getElem hlt
    refine wpAny_mono (W.item i items[i] s' env hit hSt holdK (E := fun _ _ => False) (Q := fun _ s₂ => wpC (model prog w) A (execs body env) (fun f s₃ => match f with
          | .next | .cont => ∃ m, m < items.length + 1 - i ∧ ∃ j c, j ≤ items.length ∧ m = items.length + 1 - j ∧ P j c ∧ Rel G env X₁ own GN (keptW s₃.heap) S (stL c) s₃ ∧ St j s₃.heap ∧ (∀ b o, ¬ Mt env own b → h₁.get? b = some o → s₃.heap.get? b = some o)
          | .brk => wpC (model prog w) A (execs rest env) Q E s₃
          | .ret v => Q (.ret v) s₃) (fun _ _ => False) s₂) ?_) (fun v s₁ hv => ?_) fun _ _ e => e
    · intro vals h4 tk4 hDv hlen hSt4 hk4
      have keep4 : ∀ b o, kept b = some o → h4.get? b = some o := fun b o e => hk4 b o (freshm b o e) (R'.keep b o (keptW_old _ b o e))
      have R4 : Rel G env X₁ own GN (keptW h4) S (stL c) { s' with heap := h4, toks := tk4 } :=
        R'.move tk4 (fun b hb => .inr hb) hk4 (fun b hb => apart_of (wrm b hb)) (fun a q => q) (kW h4 keep4) (gW h4) (xW h4 (W.alive _ _ hSt4))
      have hK4 : ∀ b o, ¬ Mt env own b → h₁.get? b = some o → h4.get? b = some o := fun b o hm e => hk4 b o (fun q => by rw [W.fresh b q] at e; cases e) (hK b o hm e)
      have hD4 : DenL (Xof X₁ own) h4 items[i] vals := by
        have hD1 : DenL (Xof X₁ own) h₁ items[i] vals := DenL.imp (fun a o q e => by
          rcases q with (q | q) | q
          · exact .inl q
          · rw [W.fresh a q] at e; cases e
          · exact .inr q) (fun _ _ _ e => e) _ _ hDv
        refine DenL.hold (fun b o xs' n hx e hd => hK4 b o (fun hm => ?_) e) _ _ hD1
        obtain ⟨o', e', hs'⟩ := mtin b hm
        rw [k1 _ _ e'] at e; cases e
        exact hx (.inr (hs' ⟨_, _, hd⟩))
      refine Rel.bindAll (hU _ (List.mem_of_getElem? hit) c) hk R4 hD4 fun s5 R5 hk5 => ?_
      have hk5' : ∀ b o, ¬ Mt env own b → h4.get? b = some o → s5.heap.get? b = some o := fun b o hm e => hk5 b o (apart_of hm).1 (fun y q => (apart_of hm).2.1 y b q rfl) e
      have hSt5 : St (i + 1) s5.heap := W.frame _ _ _ hSt4 fun b hb o e => hk5' b o (fpm b hb) e
      -- all that the frame does not write
      let keptB : Addr → Option Obj := fun b => if Mt env own b then none else s5.heap.get? b
      have kB : ∀ b o, ¬ Mt env own b → s5.heap.get? b = some o → keptB b = some o := fun b o hm e => by
        show (if Mt env own b then none else s5.heap.get? b) = some o
        rw [if_neg hm]; exact e
      have kB' : ∀ b o, keptB b = some o → ¬ Mt env own b ∧ s5.heap.get? b = some o := fun b o e => by
        have e' : (if Mt env own b then none else s5.heap.get? b) = some o := e
        by_cases hm : Mt env own b
        · rw [if_pos hm] at e'; cases e'
        · rw [if_neg hm] at e'; exact ⟨hm, e'⟩
      have keep5 : ∀ b o, keptW h4 b = some o → keptB b = some o := fun b o e => kB b o (not_Mt (R5.apart b o e)) (R5.keep b o e)
      have R5' : Rel G env X₁ own GN keptB S (stB items[i] c) s5 := by
        have := R5.move (kept₂ := keptB) (X₂ := X₁) (wr := []) s5.toks (fun b hb => nomatch hb) (fun b o _ e => e) (fun b hb => nomatch hb) (fun a q => q) (fun b o e => ⟨(kB' b o e).2, apart_of (kB' b o e).1⟩) (fun h'' q => R5.gk h'' fun b o e => q b o (keep5 b o e)) (fun a q => by
          obtain ⟨o, e⟩ := R5.xk a q; exact ⟨o, keep5 a o e⟩)
        exact this
      refine wpC_mono (hbody i items[i] c X₁ keptB s5 hit hP (fun a q => .inl q) (fun b o e => keep5 b o (keptW_old _ b o e)) R5') (fun f s6 q6 => ?_) fun _ _ e => e
      have cont : (∃ c' st2, P (i + 1) c' ∧ Rel G env X₁ own GN keptB S st2 s6 ∧ Wkn st2 (stL c')) → ∃ m, m < items.length + 1 - i ∧ ∃ j c, j ≤ items.length ∧ m = items.length + 1 - j ∧ P j c ∧ Rel G env X₁ own GN (keptW s6.heap) S (stL c) s6 ∧ St j s6.heap ∧ (∀ b o, ¬ Mt env own b → h₁.get? b = some o → s6.heap.get? b = some o) := by
        rintro ⟨c', st2, hP', R6, hw6⟩
        have hSt6 : St (i + 1) s6.heap := W.frame _ _ _ hSt5 fun b hb o e => R6.keep b o (kB b o (fpm b hb) e)
        have keep6 : ∀ b o, kept b = some o → s6.heap.get? b = some o := fun b o e => R6.keep b o (keep5 b o (keptW_old _ b o e))
        refine ⟨items.length + 1 - (i + 1), by exact ar59 hlt, i + 1, c', hlt, rfl, hP', ?_, hSt6, fun b o hm e => R6.keep b o (kB b o hm (hk5' b o hm (hK4 b o hm e)))⟩
        have := (R6.weaken hw6).move (kept₂ := keptW s6.heap) (X₂ := X₁) (wr := []) s6.toks (fun b hb => nomatch hb) (fun b o _ e => e) (fun b hb => nomatch hb) (fun a q => q) (kW _ keep6) (gW _) (xW _ (W.alive _ _ hSt6))
        exact this
      cases f with
      | next => exact cont q6
      | cont => exact cont q6
      | brk => exact q6.elim
      | ret v => exact q6
    · cases v with
      | none => exact hv.elim
      | some v => exact hv
  · have hie : i = items.length := Nat.le_antisymm hi (Nat.not_lt.mp hlt)
    subst hie
    refine W.done s' _ _ hSt fun h4 tk4 hk4 => ?_
    refine hdone c _ hP ?_
    refine R'.move tk4 (fun b hb => .inr hb) hk4 (fun b hb => apart_of (wrm b hb)) (fun a q => .inl q) (fun b o e => ⟨hk4 b o (freshm b o e) (R'.keep b o (keptW_old _ b o e)), R.apart b o e⟩) R.gk R.xk
end
end Mine
end

section
open PySem PyProof.Rows
set_option Elab.async false
set_option linter.unusedVariables false
set_option maxRecDepth 100000
set_option maxHeartbeats 8000000
namespace Mine
local macro_rules | `(tactic| walk_at "mem0") => `(tactic| with_reducible (first | exact List.mem_cons_self | (apply List.mem_cons_of_mem; walk_at "mem0")))
local macro_rules | `(tactic| walk_at "mem") => `(tactic| first | walk_at "mem0" | decide +kernel)
local macro_rules | `(tactic| walk_at "upd") => `(tactic| with_reducible (first | exact Upd.here | (apply Upd.there; walk_at "upd")))

noncomputable abbrev st2 (x0 x1 x2 x3 x4 x5 x6 x7 x8 x9 x10 x11 x12 x13 x14 x15 x16 x17 x18 x19 x20 x21 x22 : Slot) : List (Str × Slot) :=
  [(Str.ofString "script", x0), (Str.ofString "drawn", x1), (Str.ofString "first", x2), (Str.ofString "signs", x3), (Str.ofString "numbers", x4), (Str.ofString "more", x5), (Str.ofString "row", x6), (Str.ofString "size", x7), (Str.ofString "bar", x8), (Str.ofString "begun", x9), (Str.ofString "ended", x10), (Str.ofString "far", x11), (Str.ofString "tail", x12), (Str.ofString "front", x13), (Str.ofString "turned", x14), (Str.ofString "table", x15), (Str.ofString "image", x16), (Str.ofString "told", x17), (Str.ofString "octets", x18), (Str.ofString "ahead", x19), (Str.ofString "behind", x20), (Str.ofString "places", x21), (Str.ofString "plain", x22)]
noncomputable def law2names : List Str := ["script", "drawn", "first", "signs", "numbers", "more", "row", "size", "bar", "begun", "ended", "far", "tail", "front", "turned", "table", "image", "told", "octets", "ahead", "behind", "places", "plain"].map Str.ofString
theorem Room.le {k j : Nat} {A : Around} (h : Room k A) (hj : j ≤ k) : Room j A := ⟨h.1, by have := h.2.1; exact ar121 this hj, by have := h.2.2; exact ar122 this hj⟩
noncomputable def sgs2 (f : Int) : List Int := ((List.range 3).map fun (i : Nat) => ((i : Nat) : Int)).map fun k => (f + 85 * k) % 256
noncomputable def nums2 (dr : List Int) : List Int := (([10, 10, 3] : List Int).zip (dr.take 3 ++ [0, 0, 0])).map fun p => p.1 + p.2
theorem plc_val (n : Nat) : (((List.range n).map fun (i : Nat) => V.int (i : Int)).flatMap fun d => (match d with | .int i => (List.range (n - i.toNat)).map fun (t : Nat) => V.int ((i.toNat + 1 + t : Nat) : Int) | _ => ([] : List V)).map (fun e => V.tup [d, e])) = (plcP n).map V.pair := by
  unfold plcP
  rw [List.flatMap_map, List.map_flatMap]
  congr 1
  funext i
  dsimp only
  rw [Int.toNat_natCast, List.map_map, List.map_map]
  rfl

theorem law2 {prog : Program} {w : World} {p : Program} {loose : List Str} {mean : ExcName → Option Value} {mg mb : Str → Option Value} {A : Around} {script : List Int} (hA : Room 3 A) (hg : A.guards = some []) :
    FunC prog w (glo2 w p loose mean mg mb) A (.ref 62) [.ints script] (.bool true) := by
  refine fun_defC (ps := [Str.ofString "script"]) (nms := law2names) (st0 := st2 (.val (.ints script)) .un .un .un .un .un .un .un .un .un .un .un .un .un .un .un .un .un .un .un .un .un .un) 2 (fnIs2 rfl (by kernel_rfl) rfl rfl rfl rfl) hA ?_ rfl (by decide +kernel) rfl ?_ ?_
  · intro vals h
    obtain ⟨v, rfl⟩ := len1 h
    rfl
  · intro q hq
    simp only [st2, List.mem_cons, List.not_mem_nil, or_false] at hq
    rcases hq with rfl | rfl | rfl | rfl | rfl | rfl | rfl | rfl | rfl | rfl | rfl | rfl | rfl | rfl | rfl | rfl | rfl | rfl | rfl | rfl | rfl | rfl | rfl
    · exact .inr ⟨_, rfl, by simp⟩
    all_goals exact .inl rfl
  · intro env X₀ kept S s Q E hR hgd R hret
    dsimp only at R hret
    have hh : (A.deeper env).handled = none := hR.1
    have hu : (A.deeper env).units + 64 < cLine := by have := hR.2.2; exact ar123 this
    have hz : sizeLine = 16777216 := by decide
    have hgg : (A.deeper env).guards = some [] := hgd ▸ hg
    have R0 := R
    generalize hdr : script.take 60 = dr
    generalize hfi : dr.sum % 256 = fi
    have hfi0 : 0 ≤ fi ∧ fi < 256 := by exact ar124 hfi
    generalize hbr : (fi + 1) % 256 = bar
    have hbar0 : 0 ≤ bar ∧ bar < 256 := by exact ar125 hbr
    have hsgv : ((((List.range 3).map fun (i : Nat) => ((i : Nat) : Int)).filter fun _ => true).map fun k => V.int ((fi + 85 * k) % 256)) = (sgs2 fi).map V.int := by
      rw [List.filter_eq_self.mpr (fun _ _ => rfl)]
      unfold sgs2
      rw [List.map_map (f := fun k => (fi + 85 * k) % 256)]
      rfl
    have hsgb : ∀ x ∈ sgs2 fi, (0 ≤ x ∧ x < 256) ∧ x ≠ bar := fun x hx => by
      unfold sgs2 at hx
      rw [List.map_map] at hx
      obtain ⟨k, hk, rfl⟩ := List.mem_map.mp hx
      rw [List.mem_range] at hk
      simp only [Function.comp]
      omega
    have hsg3 : (sgs2 fi).length = 3 := by simp [sgs2]
    generalize sgs2 fi = sg at *
    have hnsv : (((([10, 10, 3] : List Int).zip (dr.take 3 ++ [0, 0, 0])).filter fun _ => true).map fun q => V.int (q.1 + q.2)) = (nums2 dr).map V.int := by
      rw [List.filter_eq_self.mpr (fun _ _ => rfl)]
      unfold nums2
      rw [List.map_map]
      rfl
    have hns3 : (nums2 dr).length = 3 := by unfold nums2; rw [List.length_map, List.length_zip, List.length_append, List.length_take]; simp
    generalize nums2 dr = ns at *
    generalize hmo : (dr.drop 3).sum % 4 = mo
    have hmo0 : 0 ≤ mo ∧ mo < 4 := by exact ar126 hmo
    have hdl := drawnP2_len (sg := sg) ns
    have hdg := drawnP2_ge (sg := sg) ns
    have htkl : (sg.take mo.toNat).length ≤ 3 := by rw [List.length_take]; exact ar127 hsg3
    generalize hu0 : drawnP2 sg ns ++ (sg.take mo.toNat).drop ((sg.take mo.toNat).length - 1) = u
    have hu13 : u.length ≤ 13 := by rw [← hu0, List.length_append, List.length_drop]; exact ar128 hdl hns3
    have hu1 : 1 ≤ u.length := by rw [← hu0, List.length_append]; exact ar129 hdg hns3
    have hum : ∀ x ∈ u, x ∈ sg := fun x hx => by
      rw [← hu0] at hx
      rcases List.mem_append.mp hx with q | q
      · exact drawnP2_mem hsg3 ns x q
      · exact List.mem_of_mem_take (List.mem_of_mem_drop q)
    have hub : ∀ x ∈ u, 0 ≤ x ∧ x < 256 := fun x hx => (hsgb x (hum x hx)).1
    have hbu : bar ∉ u := fun hx => (hsgb bar (hum bar hx)).2 rfl
    have hplv := plc_val u.length
    generalize hB : u.map toB = B
    have hBl : B.length = u.length := by rw [← hB]; simp
    have hBu : B.map (fun u => (u.toNat : Int)) = u := by rw [← hB, bytes_back hub]
    -- the row
    refine stC_one (st_assign (k := .local) (d := .ints dr) (ev_takeI (evs_of (ev_name (by walk_at "mem"))) ev_int (by decide) hdr)
      (st' := st2 (.val (.ints script)) (.val (.ints dr)) .un .un .un .un .un .un .un .un .un .un .un .un .un .un .un .un .un .un .un .un .un) (by walk_at "upd") (by walk_at "mem") (.inl rfl) (rfl) R0 fun s1 R1 => st_nil ?_)
    refine stC_one (st_assign (k := .cell) (d := .int fi) (ev_eq (ev_bin (ev_sum hh (by walk_at "mem") (ev_name (by walk_at "mem"))) ev_int (bin_modI (by decide))) (by rw [hfi]))
      (st' := st2 (.val (.ints script)) (.val (.ints dr)) (.val (.int fi)) .un .un .un .un .un .un .un .un .un .un .un .un .un .un .un .un .un .un .un .un) (by walk_at "upd") (by walk_at "mem") (.inr rfl) (rfl) R1 fun s2 R2 => st_nil ?_)
    refine stC_one (st_compI (fun k => .int ((fi + 85 * k) % 256)) (fun _ => true) (l := (List.range 3).map fun (i : Nat) => ((i : Nat) : Int)) (cap := [(Str.ofString "first", .val (.int fi))]) (by
        rw [← rng_zero 3]
        exact evw_range1 hh (by walk_at "mem") rfl (evl_cons ev_int evl_nil) (small_one (by decide) (by decide) (by decide) (by decide))) (by decide +kernel) (.cons (by walk_at "mem") (by walk_at "mem") .nil) (by simp [hz])
        (fun i hi X cenv => ifs_nil) (fun i hi hp X cenv => ev_bin (ev_bin (ev_name (by walk_at "mem")) (ev_bin ev_int (ev_name (by walk_at "mem")) (bin_mulI (mulOk_small (by decide)))) bin_addI) ev_int (bin_modI (by decide)))
        (st' := st2 (.val (.ints script)) (.val (.ints dr)) (.val (.int fi)) (.val (.ints sg)) .un .un .un .un .un .un .un .un .un .un .un .un .un .un .un .un .un .un .un) ?_ (by walk_at "mem") R2 fun s3 R3 => st_nil ?_)
    · rw [hsgv]
      exact (.there (.there (.there .here)))
    refine stC_one (st_compP (fun q => .int (q.1 + q.2)) (fun _ => true) (l := ([10, 10, 3] : List Int).zip (dr.take 3 ++ [0, 0, 0])) (cap := [])
        (evw_zipI hh (by walk_at "mem") rfl (evl_cons (ev_eq (ev_list (evl_cons ev_int (evl_cons ev_int (evl_cons ev_int evl_nil))) (by simp [hz])) (show V.list [.int 10, .int 10, .int 3] = V.ints [10, 10, 3] from rfl))
          (evl_cons (ev_bin (ev_takeI (evs_of (ev_name (by walk_at "mem"))) ev_int (by decide) rfl) (ev_eq (ev_list (evl_cons ev_int (evl_cons ev_int (evl_cons ev_int evl_nil))) (by simp [hz])) (show V.list [.int 0, .int 0, .int 0] = V.ints [0, 0, 0] from rfl)) (bin_addI2 (by rw [List.length_append, List.length_take]; simp [hz]; exact ar130))) evl_nil)))
        (by decide +kernel) .nil (by rw [List.length_zip]; simp [hz]) (fun ds hds X cenv => ifs_nil) (fun ds hds hp X cenv => ev_bin (ev_name (by walk_at "mem")) (ev_name (by walk_at "mem")) bin_addI)
        (st' := st2 (.val (.ints script)) (.val (.ints dr)) (.val (.int fi)) (.val (.ints sg)) (.val (.ints ns)) .un .un .un .un .un .un .un .un .un .un .un .un .un .un .un .un .un .un) ?_ (by walk_at "mem") R3 fun s4 R4 => st_nil ?_)
    · rw [hnsv]
      exact (.there (.there (.there (.there .here))))
    refine stC_one (st_assign (k := .local) (d := .int mo) (ev_eq (ev_bin (ev_sum hh (by walk_at "mem") (ev_dropI (evs_of (ev_name (by walk_at "mem"))) ev_int (by decide) rfl)) ev_int (bin_modI (by decide))) (by rw [← hmo]; rfl))
      (st' := st2 (.val (.ints script)) (.val (.ints dr)) (.val (.int fi)) (.val (.ints sg)) (.val (.ints ns)) (.val (.int mo)) .un .un .un .un .un .un .un .un .un .un .un .un .un .un .un .un .un) (by walk_at "upd") (by walk_at "mem") (.inl rfl) (rfl) R4 fun s5 R5 => st_nil ?_)
    refine stC_one (st_assign (k := .local) (d := .bytes B) (ev_eq (ev_bytesOf hh (by walk_at "mem") (ev_eq (ev_bin (ev_f2 (by walk_at "mem") (top2 (by kernel_rfl)) (fnIs2 rfl (by kernel_rfl) rfl rfl rfl rfl).def (ev_name (by walk_at "mem")) (ev_name (by walk_at "mem")) (drawn2 (hR.le (by decide)) hsg3 (by exact ar131 hns3))) (ev_eq (ev_sliceI (evs_of (ev_takeI (evs_of (ev_name (by walk_at "mem"))) (ev_name (by walk_at "mem")) (by exact ar132 hmo) rfl)) (evp_some (ev_neg ev_int)) evp_none) (by rw [slc_last])) (bin_addI2 (by rw [List.length_append, List.length_drop]; exact ar133 hdl hz hns3))) (show _ = V.ints u by rw [hu0])) hub) (by rw [← hB]; rfl))
      (st' := st2 (.val (.ints script)) (.val (.ints dr)) (.val (.int fi)) (.val (.ints sg)) (.val (.ints ns)) (.val (.int mo)) (.val (.bytes B)) .un .un .un .un .un .un .un .un .un .un .un .un .un .un .un .un) (by walk_at "upd") (by walk_at "mem") (.inl rfl) (rfl) R5 fun s6 R6 => st_nil ?_)
    refine stC_one (st_assign (k := .cell) (d := .int (u.length : Int)) (ev_eq (ev_len (by walk_at "mem") (ev_name (by walk_at "mem")) fun_lenB) (by rw [hBl]))
      (st' := st2 (.val (.ints script)) (.val (.ints dr)) (.val (.int fi)) (.val (.ints sg)) (.val (.ints ns)) (.val (.int mo)) (.val (.bytes B)) (.val (.int (u.length : Int))) .un .un .un .un .un .un .un .un .un .un .un .un .un .un .un) (by walk_at "upd") (by walk_at "mem") (.inr rfl) (rfl) R6 fun s7 R7 => st_nil ?_)
    refine stC_one (st_assign (k := .local) (d := .bytes [toB bar]) (ev_eq (ev_bytesOf hh (by walk_at "mem") (ev_eq (ev_list (evl_cons (ev_bin (ev_bin (ev_name (by walk_at "mem")) ev_int bin_addI) ev_int (bin_modI (by decide))) evl_nil) (by simp [hz])) (show V.list [.int ((fi + 1) % 256)] = V.ints [(fi + 1) % 256] from rfl)) (fun n hn => by rw [List.mem_singleton.mp hn]; exact ar134)) (by rw [← hbr]; rfl))
      (st' := st2 (.val (.ints script)) (.val (.ints dr)) (.val (.int fi)) (.val (.ints sg)) (.val (.ints ns)) (.val (.int mo)) (.val (.bytes B)) (.val (.int (u.length : Int))) (.val (.bytes [toB bar])) .un .un .un .un .un .un .un .un .un .un .un .un .un .un) (by walk_at "upd") (by walk_at "mem") (.inl rfl) (rfl) R7 fun s8 R8 => st_nil ?_)
    refine stC_one (st_own (k := .local) (ds := (begunP u bar 0).map V.pair) (st' := fun a => st2 (.val (.ints script)) (.val (.ints dr)) (.val (.int fi)) (.val (.ints sg)) (.val (.ints ns)) (.val (.int mo)) (.val (.bytes B)) (.val (.int (u.length : Int))) (.val (.bytes [toB bar])) (.own a ((begunP u bar 0).map V.pair)) .un .un .un .un .un .un .un .un .un .un .un .un .un) (evn_eq (evn_list evl_nil (by simp)) (by simp [begunP])) (fun a => by walk_at "upd") (by walk_at "mem") (.inl rfl) rfl R8 fun a1 s9 R9 => st_nil ?_)
    refine stC_one (st_own (k := .local) (ds := (endedP u bar 0).map V.pair) (st' := fun a => st2 (.val (.ints script)) (.val (.ints dr)) (.val (.int fi)) (.val (.ints sg)) (.val (.ints ns)) (.val (.int mo)) (.val (.bytes B)) (.val (.int (u.length : Int))) (.val (.bytes [toB bar])) (.own a1 ((begunP u bar 0).map V.pair)) (.own a ((endedP u bar 0).map V.pair)) .un .un .un .un .un .un .un .un .un .un .un .un) (evn_eq (evn_list evl_nil (by simp)) (by simp [endedP])) (fun a => by walk_at "upd") (by walk_at "mem") (.inl rfl) rfl R9 fun a2 s10 R10 => st_nil ?_)
    -- the loop
    refine st_forC (σ := Nat) (fun i => st2 (.val (.ints script)) (.val (.ints dr)) (.val (.int fi)) (.val (.ints sg)) (.val (.ints ns)) (.val (.int mo)) (.val (.bytes B)) (.val (.int (u.length : Int))) (.val (.bytes [toB bar])) (.own a1 ((begunP u bar i).map V.pair)) (.own a2 ((endedP u bar i).map V.pair)) .un .un .un .un .un .un .un .un .un .un .un .un) (fun ds i => st2 (.val (.ints script)) (.val (.ints dr)) (.val (.int fi)) (.val (.ints sg)) (.val (.ints ns)) (.val (.int mo)) (.val (.bytes B)) (.val (.int (u.length : Int))) (.val (.bytes [toB bar])) (.own a1 ((begunP u bar i).map V.pair)) (.own a2 ((endedP u bar i).map V.pair)) (.val (ds.headD .none)) .un .un .un .un .un .un .un .un .un .un .un) (fun i c => c = i) 0
      (items := ((List.range u.length).map fun (i : Nat) => ((u.length - i : Nat) : Int)).map fun i => [V.int i]) (by
        have e := rng_down (u.length + 1)
        rw [show ((u.length + 1 : Nat) : Int) - 1 = (u.length : Int) from by exact ar135, show u.length + 1 - 1 = u.length from by exact ar136] at e
        have sm := small_down (n := u.length + 1) (by exact ar137 hu13)
        rw [show ((u.length + 1 : Nat) : Int) - 1 = (u.length : Int) from by exact ar135] at sm
        rw [← e]
        exact evw_range3 hh (by walk_at "mem") rfl (evl_cons (ev_name (by walk_at "mem")) (evl_cons ev_int (evl_cons (ev_neg ev_int) evl_nil))) (by decide) (by decide) sm)
      (fun ds hds _ => by obtain ⟨i, _, rfl⟩ := List.mem_map.mp hds; exact .cons (by dsimp only [List.headD]; walk_at "upd") .nil) (fun x hx => by rw [List.mem_singleton.mp hx]; exact .inr (by walk_at "mem")) (Wkn.refl _) rfl R10 ?_ ?_
    · rintro i ds c X₁ kept1 s100 hi rfl hX1 hK1 R100
      have hlt : c < u.length := by
        by_cases q : c < u.length
        · exact q
        · rw [List.getElem?_eq_none (by simpa using q)] at hi; cases hi
      have hds : ds = [V.int ((u.length - c : Nat) : Int)] := by
        rw [List.map_map, List.getElem?_map, List.getElem?_range hlt] at hi
        simp only [Option.map_some, Option.some.injEq, Function.comp] at hi
        rw [← hi]
      subst hds
      dsimp only [List.headD] at R100
      have hbl := begunP_len (u := u) (bar := bar) (n := c) (by exact ar138 hlt) hu13
      have hel := endedP_len (u := u) (bar := bar) (n := c) (by exact ar138 hlt) hu13
      have hx1l := X1_len (u := u) (bar := bar) (i := c) (by exact ar138 hlt)
      have hx2l := X2_len (u := u) (bar := bar) (f := u.length - c) (by exact ar139)
      have hc1 := chL_len (xs := X1 u bar c)
      have hc2 := chL_len (xs := X2 u bar (u.length - c))
      have hbs := begunP_succ (u := u) (bar := bar) c
      have hes := endedP_succ (u := u) (bar := bar) c
      have hpos : 0 < u.length - c := by exact ar140 hlt
      generalize hf : u.length - c = f at *
      have htl : (B.drop c).length = f := by rw [List.length_drop, hBl]; exact hf
      have hfl : (B.take f).length = f := by rw [List.length_take, hBl]; exact ar141 hf
      have hsw : swp (B.drop c ++ B.take f) f = (B.drop c).reverse ++ (B.take f).reverse := swp_pair htl hfl
      have hx1 : (B.drop c ++ [toB bar] ++ (B.drop c).reverse).map (fun u => (u.toNat : Int)) = X1 u bar c := by
        unfold X1
        rw [List.map_append, List.map_append, List.map_reverse, List.map_drop, hBu]
        simp only [List.map_cons, List.map_nil, toB_back hbar0.1 hbar0.2]
      have hx2 : ((B.take f).reverse ++ [toB bar] ++ B.take f).map (fun u => (u.toNat : Int)) = X2 u bar f := by
        unfold X2
        rw [List.map_append, List.map_append, List.map_reverse, List.map_take, hBu]
        simp only [List.map_cons, List.map_nil, toB_back hbar0.1 hbar0.2]
      have ht1 := tab_length (X1 u bar c)
      have ht2 := tab_length (X2 u bar f)
      refine stC_one (st_assign (k := .local) (d := .bytes (B.drop c)) (ev_eq (ev_sliceB (ev_name (by walk_at "mem")) (evp_some (ev_bin (ev_name (by walk_at "mem")) (ev_name (by walk_at "mem")) bin_subI)) evp_none) (by rw [slc_from (by exact ar142 hf), show ((u.length : Int) - (f : Int)).toNat = c from by exact ar143 hf hlt]))
        (st' := st2 (.val (.ints script)) (.val (.ints dr)) (.val (.int fi)) (.val (.ints sg)) (.val (.ints ns)) (.val (.int mo)) (.val (.bytes B)) (.val (.int (u.length : Int))) (.val (.bytes [toB bar])) (.own a1 ((begunP u bar c).map V.pair)) (.own a2 ((endedP u bar c).map V.pair)) (.val (.int (f : Int))) (.val (.bytes (B.drop c))) .un .un .un .un .un .un .un .un .un .un) (by walk_at "upd") (by walk_at "mem") (.inl rfl) (rfl) R100 fun s101 R101 => st_nil ?_)
      refine stC_one (st_assign (k := .local) (d := .bytes (B.take f)) (ev_eq (ev_sliceB (ev_name (by walk_at "mem")) evp_none (evp_some (ev_name (by walk_at "mem")))) (by rw [slc_upto (by exact ar31), Int.toNat_natCast]))
        (st' := st2 (.val (.ints script)) (.val (.ints dr)) (.val (.int fi)) (.val (.ints sg)) (.val (.ints ns)) (.val (.int mo)) (.val (.bytes B)) (.val (.int (u.length : Int))) (.val (.bytes [toB bar])) (.own a1 ((begunP u bar c).map V.pair)) (.own a2 ((endedP u bar c).map V.pair)) (.val (.int (f : Int))) (.val (.bytes (B.drop c))) (.val (.bytes (B.take f))) .un .un .un .un .un .un .un .un .un) (by walk_at "upd") (by walk_at "mem") (.inl rfl) (rfl) R101 fun s102 R102 => st_nil ?_)
      refine stC_call (k := .local) (d := .bytes ((B.drop c).reverse ++ (B.take f).reverse)) (by walk_at "mem") (top2 (by kernel_rfl)) (fnIs2 rfl (by kernel_rfl) rfl rfl rfl rfl).def (evl_cons (ev_bin (ev_name (by walk_at "mem")) (ev_name (by walk_at "mem")) (bin_addB (by rw [List.length_append, htl, hfl]; exact ar144 hz hf hu13))) (evl_cons (ev_name (by walk_at "mem")) evl_nil))
        (by rw [← hsw]; exact byteswap2 (m := 2) (hR.le (by decide)) hgg (by exact hpos) (by rw [List.length_append, htl, hfl]; exact ar145) (by rw [List.length_append, htl, hfl]; exact ar146 hf hu13) (by exact ar147 hf hu13))
        (st' := st2 (.val (.ints script)) (.val (.ints dr)) (.val (.int fi)) (.val (.ints sg)) (.val (.ints ns)) (.val (.int mo)) (.val (.bytes B)) (.val (.int (u.length : Int))) (.val (.bytes [toB bar])) (.own a1 ((begunP u bar c).map V.pair)) (.own a2 ((endedP u bar c).map V.pair)) (.val (.int (f : Int))) (.val (.bytes (B.drop c))) (.val (.bytes (B.take f))) (.val (.bytes ((B.drop c).reverse ++ (B.take f).reverse))) .un .un .un .un .un .un .un .un) (by walk_at "upd") (by walk_at "mem") (.inl rfl) R102 fun s103 R103 => ?_
      refine stC_one (st_if (b := false) (tst_cmp (ev_type (by walk_at "mem") (ev_name (by walk_at "mem")) fun_typeB) (ev_tyname (n := "bytes") (by walk_at "mem") (by simp [bnames])) cmp_isNotT) R103 (fun h1 => nomatch h1) fun _ s104 R104 => st_nil (st_nil ?_))
      refine stC_one (st_assign (k := .local) (d := .ints (tab (X1 u bar c))) (ev_f1 (by walk_at "mem") (top2 (by kernel_rfl)) (fnIs2 rfl (by kernel_rfl) rfl rfl rfl rfl).def (ev_eq (ev_t1 (by simp [bnames]) (by walk_at "mem") (ev_bin (ev_bin (ev_name (by walk_at "mem")) (ev_name (by walk_at "mem")) (bin_addB (by rw [List.length_append, htl]; simp; exact ar148 hz hf hu13))) (ev_eq (ev_sliceB (ev_name (by walk_at "mem")) evp_none (evp_some (ev_name (by walk_at "mem")))) (by rw [slc_upto (by exact ar31), Int.toNat_natCast, List.take_left' (by rw [List.length_reverse]; exact htl)])) (bin_addB (by rw [List.length_append, List.length_append, List.length_reverse, htl]; simp; exact ar149 hz hf hu13))) (fun_listB hh)) (by rw [hx1])) (overlap2 (hR.le (by decide)) (.lst _) (by exact ar150 hx1l hf hu13)))
        (st' := st2 (.val (.ints script)) (.val (.ints dr)) (.val (.int fi)) (.val (.ints sg)) (.val (.ints ns)) (.val (.int mo)) (.val (.bytes B)) (.val (.int (u.length : Int))) (.val (.bytes [toB bar])) (.own a1 ((begunP u bar c).map V.pair)) (.own a2 ((endedP u bar c).map V.pair)) (.val (.int (f : Int))) (.val (.bytes (B.drop c))) (.val (.bytes (B.take f))) (.val (.bytes ((B.drop c).reverse ++ (B.take f).reverse))) (.val (.ints (tab (X1 u bar c)))) .un .un .un .un .un .un .un) (by walk_at "upd") (by walk_at "mem") (.inl rfl) (rfl) R104 fun s105 R105 => st_nil ?_)
      refine stC_one (st_assign (k := .local) (d := .ints (tab (X2 u bar f))) (ev_f1 (by walk_at "mem") (top2 (by kernel_rfl)) (fnIs2 rfl (by kernel_rfl) rfl rfl rfl rfl).def (ev_bin (ev_bin (ev_eq (ev_sliceB (ev_name (by walk_at "mem")) (evp_some (ev_name (by walk_at "mem"))) evp_none) (by rw [slc_from (by exact ar31), Int.toNat_natCast, List.drop_left' (by rw [List.length_reverse]; exact htl)])) (ev_name (by walk_at "mem")) (bin_addB (by rw [List.length_append, List.length_reverse, hfl]; simp; exact ar148 hz hf hu13))) (ev_name (by walk_at "mem")) (bin_addB (by rw [List.length_append, List.length_append, List.length_reverse, hfl]; simp; exact ar149 hz hf hu13))) (overlap2 (hR.le (by decide)) (by rw [← hx2]; exact .bytes _) (by exact ar150 hx2l hf hu13)))
        (st' := st2 (.val (.ints script)) (.val (.ints dr)) (.val (.int fi)) (.val (.ints sg)) (.val (.ints ns)) (.val (.int mo)) (.val (.bytes B)) (.val (.int (u.length : Int))) (.val (.bytes [toB bar])) (.own a1 ((begunP u bar c).map V.pair)) (.own a2 ((endedP u bar c).map V.pair)) (.val (.int (f : Int))) (.val (.bytes (B.drop c))) (.val (.bytes (B.take f))) (.val (.bytes ((B.drop c).reverse ++ (B.take f).reverse))) (.val (.ints (tab (X1 u bar c)))) (.val (.ints (tab (X2 u bar f)))) .un .un .un .un .un .un) (by walk_at "upd") (by walk_at "mem") (.inl rfl) (rfl) R105 fun s106 R106 => st_nil ?_)
      refine stC_one (st_if (b := false) (tst_eq (tst_bool (op := .Or) (tsts_or (tst_cmp (ev_type (by walk_at "mem") (ev_name (by walk_at "mem")) fun_typeL) (ev_tyname (n := "list") (by walk_at "mem") (by simp [bnames])) cmp_isNotT) fun _ => tsts_or (tst_cmp (ev_type (by walk_at "mem") (ev_name (by walk_at "mem")) fun_typeL) (ev_tyname (n := "list") (by walk_at "mem") (by simp [bnames])) cmp_isNotT) fun _ => tsts_or (tst_cmp
        (ev_eq (ev_compI (l := tab (X1 u bar c) ++ tab (X2 u bar f)) (cap := []) V.int (fun _ => false) (evw_ints hh (ev_bin (ev_name (by walk_at "mem")) (ev_name (by walk_at "mem")) (bin_addI2 (by rw [List.length_append]; exact ar151 hz hu13 hf hx1l hx2l ht1 ht2)))) (by decide +kernel) .nil (by rw [List.length_append]; exact ar151 hz hu13 hf hx1l hx2l ht1 ht2)
            (fun i hi X cenv => ifs_one (tst_eq (tst_cmp (ev_type (by walk_at "mem") (ev_name (by walk_at "mem")) fun_typeI) (ev_tyname (n := "int") (by walk_at "mem") (by simp [bnames])) cmp_isNotT) (by decide)))
            (fun i hi hp X cenv => nomatch hp)) (show _ = V.ints [] by simp)) ev_nilI (cmp_neInts hu)) fun _ => tsts_or_nil)) (by simp)) R106 (fun h1 => nomatch h1) fun _ s107 R107 => st_nil (st_nil ?_))
      refine stC_one (st_extend (es := (cst (chL (X1 u bar c))).map fun k => V.tup [.int ((u.length : Int) - (f : Int)), .int ((u.length : Int) - (f : Int) + k)]) (st' := st2 (.val (.ints script)) (.val (.ints dr)) (.val (.int fi)) (.val (.ints sg)) (.val (.ints ns)) (.val (.int mo)) (.val (.bytes B)) (.val (.int (u.length : Int))) (.val (.bytes [toB bar])) (.own a1 ((begunP u bar (c + 1)).map V.pair)) (.own a2 ((endedP u bar c).map V.pair)) (.val (.int (f : Int))) (.val (.bytes (B.drop c))) (.val (.bytes (B.take f))) (.val (.bytes ((B.drop c).reverse ++ (B.take f).reverse))) (.val (.ints (tab (X1 u bar c)))) (.val (.ints (tab (X2 u bar f)))) .un .un .un .un .un .un) (by walk_at "mem")
        (ev_eq (ev_compI (l := cst (chL (X1 u bar c))) (cap := [(Str.ofString "far", .val (.int (f : Int))), (Str.ofString "size", .val (.int (u.length : Int)))]) (fun k => V.tup [.int ((u.length : Int) - (f : Int)), .int ((u.length : Int) - (f : Int) + k)]) (fun _ => true) (evw_ints hh (ev_f1 (by walk_at "mem") (top2 (by kernel_rfl)) (fnIs2 rfl (by kernel_rfl) rfl rfl rfl rfl).def (ev_name (by walk_at "mem")) (told2 (hR.le (by decide)) (by exact ar152 hx1l) (by exact ar153 hx1l hf hu13)))) (by decide +kernel) (.cons (by walk_at "mem") (by walk_at "mem") (.cons (by walk_at "mem") (by walk_at "mem") .nil)) (by rw [cst_length]; exact ar154 hz hu13 hc1 hf hx1l) (fun i hi X cenv => ifs_nil)
          (fun i hi hp X cenv => ev_tuple (evl_cons (ev_bin (ev_name (by walk_at "mem")) (ev_name (by walk_at "mem")) bin_subI) (evl_cons (ev_bin (ev_bin (ev_name (by walk_at "mem")) (ev_name (by walk_at "mem")) bin_subI) (ev_name (by walk_at "mem")) bin_addI) evl_nil)) (by simp [hz]))) (by rw [List.filter_eq_self.mpr (fun _ _ => rfl)])) (by rw [List.length_map, List.length_map, cst_length]; exact ar155 hz hu13 hbl hc1 hf hx1l hpos) (by
          have e : ((begunP u bar (c + 1)).map V.pair) = (begunP u bar c).map V.pair ++ (cst (chL (X1 u bar c))).map fun k => V.tup [.int ((u.length : Int) - (f : Int)), .int ((u.length : Int) - (f : Int) + k)] := by
            rw [hbs, List.map_append]
            congr 1
            unfold cst
            rw [List.map_map, List.map_map]
            refine List.map_congr_left fun k hk => ?_
            simp only [Function.comp, V.pair]
            rw [show ((u.length : Int) - (f : Int)) = (c : Int) from by exact ar156 hf hlt, show ((c : Int) + (k : Int)) = ((c + k : Nat) : Int) from by exact ar157]
          rw [e]
          walk_at "upd") R107 fun s108 R108 => st_nil ?_)
      refine stC_one (st_extend (es := (cst (chL (X2 u bar f))).map fun k => V.tup [.int ((f : Int)), .int ((f : Int) - k)]) (st' := st2 (.val (.ints script)) (.val (.ints dr)) (.val (.int fi)) (.val (.ints sg)) (.val (.ints ns)) (.val (.int mo)) (.val (.bytes B)) (.val (.int (u.length : Int))) (.val (.bytes [toB bar])) (.own a1 ((begunP u bar (c + 1)).map V.pair)) (.own a2 ((endedP u bar (c + 1)).map V.pair)) (.val (.int (f : Int))) (.val (.bytes (B.drop c))) (.val (.bytes (B.take f))) (.val (.bytes ((B.drop c).reverse ++ (B.take f).reverse))) (.val (.ints (tab (X1 u bar c)))) (.val (.ints (tab (X2 u bar f)))) .un .un .un .un .un .un) (by walk_at "mem")
        (ev_eq (ev_compI (l := cst (chL (X2 u bar f))) (cap := [(Str.ofString "far", .val (.int (f : Int)))]) (fun k => V.tup [.int ((f : Int)), .int ((f : Int) - k)]) (fun _ => true) (evw_ints hh (ev_f1 (by walk_at "mem") (top2 (by kernel_rfl)) (fnIs2 rfl (by kernel_rfl) rfl rfl rfl rfl).def (ev_name (by walk_at "mem")) (told2 (hR.le (by decide)) (by exact ar152 hx2l) (by exact ar153 hx2l hf hu13)))) (by decide +kernel) (.cons (by walk_at "mem") (by walk_at "mem") .nil) (by rw [cst_length]; exact ar158 hz hu13 hf hx2l hc2) (fun i hi X cenv => ifs_nil)
          (fun i hi hp X cenv => ev_tuple (evl_cons (ev_name (by walk_at "mem")) (evl_cons (ev_bin (ev_name (by walk_at "mem")) (ev_name (by walk_at "mem")) bin_subI) evl_nil)) (by simp [hz]))) (by rw [List.filter_eq_self.mpr (fun _ _ => rfl)])) (by rw [List.length_map, List.length_map, cst_length]; exact ar159 hz hu13 hel hf hx2l hc2 hpos) (by
          have e : ((endedP u bar (c + 1)).map V.pair) = (endedP u bar c).map V.pair ++ (cst (chL (X2 u bar f))).map fun k => V.tup [.int ((f : Int)), .int ((f : Int) - k)] := by
            rw [hes, List.map_append]
            congr 1
            unfold cst
            rw [List.map_map, List.map_map]
            refine List.map_congr_left fun k hk => ?_
            simp only [Function.comp, V.pair]
            have hk2 := ((x2_mem hbu (u := u) (f := f) (by exact hpos) (by exact ar160 hf)).mp hk).2.1
            rw [show ((f : Int) - (k : Int)) = ((f - k : Nat) : Int) from by exact ar161 hk2]
          rw [e]
          walk_at "upd") R108 fun s109 R109 => st_nil ?_)
      exact wpC_any (st_nil ⟨c + 1, _, rfl, R109, .same (.same (.same (.same (.same (.same (.same (.same (.same (.same (.same (.drop (.drop (.drop (.drop (.drop (.drop (.same (.same (.same (.same (.same (.same (.nil)))))))))))))))))))))))⟩)
    · rintro c s200 rfl R200
      rw [List.length_map, List.length_map, List.length_range] at R200
      have hne : a1 ≠ a2 := fun e => absurd (R200.odist (Str.ofString "begun", .own a1 ((begunP u bar u.length).map V.pair)) (by walk_at "mem") (Str.ofString "ended", .own a2 ((endedP u bar u.length).map V.pair)) (by walk_at "mem") a1 rfl (by rw [e]; rfl)) (show ¬ Str.ofString "begun" = Str.ofString "ended" by decide +kernel)
      have R201 := R200.freeze (own' := [a1]) (st' := st2 (.val (.ints script)) (.val (.ints dr)) (.val (.int fi)) (.val (.ints sg)) (.val (.ints ns)) (.val (.int mo)) (.val (.bytes B)) (.val (.int (u.length : Int))) (.val (.bytes [toB bar])) (.own a1 ((begunP u bar u.length).map V.pair)) (.val (V.pairs (endedP u bar u.length))) .un .un .un .un .un .un .un .un .un .un .un .un) (x := Str.ofString "ended") (a := a2) (ds := (endedP u bar u.length).map V.pair) (by walk_at "mem") (by walk_at "upd") (fun b hb => by rw [List.mem_singleton.mp hb]; exact ⟨by simp, hne⟩) (fun b hb hb2 => by simp only [List.mem_cons, List.not_mem_nil, or_false] at hb; rcases hb with rfl | rfl; exact absurd rfl hb2; simp)
      have R202 := R201.freeze (own' := []) (st' := st2 (.val (.ints script)) (.val (.ints dr)) (.val (.int fi)) (.val (.ints sg)) (.val (.ints ns)) (.val (.int mo)) (.val (.bytes B)) (.val (.int (u.length : Int))) (.val (.bytes [toB bar])) (.val (V.pairs (begunP u bar u.length))) (.val (V.pairs (endedP u bar u.length))) .un .un .un .un .un .un .un .un .un .un .un .un) (x := Str.ofString "begun") (a := a1) (ds := (begunP u bar u.length).map V.pair) (by walk_at "mem") (by walk_at "upd") (by simp) (by simp)
      have hplen := plainP_len hu13
      have hpb := plain_begun (u := u) hbu (by exact ar162 hu13)
      have hpe := plain_ended (u := u) hbu (by exact ar162 hu13)
      have hprk : (plainP u).Pairwise fun a b => rk a ≤ rk b := ((plc_up (n := u.length) (by exact ar162 hu13)).filter _).imp fun {a b} h => Int.le_of_lt h
      have hpbd : ∀ p ∈ plainP u, 0 ≤ p.2 ∧ p.2 < 1000 := fun p hp => by obtain ⟨i, j, rfl, h1, h2, _⟩ := plain_mem.mp hp; dsimp only; exact ar163 h2 hu13
      have hbgl := hpb.length_eq
      have hedl : (plainP u).length = (endedP u bar u.length).length := by rw [hpe.length_eq, List.length_map]
      refine stC_one (st_assign (k := .local) (d := V.pairs (plainP u)) (ev_b1 (by simp [bnames]) (by walk_at "mem") (ev_name (by walk_at "mem")) (fun_sortedP hpb hprk (fun p hp => hpbd p (hpb.mem_iff.mpr hp)) (by exact ar164 hbgl hplen)))
        (st' := st2 (.val (.ints script)) (.val (.ints dr)) (.val (.int fi)) (.val (.ints sg)) (.val (.ints ns)) (.val (.int mo)) (.val (.bytes B)) (.val (.int (u.length : Int))) (.val (.bytes [toB bar])) (.val (V.pairs (begunP u bar u.length))) (.val (V.pairs (endedP u bar u.length))) .un .un .un .un .un .un (.val (V.pairs (plainP u))) .un .un .un .un .un) (by walk_at "upd") (by walk_at "mem") (.inl rfl) (rfl) R202 fun s203 R203 => st_nil ?_)
      refine stC_one (st_if (b := false) (tst_eq (tst_cmp (ev_name (by walk_at "mem")) (ev_b1 (by simp [bnames]) (by walk_at "mem") (ev_eq (ev_compP (l := endedP u bar u.length) (cap := []) (fun p => V.pair (p.2, p.1)) (fun _ => true)
        (evw_tuples hh (.two _ _ _ _ _ _) (fun r hr => by obtain ⟨q, _, rfl⟩ := List.mem_map.mp hr; rfl) (ev_eq (ev_name (d := V.pairs (endedP u bar u.length)) (by walk_at "mem")) (by unfold V.pairs V.pair pairV; rw [List.map_map]; rfl))) (by decide +kernel) .nil (by exact ar165 hz hedl hplen) (fun i hi X cenv => ifs_nil)
        (fun i hi hp X cenv => ev_tuple (evl_cons (ev_name (by walk_at "mem")) (evl_cons (ev_name (by walk_at "mem")) evl_nil)) (by simp [hz]))) (show _ = V.pairs ((endedP u bar u.length).map fun p => (p.2, p.1)) by rw [List.filter_eq_self.mpr (fun _ _ => rfl)]; unfold V.pairs; rw [List.map_map]; rfl)) (fun_sortedP hpe hprk (fun p hp => hpbd p (hpe.mem_iff.mpr hp)) (by rw [List.length_map]; exact ar164 hedl hplen))) (cmp_nePairs hu)) (by simp)) R203 (fun h1 => nomatch h1) fun _ s204 R204 => st_nil (st_nil ?_))
      refine stC_one (st_assign (k := .cell) (d := .ints u) (ev_eq (ev_t1 (by simp [bnames]) (by walk_at "mem") (ev_name (by walk_at "mem")) (fun_listB hh)) (by rw [hBu]))
        (st' := st2 (.val (.ints script)) (.val (.ints dr)) (.val (.int fi)) (.val (.ints sg)) (.val (.ints ns)) (.val (.int mo)) (.val (.bytes B)) (.val (.int (u.length : Int))) (.val (.bytes [toB bar])) (.val (V.pairs (begunP u bar u.length))) (.val (V.pairs (endedP u bar u.length))) .un .un .un .un .un .un (.val (V.pairs (plainP u))) (.val (.ints u)) .un .un .un .un) (by walk_at "upd") (by walk_at "mem") (.inr rfl) (rfl) R204 fun s205 R205 => st_nil ?_)
      have hshl : (shP u).length ≤ 14 := by have := shN_len u (u.length - 1); unfold shP; exact ar166 this hu13
      have hshr : (shP u.reverse).length ≤ 14 := by have := shN_len u.reverse (u.reverse.length - 1); rw [List.length_reverse] at this; unfold shP; rw [List.length_reverse]; exact ar166 this hu13
      refine stC_one (st_assign (k := .local) (d := .ints (cst (shP u))) (ev_f1 (by walk_at "mem") (top2 (by kernel_rfl)) (fnIs2 rfl (by kernel_rfl) rfl rfl rfl rfl).def (ev_name (by walk_at "mem")) (shortest2 (hR.le (by decide)) (by exact ar167 hu13)))
        (st' := st2 (.val (.ints script)) (.val (.ints dr)) (.val (.int fi)) (.val (.ints sg)) (.val (.ints ns)) (.val (.int mo)) (.val (.bytes B)) (.val (.int (u.length : Int))) (.val (.bytes [toB bar])) (.val (V.pairs (begunP u bar u.length))) (.val (V.pairs (endedP u bar u.length))) .un .un .un .un .un .un (.val (V.pairs (plainP u))) (.val (.ints u)) (.val (.ints (cst (shP u)))) .un .un .un) (by walk_at "upd") (by walk_at "mem") (.inl rfl) (rfl) R205 fun s206 R206 => st_nil ?_)
      refine stC_one (st_compI (fun c => .int ((u.length : Int) - c)) (fun _ => true) (l := cst (shP u.reverse)) (cap := [(Str.ofString "size", .val (.int (u.length : Int)))])
        (evw_ints hh (ev_f1 (by walk_at "mem") (top2 (by kernel_rfl)) (fnIs2 rfl (by kernel_rfl) rfl rfl rfl rfl).def (ev_revI (evs_of (ev_name (by walk_at "mem"))) (ev_neg ev_int)) (shortest2 (hR.le (by decide)) (by rw [List.length_reverse]; exact ar167 hu13)))) (by decide +kernel) (.cons (by walk_at "mem") (by walk_at "mem") .nil) (by rw [cst_length]; exact ar168 hshr hz) (fun i hi X cenv => ifs_nil)
        (fun i hi hp X cenv => ev_bin (ev_name (by walk_at "mem")) (ev_name (by walk_at "mem")) bin_subI) (st' := st2 (.val (.ints script)) (.val (.ints dr)) (.val (.int fi)) (.val (.ints sg)) (.val (.ints ns)) (.val (.int mo)) (.val (.bytes B)) (.val (.int (u.length : Int))) (.val (.bytes [toB bar])) (.val (V.pairs (begunP u bar u.length))) (.val (V.pairs (endedP u bar u.length))) .un .un .un .un .un .un (.val (V.pairs (plainP u))) (.val (.ints u)) (.val (.ints (cst (shP u)))) (.val (.ints (bhL u))) .un .un) ?_ (by walk_at "mem") R206 fun s207 R207 => st_nil ?_)
      · rw [List.filter_eq_self.mpr (fun _ _ => rfl), show ((cst (shP u.reverse)).map fun c => V.int ((u.length : Int) - c)) = (bhL u).map V.int from by unfold bhL; rw [List.map_map]; rfl]
        exact (.there (.there (.there (.there (.there (.there (.there (.there (.there (.there (.there (.there (.there (.there (.there (.there (.there (.there (.there (.there .here))))))))))))))))))))
      refine stC_one (st_comp2 (items := (List.range u.length).map fun (i : Nat) => V.int (i : Int)) (items2 := fun d => match d with | .int i => (List.range (u.length - i.toNat)).map fun (t : Nat) => V.int ((i.toNat + 1 + t : Nat) : Int) | _ => []) (cap := [(Str.ofString "size", .val (.int (u.length : Int)))]) (fun d e => .tup [d, e])
        (by
          have e : ((List.range u.length).map fun (i : Nat) => V.int (i : Int)).map (fun d => [d]) = ((List.range u.length).map fun (i : Nat) => ((i : Nat) : Int)).map fun i => [V.int i] := by rw [List.map_map, List.map_map]; rfl
          rw [e, ← rng_zero]
          exact evw_range1 hh (by walk_at "mem") rfl (evl_cons (ev_name (by walk_at "mem")) evl_nil) (small_one (by exact ar169) (by exact ar170) (by exact ar171) (by exact ar172 hu13)))
        (by decide +kernel) (.cons (by walk_at "mem") (by walk_at "mem") .nil) (by
          have := plcP_len hu13
          have e2 := congrArg List.length hplv
          rw [List.length_map] at e2
          rw [e2]; exact ar173 this hz)
        (fun d hd X cenv => by
          obtain ⟨i, hi, rfl⟩ := List.mem_map.mp hd
          rw [List.mem_range] at hi
          dsimp only
          rw [Int.toNat_natCast]
          have e : ((List.range (u.length - i)).map fun (t : Nat) => V.int ((i + 1 + t : Nat) : Int)).map (fun e => [e]) = (rng ((i : Int) + 1) ((u.length : Int) + 1) 1).map fun i => [V.int i] := by
            rw [rng_one, show ((u.length : Int) + 1 - ((i : Int) + 1)).toNat = u.length - i from by exact ar174, List.map_map, List.map_map]
            exact List.map_congr_left fun t _ => by simp only [Function.comp]; congr 2; try omega
          rw [e]
          exact evw_range2 hh (by walk_at "mem") rfl (evl_cons (ev_bin (ev_name (by walk_at "mem")) ev_int bin_addI) (evl_cons (ev_bin (ev_name (by walk_at "mem")) ev_int bin_addI) evl_nil)) (small_one (by exact ar175) (by exact ar176 hi hu13) (by exact ar175) (by exact ar177 hu13)))
        (fun d hd e he X cenv => ev_tuple (evl_cons (ev_name (by walk_at "mem")) (evl_cons (ev_name (by walk_at "mem")) evl_nil)) (by simp [hz]))
        (st' := st2 (.val (.ints script)) (.val (.ints dr)) (.val (.int fi)) (.val (.ints sg)) (.val (.ints ns)) (.val (.int mo)) (.val (.bytes B)) (.val (.int (u.length : Int))) (.val (.bytes [toB bar])) (.val (V.pairs (begunP u bar u.length))) (.val (V.pairs (endedP u bar u.length))) .un .un .un .un .un .un (.val (V.pairs (plainP u))) (.val (.ints u)) (.val (.ints (cst (shP u)))) (.val (.ints (bhL u))) (.val (V.pairs (plcP u.length))) .un) ?_ (by walk_at "mem") R207 fun s208 R208 => st_nil ?_)
      · rw [hplv]
        exact (.there (.there (.there (.there (.there (.there (.there (.there (.there (.there (.there (.there (.there (.there (.there (.there (.there (.there (.there (.there (.there .here)))))))))))))))))))))
      refine stC_one (st_compP V.pair (plB u) (l := plcP u.length) (cap := [(Str.ofString "octets", .val (.ints u))])
        (evw_tuples hh (.two _ _ _ _ _ _) (fun r hr => by obtain ⟨q, _, rfl⟩ := List.mem_map.mp hr; rfl) (ev_eq (ev_name (d := V.pairs (plcP u.length)) (by walk_at "mem")) (by unfold V.pairs V.pair pairV; rw [List.map_map]; rfl))) (by decide +kernel) (.cons (by walk_at "mem") (by walk_at "mem") .nil) (by have := plcP_len hu13; exact ar173 this hz)
        (fun i hi X cenv => by
          obtain ⟨a, b, rfl, h1, h2⟩ := plc_mem.mp hi
          exact ifs_one (tst_cmp (ev_runI (xs := u) (ys := slP u ((a : Int), (b : Int))) (evs_of (ev_name (by walk_at "mem"))) (ev_name (by walk_at "mem")) (ev_name (by walk_at "mem")) (by omega) (by omega) rfl) (ev_revI (evs_of (ev_runI (xs := u) (ys := slP u ((a : Int), (b : Int))) (evs_of (ev_name (by walk_at "mem"))) (ev_name (by walk_at "mem")) (ev_name (by walk_at "mem")) (by omega) (by omega) rfl)) (ev_neg ev_int)) (cmp_eqInts hu)))
        (fun i hi hp X cenv => ev_tuple (evl_cons (ev_name (by walk_at "mem")) (evl_cons (ev_name (by walk_at "mem")) evl_nil)) (by simp [hz]))
        (st' := st2 (.val (.ints script)) (.val (.ints dr)) (.val (.int fi)) (.val (.ints sg)) (.val (.ints ns)) (.val (.int mo)) (.val (.bytes B)) (.val (.int (u.length : Int))) (.val (.bytes [toB bar])) (.val (V.pairs (begunP u bar u.length))) (.val (V.pairs (endedP u bar u.length))) .un .un .un .un .un .un (.val (V.pairs (plainP u))) (.val (.ints u)) (.val (.ints (cst (shP u)))) (.val (.ints (bhL u))) (.val (V.pairs (plcP u.length))) (.val (V.pairs (plainP u)))) (.there (.there (.there (.there (.there (.there (.there (.there (.there (.there (.there (.there (.there (.there (.there (.there (.there (.there (.there (.there (.there (.there .here)))))))))))))))))))))) (by walk_at "mem") R208 fun s209 R209 => st_nil ?_)
      refine stC_one (st_if (b := false) (tst_eq (tst_cmp (ev_call (by walk_at "mem") (top2 (by kernel_rfl)) (fnIs2 rfl (by kernel_rfl) rfl rfl rfl rfl).def (evl_cons (ev_name (by walk_at "mem")) (evl_cons (ev_name (by walk_at "mem")) (evl_cons (ev_name (by walk_at "mem")) evl_nil))) (other2 (hR.le (by decide)) (by exact ar178 hplen))) (ev_call (by walk_at "mem") (top2 (by kernel_rfl)) (fnIs2 rfl (by kernel_rfl) rfl rfl rfl rfl).def (evl_cons (ev_name (by walk_at "mem")) (evl_cons (ev_name (by walk_at "mem")) (evl_cons (ev_name (by walk_at "mem")) evl_nil))) (other2 (hR.le (by decide)) (by exact ar178 hplen))) (cmp_nePairs hu)) (by simp)) R209 (fun h1 => nomatch h1) fun _ s210 R210 => st_nil (st_nil ?_))
      have hrl := reP_len (plainP u) 0
      refine stC_one (st_if (b := false) (tst_eq (tst_cmp (ev_b1 (by simp [bnames]) (by walk_at "mem") (ev_f2 (by walk_at "mem") (top2 (by kernel_rfl)) (fnIs2 rfl (by kernel_rfl) rfl rfl rfl rfl).def (ev_name (by walk_at "mem")) ev_int (reached2 (hR.le (by decide)) (by exact ar178 hplen))) (fun_sortedI (ahead_perm hu1 (by exact ar162 hu13)) (ahead_up hu1) (by rw [← (ahead_perm hu1 (by exact ar162 hu13)).length_eq, cst_length]; exact ar179 hshl))) (ev_name (by walk_at "mem")) (cmp_neInts hu)) (by simp)) R210 (fun h1 => nomatch h1) fun _ s211 R211 => st_nil (st_nil ?_))
      have hbp := back_perm (u := u) hu1 hbu
      have hbu2 := back_up (u := u) hu1
      have hbll : (bhL u).length ≤ 14 := by unfold bhL; rw [List.length_map, cst_length]; exact hshr
      have hml : (if (cst (shP u)).contains (u.length : Int) then cst (shP u) else (bhL u).reverse).length ≤ 14 := by
        split
        · rw [cst_length]; exact hshl
        · rw [List.length_reverse]; exact hbll
      have hb64 := hbp.length_eq
      refine wpC_any (st_ret (d := .bool true) (ev_eq (ev_cmp (ev_b1 (by simp [bnames]) (by walk_at "mem") (ev_f2 (by walk_at "mem") (top2 (by kernel_rfl)) (fnIs2 rfl (by kernel_rfl) rfl rfl rfl rfl).def (ev_name (by walk_at "mem")) (ev_name (by walk_at "mem")) (reached2 (hR.le (by decide)) (by exact ar180 hedl hplen))) (fun_sortedI hbp hbu2 (by exact ar181 hb64 hml)))
        (ev_ifexp (d := .ints (if (cst (shP u)).contains (u.length : Int) then cst (shP u) else (bhL u).reverse)) (tst_in (ev_name (by walk_at "mem")) (evs_of (ev_name (by walk_at "mem"))) hu) (fun h => by rw [if_pos h]; exact (ev_name (by walk_at "mem"))) (fun h => by rw [if_neg (by rw [h]; decide)]; exact ev_b1 (by simp [bnames]) (by walk_at "mem") (ev_name (by walk_at "mem")) (fun_sortedI (List.reverse_perm _) ((bhL_up hu1).imp fun {a b} h => by exact ar182 h) (by exact ar179 hbll)))) (cmp_eqInts hu)) (by simp)) R211 fun v s' R' D => hret _ _ _ _ _ _ (fun _ q => q) (fun _ _ q => q) R' D)
end Mine
end

section
open PySem PySem.W PySem.Spec PySem.Calls PyProof.Rows
set_option Elab.async false
set_option linter.unusedVariables false
set_option maxRecDepth 100000
set_option maxHeartbeats 8000000
namespace Mine
theorem room_caller : Room 3 callerA := by
  unfold Room callerA
  refine ⟨rfl, ?_, ?_⟩
  · decide +kernel
  · decide +kernel
theorem well_list {P : Params} {h : Heap} {a : Addr} {vs : List Value} {xs : List WData} (w1 : Well P h (.ref a) (.list xs)) (hL : h.IsList a vs.toArray) : ∃ n, h.get? a = some (lobj vs n) := by
  cases w1 with
  | list e _ =>
    obtain ⟨o, e', hc, n, hd⟩ := hL
    rw [e] at e'
    cases e'
    cases hd
    exact ⟨_, e⟩
theorem good_true {c : ClaimW} {cl : Str → Option Addr} {mean : ExcName → Option Value} {args : List WData} {s₁ s' : Shared} (h1 : ∀ cls, c.raises args cls = false) (h2 : c.post args (.bool true) args = true) (hk : Kp s₁ s') (hg : s₁.gens = #[]) :
    GoodWG c cl mean args s₁ (.ok (.ret (.bool true))) s' := by
  obtain ⟨h, tk, rfl, k⟩ := hk
  refine ⟨.inl ⟨_, _, [], rfl, h1, .bool true, h2, fun _ => ⟨List.nodup_nil, fun a ha => nomatch ha⟩⟩, ⟨fun b o e => .inl (k b o e), fun b o e => ⟨o, k b o e⟩⟩, rfl, AllBare.of_eq hg⟩
end Mine
theorem PySem.Challenge.cw_rs0016_02_holds : PySem.Challenge.rw_rs0016_02.Holds :=
  Head02.hd (by
  intro w s₀ s₁ mg mb G Y fa o pm cd doc dV kV ho hd hcd hD hmg hg args vals as hpre hlay hrd hwl hlo
  have KX := kIn_of Y
  refine Ground.open G ?_
  intro T B D TE TW
  clear ho hd hcd hD
  wrow_args hpre hlay hrd hwl hlo
  rename_i ns _ _ _ _ _ _ _ a vs _ hL _ w1 _ hI _ hc _
  have hfa : fa = 62 := by
    have e := PySem.W.mg_of (n := Str.ofString "law") (v := .ref 62) KX T.g (by kernel_rfl)
    have e2 : mg (Str.ofString "law") = some (.ref fa) := hmg
    rw [e2] at e
    exact Value.ref.inj (Option.some.inj e)
  subst hfa
  have good : ∀ s', Mine.Kp s₁ s' → GoodWG PySem.Challenge.rw_rs0016_02.row.claim (classAt s₀.heap) (ExcName.means s₀.heap) [ofPy (PyData.list (List.map PyData.int ns))] s₁ (.ok (.ret (.bool true))) s' := fun s' k =>
    Mine.good_true (fun _ => rfl) (postW_of (by decide +kernel) (w_eq_bool (w_res rfl) w_lit) rfl) k hg
  refine ⟨good _ (.refl _), ?_⟩
  obtain ⟨n, hget⟩ := Mine.well_list w1 hL
  have hden : Mine.DenL (fun _ => False) s₁.heap [.ints ns] [.ref a] := by
    refine .cons ?_ .nil
    simp only [Mine.Den]
    exact ⟨by rw [List.length_map, sizeLine_eq]; exact Mine.ar120 hc, a, vs, n, rfl, id, hget, Mine.denL_of_ints hI⟩
  refine Mine.wpC_mono (Mine.law2 Mine.room_caller rfl (fun _ => False) s₁ (fun _ _ => False) _ (fun _ f => f.elim) ⟨KX, T⟩ hden) (fun v s' q => ?_) fun _ _ f => f.elim
  obtain ⟨k, D1⟩ := q
  simp only [Mine.Den] at D1
  subst D1
  exact good s' k)
end
