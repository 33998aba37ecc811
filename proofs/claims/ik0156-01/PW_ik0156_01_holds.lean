import PyProof.Rows.All
import Wide.All
import OpenK.AllK
import Wide.FinOn
import Lean
import PySem.Challenge.RW_ik0156_01
set_option Elab.async false
set_option maxRecDepth 100000
set_option linter.unusedVariables false
set_option autoImplicit false
set_option compiler.extract_closed false
set_option compiler.reuse false
set_option genSizeOf false
set_option genInjectivity false
set_option bootstrap.genMatcherCode false

section
set_option linter.unusedVariables false
set_option autoImplicit false
namespace Mine.Li
inductive T
  | n (k : Nat)
  | v (i : Nat)
  | a (x y : T)
  | m (k : Nat) (x : T)
inductive Z
  | i (k : Int)
  | c (t : T)
  | v (i : Nat)
  | a (x y : Z)
  | d (x y : Z)
  | g (x : Z)
  | m (k : Int) (x : Z)
noncomputable def gN : List Nat → Nat → Nat
  | [], _ => 0
  | x :: _, 0 => x
  | _ :: l, i + 1 => gN l i
noncomputable def gI : List Int → Nat → Int
  | [], _ => 0
  | x :: _, 0 => x
  | _ :: l, i + 1 => gI l i
noncomputable def T.den (c : List Nat) : T → Nat
  | .n k => k
  | .v i => gN c i
  | .a x y => x.den c + y.den c
  | .m k x => k * x.den c
noncomputable def Z.den (c : List Nat) (d : List Int) : Z → Int
  | .i k => k
  | .c t => ((t.den c : Nat) : Int)
  | .v j => gI d j
  | .a x y => x.den c d + y.den c d
  | .d x y => x.den c d - y.den c d
  | .g x => - x.den c d
  | .m k x => k * x.den c d
inductive F
  | nlt (x y : T) | nle (x y : T) | neq (x y : T) | nnlt (x y : T) | nnle (x y : T) | nne (x y : T)
  | zlt (x y : Z) | zle (x y : Z) | zeq (x y : Z) | znlt (x y : Z) | znle (x y : Z) | zne (x y : Z)
  | sub (x y t : T)
noncomputable def F.den (c : List Nat) (d : List Int) : F → Prop
  | .nlt x y => x.den c < y.den c
  | .nle x y => x.den c ≤ y.den c
  | .neq x y => x.den c = y.den c
  | .nnlt x y => ¬ x.den c < y.den c
  | .nnle x y => ¬ x.den c ≤ y.den c
  | .nne x y => ¬ x.den c = y.den c
  | .zlt x y => x.den c d < y.den c d
  | .zle x y => x.den c d ≤ y.den c d
  | .zeq x y => x.den c d = y.den c d
  | .znlt x y => ¬ x.den c d < y.den c d
  | .znle x y => ¬ x.den c d ≤ y.den c d
  | .zne x y => ¬ x.den c d = y.den c d
  | .sub x y t => x.den c - y.den c = t.den c
structure P where
  k : Int
  ns : List Int
  zs : List Int
def addL : List Int → List Int → List Int
  | [], b => b
  | a, [] => a
  | x :: a, y :: b => (x + y) :: addL a b
def mulL (k : Int) : List Int → List Int
  | [] => []
  | x :: a => (k * x) :: mulL k a
def unit : Nat → List Int
  | 0 => [1]
  | i + 1 => 0 :: unit i
def P.add (p q : P) : P := ⟨p.k + q.k, addL p.ns q.ns, addL p.zs q.zs⟩
def P.mul (k : Int) (p : P) : P := ⟨k * p.k, mulL k p.ns, mulL k p.zs⟩
noncomputable def dotN : List Int → List Nat → Int
  | a :: as, x :: xs => a * (x : Int) + dotN as xs
  | _, _ => 0
noncomputable def dotI : List Int → List Int → Int
  | a :: as, x :: xs => a * x + dotI as xs
  | _, _ => 0
noncomputable def P.ev (c : List Nat) (d : List Int) (p : P) : Int := p.k + dotN p.ns c + dotI p.zs d
theorem dotN_nil (c : List Nat) : dotN [] c = 0 := by cases c <;> rfl
theorem dotI_nil (c : List Int) : dotI [] c = 0 := by cases c <;> rfl
theorem add4 (a b c d : Int) : a + b + (c + d) = (a + c) + (b + d) := by rw [Int.add_assoc, Int.add_assoc, Int.add_left_comm b]
theorem dotN_add : ∀ (a b : List Int) (c : List Nat), dotN (addL a b) c = dotN a c + dotN b c
  | [], b, c => by rw [dotN_nil, Int.zero_add]; rfl
  | x :: a, [], c => by rw [dotN_nil, Int.add_zero]; rfl
  | x :: a, y :: b, [] => rfl
  | x :: a, y :: b, z :: c => by
    show (x + y) * (z : Int) + dotN (addL a b) c = (x * z + dotN a c) + (y * z + dotN b c)
    rw [dotN_add a b c, Int.add_mul]; exact add4 _ _ _ _
theorem dotI_add : ∀ (a b c : List Int), dotI (addL a b) c = dotI a c + dotI b c
  | [], b, c => by rw [dotI_nil, Int.zero_add]; rfl
  | x :: a, [], c => by rw [dotI_nil, Int.add_zero]; rfl
  | x :: a, y :: b, [] => rfl
  | x :: a, y :: b, z :: c => by
    show (x + y) * z + dotI (addL a b) c = (x * z + dotI a c) + (y * z + dotI b c)
    rw [dotI_add a b c, Int.add_mul]; exact add4 _ _ _ _
theorem dotN_mul (k : Int) : ∀ (a : List Int) (c : List Nat), dotN (mulL k a) c = k * dotN a c
  | [], c => by rw [dotN_nil, Int.mul_zero]; exact dotN_nil c
  | x :: a, [] => by show (0 : Int) = k * 0; rw [Int.mul_zero]
  | x :: a, z :: c => by
    show (k * x) * (z : Int) + dotN (mulL k a) c = k * (x * z + dotN a c)
    rw [dotN_mul k a c, Int.mul_add, Int.mul_assoc]
theorem dotI_mul (k : Int) : ∀ (a c : List Int), dotI (mulL k a) c = k * dotI a c
  | [], c => by rw [dotI_nil, Int.mul_zero]; exact dotI_nil c
  | x :: a, [] => by show (0 : Int) = k * 0; rw [Int.mul_zero]
  | x :: a, z :: c => by
    show (k * x) * z + dotI (mulL k a) c = k * (x * z + dotI a c)
    rw [dotI_mul k a c, Int.mul_add, Int.mul_assoc]
theorem dotN_unit : ∀ (i : Nat) (c : List Nat), dotN (unit i) c = (gN c i : Int)
  | 0, [] => rfl
  | 0, x :: c => by show 1 * (x : Int) + dotN [] c = x; rw [dotN_nil, Int.one_mul, Int.add_zero]
  | i + 1, [] => rfl
  | i + 1, x :: c => by show 0 * (x : Int) + dotN (unit i) c = gN c i; rw [dotN_unit i c, Int.zero_mul, Int.zero_add]
theorem dotI_unit : ∀ (i : Nat) (c : List Int), dotI (unit i) c = gI c i
  | 0, [] => rfl
  | 0, x :: c => by show 1 * x + dotI [] c = x; rw [dotI_nil, Int.one_mul, Int.add_zero]
  | i + 1, [] => rfl
  | i + 1, x :: c => by show 0 * x + dotI (unit i) c = gI c i; rw [dotI_unit i c, Int.zero_mul, Int.zero_add]
theorem P.ev_add (c : List Nat) (d : List Int) (p q : P) : (p.add q).ev c d = p.ev c d + q.ev c d := by
  show p.k + q.k + dotN (addL p.ns q.ns) c + dotI (addL p.zs q.zs) d = (p.k + dotN p.ns c + dotI p.zs d) + (q.k + dotN q.ns c + dotI q.zs d)
  rw [dotN_add, dotI_add, add4 (p.k + dotN p.ns c), add4 p.k]
theorem P.ev_mul (c : List Nat) (d : List Int) (k : Int) (p : P) : (p.mul k).ev c d = k * p.ev c d := by
  show k * p.k + dotN (mulL k p.ns) c + dotI (mulL k p.zs) d = k * (p.k + dotN p.ns c + dotI p.zs d)
  rw [dotN_mul, dotI_mul, Int.mul_add, Int.mul_add]
def T.p : T → P
  | .n k => ⟨Int.ofNat k, [], []⟩
  | .v i => ⟨0, unit i, []⟩
  | .a x y => x.p.add y.p
  | .m k x => x.p.mul (Int.ofNat k)
def Z.p : Z → P
  | .i k => ⟨k, [], []⟩
  | .c t => t.p
  | .v j => ⟨0, [], unit j⟩
  | .a x y => x.p.add y.p
  | .d x y => x.p.add (y.p.mul (Int.negSucc 0))
  | .g x => x.p.mul (Int.negSucc 0)
  | .m k x => x.p.mul k
theorem T.ev (c : List Nat) (d : List Int) : ∀ t : T, t.p.ev c d = (t.den c : Int)
  | .n k => by show Int.ofNat k + dotN [] c + dotI [] d = k; rw [dotN_nil, dotI_nil, Int.add_zero, Int.add_zero]; rfl
  | .v i => by show 0 + dotN (unit i) c + dotI [] d = _; rw [dotN_unit, dotI_nil, Int.zero_add, Int.add_zero]; rfl
  | .a x y => by show (x.p.add y.p).ev c d = ((x.den c + y.den c : Nat) : Int); rw [P.ev_add, T.ev c d x, T.ev c d y, Int.natCast_add]
  | .m k x => by show (x.p.mul (Int.ofNat k)).ev c d = ((k * x.den c : Nat) : Int); rw [P.ev_mul, T.ev c d x, Int.natCast_mul]; rfl
theorem neg_mul1 (a : Int) : Int.negSucc 0 * a = -a := Int.neg_one_mul a
theorem Z.ev (c : List Nat) (d : List Int) : ∀ t : Z, t.p.ev c d = t.den c d
  | .i k => by show k + dotN [] c + dotI [] d = k; rw [dotN_nil, dotI_nil, Int.add_zero, Int.add_zero]
  | .c t => T.ev c d t
  | .v j => by show 0 + dotN [] c + dotI (unit j) d = _; rw [dotI_unit, dotN_nil, Int.zero_add, Int.zero_add]; rfl
  | .a x y => by show (x.p.add y.p).ev c d = _; rw [P.ev_add, Z.ev c d x, Z.ev c d y]; rfl
  | .d x y => by show (x.p.add (y.p.mul (Int.negSucc 0))).ev c d = _; rw [P.ev_add, P.ev_mul, Z.ev c d x, Z.ev c d y, neg_mul1]; exact Int.sub_eq_add_neg.symm
  | .g x => by show (x.p.mul (Int.negSucc 0)).ev c d = _; rw [P.ev_mul, Z.ev c d x, neg_mul1]; rfl
  | .m k x => by show (x.p.mul k).ev c d = _; rw [P.ev_mul, Z.ev c d x]; rfl
/-- y - x + k -/
def dif (x y : P) (k : Int) : P := (y.add (x.mul (Int.negSucc 0))).add ⟨k, [], []⟩
theorem dif_ev (c : List Nat) (d : List Int) (x y : P) (k : Int) : (dif x y k).ev c d = y.ev c d - x.ev c d + k := by
  show ((y.add (x.mul (Int.negSucc 0))).add ⟨k, [], []⟩).ev c d = _
  rw [P.ev_add, P.ev_add, P.ev_mul, neg_mul1]
  show _ + _ + (k + dotN [] c + dotI [] d) = _
  rw [dotN_nil, dotI_nil, Int.add_zero, Int.add_zero, Int.sub_eq_add_neg]
/-- the constraint that a fact gives: at least 0, or 0 -/
def F.con : F → Option (Bool × P)
  | .nlt x y => some (false, dif x.p y.p (Int.negSucc 0))
  | .nle x y => some (false, dif x.p y.p 0)
  | .neq x y => some (true, dif x.p y.p 0)
  | .nnlt x y => some (false, dif y.p x.p 0)
  | .nnle x y => some (false, dif y.p x.p (Int.negSucc 0))
  | .nne _ _ => none
  | .zlt x y => some (false, dif x.p y.p (Int.negSucc 0))
  | .zle x y => some (false, dif x.p y.p 0)
  | .zeq x y => some (true, dif x.p y.p 0)
  | .znlt x y => some (false, dif y.p x.p 0)
  | .znle x y => some (false, dif y.p x.p (Int.negSucc 0))
  | .zne _ _ => none
  | .sub _ _ _ => none
noncomputable def Good (c : List Nat) (d : List Int) (e : Bool) (p : P) : Prop := 0 ≤ p.ev c d ∧ (e = true → p.ev c d = 0)
theorem good_lt {c : List Nat} {d : List Int} {x y : P} {a b : Int} (hx : x.ev c d = a) (hy : y.ev c d = b) (h : a < b) : Good c d false (dif x y (Int.negSucc 0)) := by
  refine ⟨?_, fun h => nomatch h⟩
  rw [dif_ev, hx, hy]
  exact Int.le_sub_right_of_add_le (by rw [Int.zero_add]; exact Int.le_sub_left_of_add_le h)
theorem good_le {c : List Nat} {d : List Int} {x y : P} {a b : Int} (hx : x.ev c d = a) (hy : y.ev c d = b) (h : a ≤ b) : Good c d false (dif x y 0) := by
  refine ⟨?_, fun h => nomatch h⟩
  rw [dif_ev, hx, hy, Int.add_zero]
  exact Int.sub_nonneg_of_le h
theorem good_eq {c : List Nat} {d : List Int} {x y : P} {a b : Int} (hx : x.ev c d = a) (hy : y.ev c d = b) (h : a = b) : Good c d true (dif x y 0) := by
  have e : (dif x y 0).ev c d = 0 := by rw [dif_ev, hx, hy, h, Int.sub_self]; rfl
  exact ⟨by rw [e]; exact Int.le_refl 0, fun _ => e⟩
theorem F.con_ev (c : List Nat) (d : List Int) : ∀ (f : F) (e : Bool) (p : P), f.con = some (e, p) → f.den c d → Good c d e p
  | .nlt x y, _, _, h, hf => by cases h; exact good_lt (T.ev c d x) (T.ev c d y) (Int.ofNat_lt.mpr hf)
  | .nle x y, _, _, h, hf => by cases h; exact good_le (T.ev c d x) (T.ev c d y) (Int.ofNat_le.mpr hf)
  | .neq x y, _, _, h, hf => by cases h; exact good_eq (T.ev c d x) (T.ev c d y) (congrArg Int.ofNat hf)
  | .nnlt x y, _, _, h, hf => by cases h; exact good_le (T.ev c d y) (T.ev c d x) (Int.ofNat_le.mpr (Nat.le_of_not_lt hf))
  | .nnle x y, _, _, h, hf => by cases h; exact good_lt (T.ev c d y) (T.ev c d x) (Int.ofNat_lt.mpr (Nat.lt_of_not_le hf))
  | .nne _ _, _, _, h, _ => by cases h
  | .zlt x y, _, _, h, hf => by cases h; exact good_lt (Z.ev c d x) (Z.ev c d y) hf
  | .zle x y, _, _, h, hf => by cases h; exact good_le (Z.ev c d x) (Z.ev c d y) hf
  | .zeq x y, _, _, h, hf => by cases h; exact good_eq (Z.ev c d x) (Z.ev c d y) hf
  | .znlt x y, _, _, h, hf => by cases h; exact good_le (Z.ev c d y) (Z.ev c d x) (Int.le_of_not_gt hf)
  | .znle x y, _, _, h, hf => by cases h; exact good_lt (Z.ev c d y) (Z.ev c d x) (Int.lt_of_not_ge hf)
  | .zne _ _, _, _, h, _ => by cases h
  | .sub _ _ _, _, _, h, _ => by cases h
inductive Cert
  | done (ls : List Int)
  | split (i : Nat) (l r : Cert)
def nonneg : Int → Bool
  | .ofNat _ => true
  | .negSucc _ => false
def isZ : Int → Bool
  | .ofNat 0 => true
  | _ => false
def nonpos : Int → Bool
  | .ofNat 0 => true
  | .ofNat (_ + 1) => false
  | .negSucc _ => true
def neg : Int → Bool
  | .ofNat _ => false
  | .negSucc _ => true
/-- the sum of the constraints by their factors -/
def comb : List F → List Int → Option P
  | _, [] => some ⟨0, [], []⟩
  | [], _ :: _ => none
  | f :: fs, l :: ls =>
    match comb fs ls with
    | none => none
    | some q =>
      match isZ l with
      | true => some q
      | false =>
        match f.con with
        | none => none
        | some (e, p) => match (e || nonneg l) with
          | true => some ((p.mul l).add q)
          | false => none
def allB (f : Int → Bool) : List Int → Bool
  | [] => true
  | x :: l => f x && allB f l
def goodP (p : P) : Bool := neg p.k && (allB nonpos p.ns && allB isZ p.zs)
def nthF : List F → Nat → Option F
  | [], _ => none
  | f :: _, 0 => some f
  | _ :: l, i + 1 => nthF l i
def stepF (l r : List F → Bool) (fs : List F) : F → Bool
  | .nne x y => l (.nlt x y :: fs) && r (.nlt y x :: fs)
  | .zne x y => l (.zlt x y :: fs) && r (.zlt y x :: fs)
  | .sub x y t => l (.nle x y :: .neq t (.n 0) :: fs) && r (.neq x (.a y t) :: fs)
  | _ => false
def check : Cert → List F → Bool
  | .done ls, fs => match comb fs ls with
    | some p => goodP p
    | none => false
  | .split i l r, fs => match nthF fs i with
    | some f => stepF (check l) (check r) fs f
    | none => false
noncomputable def AllF (c : List Nat) (d : List Int) : List F → Prop
  | [] => True
  | f :: fs => f.den c d ∧ AllF c d fs
theorem AllF.nth {c : List Nat} {d : List Int} {f : F} (fs : List F) : ∀ (i : Nat), AllF c d fs → nthF fs i = some f → f.den c d := by
  induction fs with
  | nil => intro i _ e; cases i <;> cases e
  | cons g fs ih =>
    intro i h e
    cases i with
    | zero => cases e; exact h.1
    | succ i => exact ih i h.2 e
theorem comb_step {c : List Nat} {d : List Int} {e : Bool} {l : Int} {p q : P} (hg : Good c d e p) (hn : (e || nonneg l) = true) (hq : 0 ≤ q.ev c d) : 0 ≤ ((p.mul l).add q).ev c d := by
  rw [P.ev_add, P.ev_mul]
  refine Int.add_nonneg ?_ hq
  cases e with
  | true => rw [hg.2 rfl, Int.mul_zero]; exact Int.le_refl 0
  | false =>
    refine Int.mul_nonneg ?_ hg.1
    cases l with
    | ofNat k => exact Int.natCast_nonneg k
    | negSucc k => cases hn
theorem nil_ev (c : List Nat) (d : List Int) : (0 : Int) ≤ (⟨0, [], []⟩ : P).ev c d := by
  show (0 : Int) ≤ 0 + dotN [] c + dotI [] d
  rw [dotN_nil, dotI_nil]; decide
theorem comb_ev {c : List Nat} {d : List Int} (fs : List F) : ∀ (ls : List Int) (p : P), AllF c d fs → comb fs ls = some p → 0 ≤ p.ev c d := by
  induction fs with
  | nil => intro ls p _ e; cases ls with
    | nil => cases e; exact nil_ev c d
    | cons l ls => cases e
  | cons f fs ih =>
    intro ls p h e
    cases ls with
    | nil => cases e; exact nil_ev c d
    | cons l ls =>
      change (match comb fs ls with | none => none | some q => _) = some p at e
      cases hq : comb fs ls with
      | none => rw [hq] at e; cases e
      | some q =>
        rw [hq] at e
        have ih := ih ls q h.2 hq
        change (match isZ l with | true => some q | false => _) = some p at e
        cases hz : isZ l with
        | true => rw [hz] at e; cases e; exact ih
        | false =>
          rw [hz] at e
          change (match f.con with | none => none | some (e, p) => _) = some p at e
          cases hc : f.con with
          | none => rw [hc] at e; cases e
          | some ep =>
            obtain ⟨ee, p'⟩ := ep
            rw [hc] at e
            change (match (ee || nonneg l) with | true => some ((p'.mul l).add q) | false => none) = some p at e
            cases hn : (ee || nonneg l) with
            | false => rw [hn] at e; cases e
            | true => rw [hn] at e; cases e; exact comb_step (F.con_ev c d f ee p' hc h.1) hn ih
theorem allB_nonpos (a : List Int) : ∀ (c : List Nat), allB nonpos a = true → dotN a c ≤ 0 := by
  induction a with
  | nil => intro c _; rw [dotN_nil]; exact Int.le_refl 0
  | cons x a ih =>
    intro c h
    cases c with
    | nil => exact Int.le_refl 0
    | cons z c =>
      have h := Bool.and_eq_true_iff.mp h
      have hx : x ≤ 0 := by
        cases x with
        | ofNat k => cases k with
          | zero => exact Int.le_refl 0
          | succ k => cases h.1
        | negSucc k => exact Int.le_of_lt (Int.negSucc_lt_zero k)
      exact Int.add_le_add (Int.mul_nonpos_of_nonpos_of_nonneg hx (Int.natCast_nonneg z)) (ih c h.2)
theorem allB_zero (a : List Int) : ∀ (c : List Int), allB isZ a = true → dotI a c = 0 := by
  induction a with
  | nil => intro c _; exact dotI_nil c
  | cons x a ih =>
    intro c h
    cases c with
    | nil => rfl
    | cons z c =>
      have h := Bool.and_eq_true_iff.mp h
      have hx : x = 0 := by
        cases x with
        | ofNat k => cases k with
          | zero => rfl
          | succ k => cases h.1
        | negSucc k => cases h.1
      show x * z + dotI a c = 0
      rw [ih c h.2, hx, Int.zero_mul]; rfl
theorem goodP_ev {c : List Nat} {d : List Int} {p : P} (h : goodP p = true) : p.ev c d < 0 := by
  have h := Bool.and_eq_true_iff.mp h
  have h2 := Bool.and_eq_true_iff.mp h.2
  have k : p.k < 0 := by
    cases hk : p.k with
    | ofNat k => rw [hk] at h; cases h.1
    | negSucc k => exact Int.negSucc_lt_zero k
  show p.k + dotN p.ns c + dotI p.zs d < 0
  rw [allB_zero p.zs d h2.2, Int.add_zero]
  exact Int.lt_of_le_of_lt (Int.add_le_add_left (allB_nonpos p.ns c h2.1) p.k) (by rw [Int.add_zero]; exact k)
theorem stepF_sound {c : List Nat} {d : List Int} {l r : List F → Bool} {fs : List F} (hl : ∀ fs, l fs = true → AllF c d fs → False) (hr : ∀ fs, r fs = true → AllF c d fs → False) (f : F) (hf : f.den c d) (hfs : AllF c d fs) (h : stepF l r fs f = true) : False := by
  cases f
  case nne x y =>
    have h := Bool.and_eq_true_iff.mp h
    exact (Nat.lt_or_gt_of_ne hf).elim (fun q => hl _ h.1 ⟨q, hfs⟩) fun q => hr _ h.2 ⟨q, hfs⟩
  case zne x y =>
    have h := Bool.and_eq_true_iff.mp h
    exact (Int.lt_or_gt_of_ne hf).elim (fun q => hl _ h.1 ⟨q, hfs⟩) fun q => hr _ h.2 ⟨q, hfs⟩
  case sub x y t =>
    have h := Bool.and_eq_true_iff.mp h
    have hf : x.den c - y.den c = t.den c := hf
    exact (Nat.le_total (x.den c) (y.den c)).elim (fun q => hl _ h.1 ⟨q, hf.symm.trans (Nat.sub_eq_zero_of_le q), hfs⟩)
      fun q => hr _ h.2 ⟨(Nat.add_sub_of_le q).symm.trans (congrArg (y.den c + ·) hf), hfs⟩
  all_goals exact absurd h Bool.false_ne_true
theorem check_sound {c : List Nat} {d : List Int} (t : Cert) : ∀ (fs : List F), check t fs = true → AllF c d fs → False := by
  induction t with
  | done ls =>
    intro fs h hf
    change (match comb fs ls with | some p => goodP p | none => false) = true at h
    cases hc : comb fs ls with
    | none => rw [hc] at h; cases h
    | some p => rw [hc] at h; exact absurd (comb_ev fs ls p hf hc) (Int.not_le.mpr (goodP_ev h))
  | split i l r ihl ihr =>
    intro fs h hf
    change (match nthF fs i with | some f => stepF (check l) (check r) fs f | none => false) = true at h
    cases hn : nthF fs i with
    | none => rw [hn] at h; cases h
    | some f => rw [hn] at h; exact stepF_sound ihl ihr f (AllF.nth fs i hf hn) hf h
noncomputable def imp (c : List Nat) (d : List Int) : List F → Prop
  | [] => False
  | f :: fs => f.den c d → imp c d fs
theorem imp_of {c : List Nat} {d : List Int} : ∀ (fs : List F), (AllF c d fs → False) → imp c d fs
  | [], h => h trivial
  | f :: fs, h => fun hf => imp_of fs fun q => h ⟨hf, q⟩
theorem ndm (x k : Nat) (h : Nat.blt 0 k = true) : k * (x / k) + x % k = x ∧ x % k < k := ⟨Nat.div_add_mod x k, Nat.mod_lt x (Nat.blt_eq.mp h)⟩
theorem zdm (x k : Int) (h : decide (0 < k) = true) : k * (x / k) + x % k = x ∧ 0 ≤ x % k ∧ x % k < k :=
  ⟨Int.mul_ediv_add_emod x k, Int.emod_nonneg x (Int.ne_of_gt (of_decide_eq_true h)), Int.emod_lt_of_pos x (of_decide_eq_true h)⟩
theorem nmin (x y : Nat) : (x ≤ y ∧ min x y = x) ∨ (y ≤ x ∧ min x y = y) := (Nat.le_total x y).imp (fun h => ⟨h, Nat.min_eq_left h⟩) fun h => ⟨h, Nat.min_eq_right h⟩
theorem nne (α : Type) (a b : α) (h : ¬a ≠ b) : a = b := Classical.not_not.mp h
theorem nor1 (a b : Prop) (h : ¬(a ∨ b)) : ¬a := fun x => h (.inl x)
theorem nor2 (a b : Prop) (h : ¬(a ∨ b)) : ¬b := fun x => h (.inr x)
theorem zpow (x : Int) (n : Nat) (h : decide (0 < x) = true) : 0 < x ^ n := Int.pow_pos (of_decide_eq_true h)
theorem nand (a b : Prop) (h : ¬(a ∧ b)) : ¬a ∨ ¬b := (Classical.em a).elim (fun x => .inr fun y => h ⟨x, y⟩) .inl
theorem tnat (x : Int) : (0 ≤ x ∧ (x.toNat : Int) = x) ∨ (x < 0 ∧ (x.toNat : Int) = 0) :=
  (Int.lt_or_le x 0).elim (fun h => .inr ⟨h, by rw [Int.toNat_of_nonpos (Int.le_of_lt h)]; rfl⟩) fun h => .inl ⟨h, Int.toNat_of_nonneg h⟩
/-- no such numbers -/
theorem no (c : List Nat) (d : List Int) (fs : List F) (t : Cert) (h : check t fs = true) : imp c d fs := imp_of fs (check_sound t fs h)
end Mine.Li
end

section
set_option linter.unusedVariables false
set_option autoImplicit false
namespace Mine.Li
open Lean Meta Elab Tactic
-- plain functions over lists, each compiled once
def ag (e : Expr) (i : Nat) : Expr := e.getArgD i e
def lm {α β : Type} (f : α → β) : List α → List β
  | [] => []
  | x :: l => f x :: lm f l
def lf {α : Type} (f : α → Bool) : List α → List α
  | [] => []
  | x :: l => bif f x then x :: lf f l else lf f l
def lo {α β : Type} (f : β → α → β) : β → List α → β
  | b, [] => b
  | b, x :: l => lo f (f b x) l
def la {α : Type} (f : α → Bool) (l : List α) : Bool := lo (fun b x => bif b then b else f x) false l
def lx {α : Type} (f : α → Bool) : List α → Nat → Option Nat
  | [], _ => none
  | x :: l, i => bif f x then some i else lx f l (i + 1)
def lz {α : Type} : List α → Nat → List (Nat × α)
  | [], _ => []
  | x :: l, i => (i, x) :: lz l (i + 1)
def ld {α : Type} (i : Nat) (l : List α) : List α := lm (·.2) (lf (fun p => p.1 != i) (lz l 0))
def lr (n : Nat) : List Nat := lm (·.1) (lz (List.replicate n ()) 0)
def has (l : List Nat) (i : Nat) : Bool := la (· == i) l
def ins (l : List Nat) (i : Nat) : List Nat := bif has l i then l else i :: l
structure RSt where
  ns : List Expr := []
  zs : List Expr := []
  subs : List Expr := []
abbrev RM := StateRefT RSt MetaM
def each {α β : Type} (f : α → RM β) : List α → RM (List β)
  | [] => return []
  | x :: l => do
    let y ← f x
    return y :: (← each f l)
def ixOf (e : Expr) (l : List Expr) : Option Nat := lx (· == e) l 0
def atomN (e : Expr) : RM T := do
  let s ← get
  match ixOf e s.ns with
  | some i => return .v i
  | none =>
    set { s with ns := s.ns ++ [e] }
    return .v s.ns.length
def atomZ (e : Expr) : RM Z := do
  let s ← get
  match ixOf e s.zs with
  | some i => return .v i
  | none =>
    set { s with zs := s.zs ++ [e] }
    return .v s.zs.length
def litN? (e : Expr) : Option Nat := match e with
  | .lit (.natVal k) => some k
  | _ => match e.nat? with
    | some k => some k
    | none => if e.isConstOf ``Nat.zero then some 0 else none
def powN? (e : Expr) : Option Nat :=
  if e.isAppOfArity ``HPow.hPow 6 then
    match litN? (ag e 4), litN? (ag e 5) with
    | some a, some b => if b < 200 then some (a ^ b) else none
    | _, _ => none
  else none
def isOp (n : Name) (e : Expr) : Bool := e.isAppOfArity n 6
def reN : Nat → Expr → RM T
  | 0, e => atomN e
  | k + 1, e0 => do
    let e := e0.consumeMData
    match (match litN? e with | some n => some n | none => powN? e) with
    | some n => return .n n
    | none =>
      let x := ag e 4
      let y := ag e 5
      if isOp ``HAdd.hAdd e then return .a (← reN k x) (← reN k y)
      if e.isAppOfArity ``Nat.succ 1 then return .a (← reN k e.appArg!) (.n 1)
      if isOp ``HMul.hMul e then
        if let some n := litN? x then return .m n (← reN k y)
      if isOp ``HSub.hSub e && (ixOf e (← get).subs).isNone then
        modify fun s => { s with subs := s.subs ++ [e] }
        let _ ← each (reN k) [x, y]
      atomN e
def reZ : Nat → Expr → RM Z
  | 0, e => atomZ e
  | k + 1, e0 => do
    let e := e0.consumeMData
    let x := ag e 4
    let y := ag e 5
    match e.int? with
    | some n => if n ≥ 0 then return .i n
    | none => pure ()
    if isOp ``HPow.hPow e then
      match x.int?, litN? y with
      | some n, some m => if m < 200 then return .i (n ^ m)
      | _, _ => pure ()
    if isOp ``HAdd.hAdd e then return .a (← reZ k x) (← reZ k y)
    if isOp ``HSub.hSub e then return .d (← reZ k x) (← reZ k y)
    if e.isAppOfArity ``Neg.neg 3 then return .g (← reZ k (ag e 2))
    if isOp ``HMul.hMul e then
      match x.int? with
      | some n => if n ≥ 0 then return .m n (← reZ k y)
      | none => pure ()
    if (e.isAppOfArity ``Nat.cast 3 && (ag e 0).isConstOf ``Int) || e.isAppOfArity ``Int.ofNat 1 then return .c (← reN k e.appArg!)
    atomZ e
/-- false: nat, true: int -/
def kind (α : Expr) : MetaM (Option Bool) := do
  if α.isConstOf ``Nat then return some false
  if α.isConstOf ``Int then return some true
  let β ← whnfR α
  return if β.isConstOf ``Nat then some false else if β.isConstOf ``Int then some true else none
/-- 0: less, 1: at most, 2: same; 3, 4, 5: not so -/
def mkN (op : Nat) (x y : T) : F := match op with
  | 0 => .nlt x y | 1 => .nle x y | 2 => .neq x y | 3 => .nnlt x y | 4 => .nnle x y | _ => .nne x y
def mkZ (op : Nat) (x y : Z) : F := match op with
  | 0 => .zlt x y | 1 => .zle x y | 2 => .zeq x y | 3 => .znlt x y | 4 => .znle x y | _ => .zne x y
def rels : List (Name × Nat × Nat × Nat × Nat) :=
  [(``LT.lt, 4, 0, 2, 3), (``LE.le, 4, 1, 2, 3), (``GT.gt, 4, 0, 3, 2), (``GE.ge, 4, 1, 3, 2), (``Eq, 3, 2, 1, 2), (``Ne, 3, 5, 1, 2)]
def factOf (p0 : Expr) : RM (Option F) := do
  let p1 := p0.consumeMData
  let neg := p1.isAppOfArity ``Not 1
  let p := if neg then p1.appArg!.consumeMData else p1
  match lf (fun r => p.isAppOfArity r.1 r.2.1) rels with
  | [] => return none
  | (_, _, op, i, j) :: _ =>
    if neg && op == 5 then return none
    let op := if neg then op + 3 else op
    match ← kind (ag p 0) with
    | some false => return some (mkN op (← reN 200 (ag p i)) (← reN 200 (ag p j)))
    | some true => return some (mkZ op (← reZ 200 (ag p i)) (← reZ 200 (ag p j)))
    | none => return none
def heads : List Name := [``LT.lt, ``LE.le, ``GT.gt, ``GE.ge, ``Eq, ``Ne, ``Not, ``And, ``Or]
def relevantHead (p : Expr) : Bool := match p.getAppFn with
  | .const n _ => la (· == n) heads
  | _ => false
abbrev Hyp := Expr × Expr
def notOf (q : Expr) (n : Name) : Option (Expr × Expr) :=
  if q.isAppOfArity ``Not 1 && q.appArg!.consumeMData.isAppOfArity n 2 then
    let r := q.appArg!.consumeMData
    some (ag r 0, ag r 1)
  else none
/-- the facts of a proof, taken apart at its ands; the last first -/
def partsOf : Nat → Expr → Expr → List Hyp → List Hyp
  | 0, _, _, acc => acc
  | k + 1, p, h, acc =>
    let p := p.consumeMData
    if p.isAppOfArity ``And 2 then
      let a := ag p 0
      let b := ag p 1
      partsOf k b (mkApp3 (mkConst ``And.right) a b h) (partsOf k a (mkApp3 (mkConst ``And.left) a b h) acc)
    else match notOf p ``Or with
      | some (a, b) =>
        partsOf k (mkApp (mkConst ``Not) b) (mkApp3 (mkConst ``nor2) a b h) (partsOf k (mkApp (mkConst ``Not) a) (mkApp3 (mkConst ``nor1) a b h) acc)
      | none =>
        let q := (if p.isAppOfArity ``Not 1 then p.appArg! else p).consumeMData
        if p.isAppOfArity ``Not 1 && q.isAppOfArity ``Ne 3 && q.getAppFn.constLevels! == [1] then
          (mkApp3 (mkConst ``Eq [1]) (ag q 0) (ag q 1) (ag q 2), mkApp4 (mkConst ``nne) (ag q 0) (ag q 1) (ag q 2) h) :: acc
        else if relevantHead p then (p, h) :: acc else acc
structure Row where
  co : List Int
  k : Int
  eq : Bool
  lam : List Int
def at0 (a : List Int) (i : Nat) : Int := a.getD i 0
def add2 (x y : Int) : List Int → List Int → List Int
  | [], b => lm (y * ·) b
  | a, [] => lm (x * ·) a
  | a :: l, b :: m => (x * a + y * b) :: add2 x y l m
def combR (x : Int) (p : Row) (y : Int) (q : Row) (eq : Bool) : Row :=
  ⟨add2 x y p.co q.co, x * p.k + y * q.k, eq, add2 x y p.lam q.lam⟩
def gcdL (g : Nat) (l : List Int) : Nat := lo (fun g x => Nat.gcd g x.natAbs) g l
def gcdRow (r : Row) : Row :=
  let g := gcdL (gcdL r.k.natAbs r.co) r.lam
  if g ≤ 1 then r else ⟨lm (· / (g : Int)) r.co, r.k / (g : Int), r.eq, lm (· / (g : Int)) r.lam⟩
def flat (r : Row) : Bool := !la (· != 0) r.co
/-- a row that cannot be, by its factors -/
def contra : List Row → Option (List Int)
  | [] => none
  | r :: l => if flat r && (r.k < 0 || (r.eq && r.k > 0)) then some (if r.k < 0 then r.lam else lm (- ·) r.lam) else contra l
/-- an equation and what it is solved for -/
def pick (f : Int → Bool) : List Row → Nat → Option (Nat × Nat)
  | [], _ => none
  | r :: l, i => if r.eq then
      match lx f r.co 0 with
      | some v => some (i, v)
      | none => pick f l (i + 1)
    else pick f l (i + 1)
def row0 : Row := ⟨[], 0, false, []⟩
def elimE : Nat → List Row → List Row
  | 0, rows => rows
  | n + 1, rows =>
    match (match pick (fun x => x.natAbs == 1) rows 0 with | some p => some p | none => pick (· != 0) rows 0) with
    | none => rows
    | some (i, v) =>
      let p := rows.getD i row0
      let a := at0 p.co v
      let s : Int := if a > 0 then 1 else -1
      elimE n (lm (fun q => let c := at0 q.co v; if c == 0 then q else gcdRow (combR a.natAbs q (-(s * c)) p q.eq)) (ld i rows))
def keepL : List Row → List Row → List Row
  | [], acc => acc
  | r :: l, acc => keepL l (if flat r then acc else
      match lx (fun q : Row => q.co == r.co) acc 0 with
      | some i => if r.k < (acc.getD i row0).k then r :: ld i acc else acc
      | none => r :: acc)
def cost (rows : List Row) (v : Nat) : Nat × Nat :=
  lo (fun n r => let c := at0 r.co v; if c > 0 then (n.1 + 1, n.2) else if c < 0 then (n.1, n.2 + 1) else n) (0, 0) rows
def best (rows : List Row) (nv : Nat) : Option (Nat × Nat) :=
  lo (fun b v => let c := cost rows v; if c.1 + c.2 == 0 then b else match b with
    | none => some (v, c.1 * c.2)
    | some (_, d) => if c.1 * c.2 < d then some (v, c.1 * c.2) else b) none (lr nv)
def elimI (nv : Nat) : Nat → List Row → Option (List Int)
  | 0, _ => none
  | n + 1, rows =>
    match contra rows with
    | some l => some l
    | none =>
      let rows := keepL rows []
      if rows.isEmpty || rows.length > 300 then none else
      match best rows nv with
      | none => none
      | some (v, _) =>
        let neg := lf (fun r => at0 r.co v < 0) rows
        elimI nv n (lo (fun out p => if at0 p.co v > 0 then lo (fun out q => gcdRow (combR (-(at0 q.co v)) p (at0 p.co v) q false) :: out) out neg else out)
          (lf (fun r => at0 r.co v == 0) rows) rows)
inductive Tree
  | leaf (ls : List (Nat × Int))     -- id, factor
  | node (id : Nat) (l r : Tree) (a b : List Nat)   -- ids of the facts of the branches
def pad (l : List Int) (n : Nat) : List Int := lm (at0 l) (lr n)
def unitL (n i : Nat) : List Int := lm (fun j => if j == i then 1 else 0) (lr n)
abbrev Facts := List (Nat × F)
def tryFm (fs : Facts) (nn nz : Nat) : Option Tree :=
  let cs := lo (fun out (p : Nat × F) => match p.2.con with | some (e, q) => (p.1, e, q) :: out | none => out) [] fs
  let n := cs.length
  let rows := lm (fun (p : Nat × Nat × Bool × P) => (⟨pad p.2.2.2.ns nn ++ pad p.2.2.2.zs nz, p.2.2.2.k, p.2.2.1, unitL n p.1⟩ : Row)) (lz cs 0)
  let pos := lm (fun i => (⟨unitL (nn + nz) i, 0, false, []⟩ : Row)) (lf (fun i => la (fun r : Row => at0 r.co i != 0) rows) (lr nn))
  match elimI (nn + nz) (nn + nz + 1) (elimE rows.length (rows ++ pos)) with
  | none => none
  | some lam =>
    let g : Int := max 1 (gcdL 0 lam)
    some (.leaf (lf (fun p => p.2 != 0) (lm (fun (p : Nat × Nat × Bool × P) => (p.2.1, at0 lam p.1 / g)) (lz cs 0))))
def splitOf (f : F) : Option (List F × List F) := match f with
  | .nne x y => some ([.nlt x y], [.nlt y x])
  | .zne x y => some ([.zlt x y], [.zlt y x])
  | .sub x y t => some ([.nle x y, .neq t (.n 0)], [.neq x (.a y t)])
  | _ => none
def firstJ {α β : Type} (f : α → Option β) : List α → Option β
  | [] => none
  | x :: l => match f x with
    | some y => some y
    | none => firstJ f l
/-- first without a split, then with at most d splits; must: facts that are split first -/
def search (nn nz : Nat) : Nat → Nat → List Nat → Facts → Option Tree
  | 0, _, _, _ => none
  | k + 1, next, must, fs =>
    match tryFm fs nn nz with
    | some t => some t
    | none =>
      if k == 0 then none else
      let cand := match must with
        | m :: _ => lf (fun p => p.1 == m) fs
        | [] => (lf (fun (p : Nat × F) => (splitOf p.2).isSome) fs).take 4
      firstJ (fun (p : Nat × F) => match splitOf p.2 with
        | none => none
        | some (a, b) =>
          let rest := lf (fun q => q.1 != p.1) fs
          let a := lz a next
          let b := lz b next
          match search nn nz k (next + 10) (must.drop 1) (a ++ rest) with
          | none => none
          | some l => match search nn nz k (next + 10) (must.drop 1) (b ++ rest) with
            | none => none
            | some r => some (.node p.1 l r (lm (·.1) a) (lm (·.1) b))) cand
def Tree.used : Tree → List Nat → List Nat
  | .leaf ls, acc => lo (fun acc p => ins acc p.1) acc ls
  | .node id l r _ _, acc => r.used (l.used (ins acc id))
def dropZ : List Int → List Int
  | [] => []
  | x :: l => match dropZ l with
    | [] => if x == 0 then [] else [x]
    | m => x :: m
def Tree.cert : Tree → List Nat → Cert
  | .leaf ls, ids => .done (dropZ (lm (fun i => lo (fun (d : Int) (p : Nat × Int) => if p.1 == i then p.2 else d) 0 ls) ids))
  | .node id l r a b, ids => .split ((lx (· == id) ids 0).getD 0) (l.cert (a ++ ids)) (r.cert (b ++ ids))
def ap1 (n : Name) (x : Expr) : Expr := mkApp (mkConst n) x
def ap2 (n : Name) (x y : Expr) : Expr := mkApp2 (mkConst n) x y
def natE (k : Nat) : Expr := .lit (.natVal k)
def intE (k : Int) : Expr := match k with
  | .ofNat n => ap1 ``Int.ofNat (natE n)
  | .negSucc n => ap1 ``Int.negSucc (natE n)
def T.e : T → Expr
  | .n k => ap1 ``T.n (natE k)
  | .v i => ap1 ``T.v (natE i)
  | .a x y => ap2 ``T.a x.e y.e
  | .m k x => ap2 ``T.m (natE k) x.e
def Z.e : Z → Expr
  | .i k => ap1 ``Z.i (intE k)
  | .c t => ap1 ``Z.c t.e
  | .v j => ap1 ``Z.v (natE j)
  | .a x y => ap2 ``Z.a x.e y.e
  | .d x y => ap2 ``Z.d x.e y.e
  | .g x => ap1 ``Z.g x.e
  | .m k x => ap2 ``Z.m (intE k) x.e
def tt (n : Name) (x y : T) : Expr := ap2 n x.e y.e
def zz (n : Name) (x y : Z) : Expr := ap2 n x.e y.e
def F.e : F → Expr
  | .nlt x y => tt ``F.nlt x y
  | .nle x y => tt ``F.nle x y
  | .neq x y => tt ``F.neq x y
  | .nnlt x y => tt ``F.nnlt x y
  | .nnle x y => tt ``F.nnle x y
  | .nne x y => tt ``F.nne x y
  | .zlt x y => zz ``F.zlt x y
  | .zle x y => zz ``F.zle x y
  | .zeq x y => zz ``F.zeq x y
  | .znlt x y => zz ``F.znlt x y
  | .znle x y => zz ``F.znle x y
  | .zne x y => zz ``F.zne x y
  | .sub x y t => mkApp (tt ``F.sub x y) t.e
def listE (α : Expr) (l : List Expr) : Expr := match l with
  | [] => mkApp (mkConst ``List.nil [0]) α
  | x :: l => mkApp3 (mkConst ``List.cons [0]) α x (listE α l)
def Cert.e : Cert → Expr
  | .done ls => ap1 ``Cert.done (listE (mkConst ``Int) (lm intE ls))
  | .split i l r => mkApp3 (mkConst ``Cert.split) (natE i) l.e r.e
def nz (l : List Int) (k : Nat) : List Nat := lm (·.1) (lf (fun p => p.2 != 0) (lz l k))
def atomsP (p : P) : List Nat := nz p.ns 0 ++ nz p.zs 1000000
def atomsT (x y : T) : List Nat := atomsP x.p ++ atomsP y.p
def atomsZ (x y : Z) : List Nat := atomsP x.p ++ atomsP y.p
/-- the numbers of the atoms; those of the integers from 1000000 on -/
def F.atoms (f : F) : List Nat := match f with
  | .nlt x y | .nle x y | .neq x y | .nnlt x y | .nnle x y | .nne x y => atomsT x y
  | .zlt x y | .zle x y | .zeq x y | .znlt x y | .znle x y | .zne x y => atomsZ x y
  | .sub x y w => atomsT x y ++ atomsP w.p
def subF (e : Expr) : RM F := do
  let t ← atomN e
  return .sub (← reN 200 (ag e 4)) (← reN 200 (ag e 5)) t
def more (p h : Expr) : Hyp := (p, h)
def okB : Expr := mkApp2 (mkConst ``Eq.refl [1]) (mkConst ``Bool) (mkConst ``Bool.true)
/-- facts about an atom: powers, parts of a division, places -/
def extra (e : Expr) : MetaM (List Hyp) := do
  let x := ag e 4
  let y := ag e 5
  let fact (h : Expr) : MetaM (List Hyp) := return partsOf 5 (← inferType h).headBeta h []
  if isOp ``HPow.hPow e then
    match x.int? with
    | some b => if b > 0 && (ag e 1).isConstOf ``Nat then return ← fact (mkApp3 (mkConst ``zpow) x y okB) else return []
    | none => return []
  if isOp ``HDiv.hDiv e || isOp ``HMod.hMod e then
    match (ag e 0).isConstOf ``Int, y.int?, litN? y with
    | true, some n, _ => if n > 0 then return ← fact (mkApp3 (mkConst ``zdm) x y okB) else return []
    | false, _, some n => if n > 0 then return ← fact (mkApp3 (mkConst ``ndm) x y okB) else return []
    | _, _, _ => return []
  if e.isAppOfArity ``Min.min 4 && (ag e 0).isConstOf ``Nat then return ← fact (mkApp2 (mkConst ``nmin) (ag e 2) (ag e 3))
  if e.isAppOfArity ``Int.toNat 1 then return ← fact (mkApp (mkConst ``tnat) e.appArg!)
  return []
def isNe (f : F) : Bool := match f with | .nne .. | .zne .. => true | _ => false
def isSub (f : F) : Bool := match f with | .sub .. => true | _ => false
def subsAll : Nat → Nat → Nat → RM Facts
  | 0, _, _ => return []
  | n + 1, i, j => do
    match (← get).subs[j]? with
    | none => return []
    | some e =>
      let f ← subF e
      return (i + j, f) :: (← subsAll n i (j + 1))
abbrev Far := List (Nat × F × List Nat)
def un (l : Far) : Facts := lm (fun p => (p.1, p.2.1)) l
def level (fs : Far) (ng : Nat) : Nat → List Nat → List Facts → List Facts
  | 0, _, acc => acc
  | n + 1, at', acc =>
    let sel := lf (fun p => p.1 < ng || p.2.2.isEmpty || la (has at') p.2.2) fs
    let near := lf (fun p => !la (fun i => !has at' i) p.2.2) sel
    level fs ng n (lo (fun l p => lo ins l p.2.2) at' sel) (acc ++ [un near, un sel])
def ids (l : Facts) : List Nat := lm (·.1) l
def seek (nn nz extra : Nat) (first : List Nat) : Nat → List Facts → Option Tree
  | _, [] => none
  | last, sel :: l =>
    if sel.length > last && sel.length < 90 then
      let subs := ids (lf (fun p => isSub p.2) sel)
      match (if subs.length ≤ 4 then search nn nz (extra + first.length + subs.length) 1000 (first ++ subs) sel else none) with
      | some t => some t
      | none => seek nn nz extra first sel.length l
    else seek nn nz extra first last l
/-- does a split tell of numbers -/
def useful : Nat → Expr → RM Bool
  | 0, _ => return true
  | k + 1, p => do
    let l := partsOf 60 p p []
    let r ← each (fun (q : Hyp) => if q.1.isAppOfArity ``Or 2 then do return (← useful k (ag q.1 0)) || (← useful k (ag q.1 1)) else return (← factOf q.1).isSome) l
    return la id r
/-- closes a goal False -/
def closeFalse : Nat → MVarId → Option FVarId → MetaM Unit
  | 0, _, _ => throwError "lin: splits"
  | depth + 1, g, goalFact => g.withContext do
  let mine ← (match goalFact with
    | some h => return (partsOf 60 (← instantiateMVars (← h.getType)) (.fvar h) []).reverse
    | none => return [] : MetaM (List Hyp))
  let ctx ← (lo (fun (acc : MetaM (List Hyp)) d => do
    let l ← acc
    match d with
    | none => return l
    | some (d : LocalDecl) =>
      if d.isImplementationDetail || some d.fvarId == goalFact then return l
      let ty ← instantiateMVars d.type
      return if relevantHead ty then partsOf 60 ty d.toExpr l else l) (pure []) (← getLCtx).decls.toList)
  -- without a goal the newest is the goal
  let ng := if goalFact.isNone then 1 else mine.length
  let hyps := if goalFact.isNone then ctx else mine ++ ctx.reverse
  let (fs0, st0) ← (each (fun (p : Hyp) => factOf p.1) hyps).run {}
  let isOr (p : Hyp) : Bool := p.1.isAppOfArity ``Or 2 || (notOf p.1 ``And).isSome
  if goalFact.isSome && depth == 11 && !la isOr mine && !la Option.isSome (fs0.take ng) then throwError "lin: the goal is no fact"
  let xs ← (lo (fun (acc : MetaM (List Hyp)) e => do return (← acc) ++ (← extra e)) (pure []) (st0.ns ++ st0.zs))
  let xs := lf (fun (p : Hyp) => !la (fun (q : Hyp) => q.1 == p.1) hyps) xs
  let hs := hyps ++ xs
  let (fx, st) ← (do return (← each (fun (p : Hyp) => factOf p.1) xs, ← subsAll 20 hs.length 0) : RM (List (Option F) × Facts)).run st0
  let fs := (lo (fun (out : Facts) p => match p.2 with | some f => (p.1, f) :: out | none => out) [] (lz (fs0 ++ fx.1) 0)).reverse ++ fx.2
  let nn := st.ns.length
  let nz := st.zs.length
  -- facts by distance from the goal
  let fa : Far := lm (fun p => (p.1, p.2, p.2.atoms)) fs
  let goal := lf (fun p => p.1 < ng) fa
  let at' := lo (fun l p => p.2.2 ++ l) [] goal
  let lv := level fa ng 3 at' [] ++ [fs]
  let first := if goalFact.isSome then ids (lf (fun p => isNe p.2) (un goal)) else []
  match (match seek nn nz 1 first 0 lv with | some t => some t | none => match seek nn nz 2 first 0 ((lv.drop 1).take 1) with | some t => some t | none => seek nn nz 2 first 0 ((lv.drop 3).take 1)) with
  | some t =>
    let used := lf (has (t.used [])) (lr (hs.length + st.subs.length))
    let (out, st2) ← (each (fun i => do
      match hs[i]? with
      | some (p, h) =>
        let some f ← factOf p | throwError "lin: fact"
        return (f, h)
      | none =>
        let some e := st.subs[i - hs.length]? | throwError "lin: fact"
        return (← subF e, mkApp2 (mkConst ``Eq.refl [1]) (mkConst ``Nat) e)) used).run {}
    let cert := t.cert used
    let fl := lm (·.1) out
    unless check cert fl do throwError "lin: certificate"
    g.assign (lo (fun f (p : F × Expr) => mkApp f p.2) (mkAppN (mkConst ``no) #[listE (mkConst ``Nat) st2.ns, listE (mkConst ``Int) st2.zs, listE (mkConst ``F) (lm F.e fl), cert.e, okB]) out)
  | none =>
    let ors0 := lo (fun (l : List Hyp) (p : Hyp) => if p.1.isAppOfArity ``Or 2 then l ++ [p] else
      match notOf p.1 ``And with
      | some (a, b) => l ++ [(ap2 ``Or (ap1 ``Not a) (ap1 ``Not b), mkApp3 (mkConst ``nand) a b p.2)]
      | none => l) [] hs
    let known (q : Expr) : Bool := !la (fun (p : Hyp) => !la (fun (r : Hyp) => r.1 == p.1) hs) (partsOf 60 q q [])
    let es := lm (fun i => if i < 1000000 then st.ns.getD i okB else st.zs.getD (i - 1000000) okB) at'
    let near (p : Hyp) : Bool := la (fun (e : Expr) => e.occurs p.1) es
    let ors1 := lf near ors0 ++ lf (fun p => !near p) ors0
    let (us, _) ← (each (fun (p : Hyp) => useful 5 p.1) ors1).run {}
    let ors := lm (·.2) (lf (fun p => us.getD p.1 true && !known (ag p.2.1 0) && !known (ag p.2.1 1)) (lz ors1 0))
    let s ← saveState
    let cand := if ors.length ≤ 5 && hs.length ≤ 60 + 3 * (11 - depth) then ors.take 1 else if depth ≥ 10 then (if goalFact.isSome then lf near ors else ors).take 5 else []
    let side (q h : Expr) : MetaM Expr := do
      let x ← mkFreshExprSyntheticOpaqueMVar (.forallE `h q (mkConst ``False) .default)
      let g ← (if h.isFVar then x.mvarId!.clear h.fvarId! else pure x.mvarId!)
      let (h1, g) ← g.intro `h
      closeFalse depth g (some h1)
      return x
    let go := lo (fun (acc : MetaM Bool) (p : Hyp) => do
      if ← acc then return true
      let a := ag p.1 0
      let b := ag p.1 1
      try
        let x ← side a p.2
        let y ← side b p.2
        g.assign (mkAppN (mkConst ``Or.elim) #[a, b, mkConst ``False, p.2, x, y])
        return true
      catch _ =>
        s.restore
        return false) (pure false) cand
    unless ← go do throwError "lin: no"
def close : Nat → MVarId → MetaM Unit
  | 0, _ => throwError "lin: deep"
  | k + 1, g => g.withContext do
    let t := (← instantiateMVars (← g.getType)).consumeMData
    let intro1 (g : MVarId) : MetaM Unit := do
      let (h, g) ← g.intro `h
      closeFalse 12 g (some h)
    let two (n : Name) (p q : Expr) (f : MVarId → MetaM MVarId) : MetaM Unit := do
      let x ← mkFreshExprSyntheticOpaqueMVar p
      let y ← mkFreshExprSyntheticOpaqueMVar q
      g.assign (mkApp4 (mkConst n) (ag t 0) (ag t 1) x y)
      close k (← f x.mvarId!)
      close k (← f y.mvarId!)
    if t.isConstOf ``False then return ← closeFalse 12 g none
    let a := ag t 0
    let b := ag t 1
    if t.isAppOfArity ``And 2 then return ← two ``And.intro a b pure
    if t.isAppOfArity ``Iff 2 then return ← two ``Iff.intro (.forallE `h a b .default) (.forallE `h b a .default) fun g => return (← g.intro `h).2
    if t.isAppOfArity ``Not 1 || t.isAppOfArity ``Ne 3 then
      let p := if t.isAppOfArity ``Not 1 then t.appArg! else mkApp3 (mkConst ``Eq [1]) a b (ag t 2)
      return ← intro1 (← g.replaceTargetDefEq (.forallE `h p (mkConst ``False) .default))
    unless relevantHead t do throwError "lin: goal"
    let m ← mkFreshExprSyntheticOpaqueMVar (.forallE `h (mkApp (mkConst ``Not) t) (mkConst ``False) .default)
    g.assign (ap2 ``Classical.byContradiction t m)
    intro1 m.mvarId!
def lin : TacticM Unit := do
  let g ← getMainGoal
  g.withContext do
    if (← instantiateMVars (← g.getType)).hasExprMVar then throwError "lin: open"
    close 20 g
    replaceMainGoal []
end Mine.Li
end

section
open Lean Meta
namespace Mine.Sh
structure St where
  lctx : LocalContext
  n : Nat := 0
  seen : Std.HashMap Expr FVarId := {}      -- first scope
  multi : Std.HashMap Expr Nat := {}
  binder : Std.HashMap Expr (FVarId × Expr) := {}
  order : Std.HashMap FVarId Nat := {}
  byNum : Std.HashMap Nat FVarId := {}
  owned : Std.HashMap FVarId (Array (FVarId × Expr × Expr)) := {}   -- lets: var, type, value
  hoisted : Std.HashMap Expr FVarId := {}
  done : Std.HashMap Expr (Nat × Nat) := {}
abbrev M := StateRefT St MetaM
def fresh (nm : Name) (t : Expr) (bi : BinderInfo := .default) : M FVarId := do
  let s ← get
  let id : FVarId := ⟨.num `_sh s.n⟩
  set { s with n := s.n + 1, lctx := s.lctx.mkLocalDecl id nm t bi, order := s.order.insert id s.n, byNum := s.byNum.insert s.n id }
  return id
/-- visits each distinct open term once -/
def visit : Nat → FVarId → Expr → M Unit
  | 0, _, _ => throwError "shrink: too deep"
  | k + 1, z, e => do
    if !e.hasFVar && k + 1 != 1000000 then return
    match (← get).seen[e]? with
    | some z' =>
      if z' != z && e.hasFVar then modify fun s => { s with multi := s.multi.insert e (s.multi.getD e 0 + 1) }
      return
    | none =>
      match e with
      | .app f a => modify (fun s => { s with seen := s.seen.insert e z }); visit k z f; visit k z a
      | .lam n t b bi =>
        modify fun s => { s with seen := s.seen.insert e z }
        visit k z t
        let x ← fresh n t bi
        let b' := b.instantiate1 (.fvar x)
        modify fun s => { s with binder := s.binder.insert e (x, b') }
        visit k x b'
      | .forallE n t b bi =>
        modify fun s => { s with seen := s.seen.insert e z }
        visit k z t
        let x ← fresh n t bi
        let b' := b.instantiate1 (.fvar x)
        modify fun s => { s with binder := s.binder.insert e (x, b') }
        visit k x b'
      | .letE n t v b nd =>
        modify fun s => { s with seen := s.seen.insert e z }
        visit k z t
        visit k z v
        let x ← fresh n t
        modify fun s => { s with lctx := s.lctx.erase x |>.mkLetDecl x n t v nd }
        let b' := b.instantiate1 (.fvar x)
        modify fun s => { s with binder := s.binder.insert e (x, b') }
        visit k x b'
      | .mdata _ b => modify (fun s => { s with seen := s.seen.insert e z }); visit k z b
      | .proj _ _ b => modify (fun s => { s with seen := s.seen.insert e z }); visit k z b
      | _ => return
/-- post-order: decides what is bound by a let; gives own size and the set of the free variables -/
def decide' : Nat → Expr → M (Nat × Nat)
  | 0, _ => throwError "shrink: too deep"
  | k + 1, e => do
    match e with
    | .fvar x => return (0, Nat.shiftLeft 1 ((← get).order.getD x 0))
    | .bvar _ | .sort _ | .const .. | .lit _ | .mvar _ => return (0, 0)
    | _ => do
      if !e.hasFVar && k + 1 != 1000000 then return (0, 0)
      if let some r := (← get).done[e]? then return r
      let put (r : Nat × Nat) : M (Nat × Nat) := do
        modify fun s => { s with done := s.done.insert e r }
        return r
      let un (x : FVarId) (o : Nat) : M Nat := do
        let i := (← get).order.getD x 0
        return if o.testBit i then o - Nat.shiftLeft 1 i else o
      let (sz, own) ← (match e with
        | .app f a => do
          let (s1, o1) ← decide' k f
          let (s2, o2) ← decide' k a
          return (s1 + s2 + 1, o1 ||| o2)
        | .lam _ t _ _ | .forallE _ t _ _ => do
          let (s1, o1) ← decide' k t
          let some (x, b) := (← get).binder[e]? | throwError "shrink: binder"
          let (s2, o2) ← decide' k b
          return (s1 + s2 + 1, o1 ||| (← un x o2))
        | .letE _ t v _ _ => do
          let (s1, o1) ← decide' k t
          let (s3, o3) ← decide' k v
          let some (x, b) := (← get).binder[e]? | throwError "shrink: binder"
          let (s2, o2) ← decide' k b
          return (s1 + s2 + s3 + 1, o1 ||| o3 ||| (← un x o2))
        | .mdata _ b | .proj _ _ b => do
          let (s1, o1) ← decide' k b
          return (s1 + 1, o1)
        | _ => return (0, 0) : M (Nat × Nat))
      if own == 0 then put (0, 0)
      else
        let m := (← get).multi.getD e 0
        if m == 0 || sz < 3 then put (sz, own)
        else
          let lctx := (← get).lctx
          let ty? ← (do
            withLCtx lctx {} do
              try
                let ty ← instantiateMVars (← inferType e)
                return some ty
              catch _ => return none : MetaM (Option Expr))
          match ty? with
          | none => put (sz, own)
          | some ty =>
            if ty.approxDepth > 60 then return ← put (sz, own)
            visit 1000 ⟨`_shty⟩ ty
            let (tn, _) ← decide' k ty
            if m * sz < tn + 2 + sz / 4 then put (sz, own)
            else
              let s ← get
              let some x := s.byNum[Nat.log2 own]? | put (sz, own)
              let y : FVarId := ⟨.num `_shl s.n⟩
              set { s with n := s.n + 1, hoisted := s.hoisted.insert e y, owned := s.owned.insert x ((s.owned.getD x #[]).push (y, ty, e)) }
              put (0, own)
structure Out where
  lvl : Std.HashMap FVarId Nat := {}
  memo : Std.HashMap Expr Expr := {}
def out : Nat → St → Bool → Nat → Expr → StateM Out Expr
  | 0, _, _, _, e => return e
  | k + 1, s, top, d, e => do
    if !e.hasFVar && k + 1 != 1000000 then return e
    if !top then
      if let some r := (← get).memo[e]? then return r
      if let some y := s.hoisted[e]? then
        return .bvar (d - 1 - (← get).lvl.getD y 0)
    let wrap (x : FVarId) (b : Expr) (d : Nat) : StateM Out Expr := do
      -- d : the level of x
      let old := (← get).memo
      modify fun o => { o with lvl := o.lvl.insert x d, memo := {} }
      let ls := s.owned.getD x #[]
      let mut outs : Array (Expr × Expr) := #[]
      let mut dd := d + 1
      for (y, ty, v) in ls do
        let ty' ← out k s false dd ty
        let v' ← out k s true dd v
        modify fun o => { o with lvl := o.lvl.insert y dd, memo := {} }
        outs := outs.push (ty', v')
        dd := dd + 1
      let mut r ← out k s false dd b
      for (ty', v') in outs.reverse do r := .letE `y ty' v' r false
      modify fun o => { o with memo := old }
      return r
    let put (r : Expr) : StateM Out Expr := do
      if !top then modify fun o => { o with memo := o.memo.insert e r }
      return r
    match e with
    | .fvar x => match (← get).lvl[x]? with
      | some l => return .bvar (d - 1 - l)
      | none => return e
    | .app f a => put (.app (← out k s false d f) (← out k s false d a))
    | .lam n t _ bi =>
      let some (x, b) := s.binder[e]? | return e
      let t' ← out k s false d t
      put (.lam `x t' (← wrap x b d) .default)
    | .forallE n t _ bi =>
      let some (x, b) := s.binder[e]? | return e
      let t' ← out k s false d t
      put (.forallE `x t' (← wrap x b d) bi)
    | .letE n t v _ nd =>
      let some (x, b) := s.binder[e]? | return e
      let t' ← out k s false d t
      let v' ← out k s false d v
      put (.letE `x t' v' (← wrap x b d) nd)
    | .mdata _ b => out k s false d b
    | .proj n i b => return .proj n i (← out k s false d b)
    | _ => return e
def shrink (e : Expr) : MetaM Expr := do
  let e ← Core.transform e (pre := fun e => return (if e.isAppOfArity ``id 2 then .visit e.appArg! else match e with | .mdata _ b => .visit b | _ => .continue))
  let z : FVarId := ⟨`_shtop⟩
  let xs := (← getLCtx).foldl (fun a d => a.push d.fvarId) #[]
  let st : St := { lctx := ← getLCtx, n := xs.size, order := (xs.zipIdx.foldl (fun m (x, i) => m.insert x i) {}), byNum := (xs.zipIdx.foldl (fun m (_, i) => m.insert i z) {}) }
  let (_, s) ← (do
    visit 1000000 z e
    let _ ← decide' 1000000 e : M Unit).run st
  let e := e
  let (r, _) := (do
    let ls := s.owned.getD z #[]
    let mut outs : Array (Expr × Expr) := #[]
    let mut dd := 0
    for (y, ty, v) in ls do
      let ty' ← out 999999 s false dd ty
      let v' ← out 999999 s true dd v
      modify fun o => { o with lvl := o.lvl.insert y dd, memo := {} }
      outs := outs.push (ty', v')
      dd := dd + 1
    let mut r ← out 1000000 s false dd e
    for (ty', v') in outs.reverse do r := .letE `y ty' v' r false
    return r : StateM Out Expr).run {}
  return r
open Elab Tactic in
/-- opens a goal whose proof will be made smaller -/
def mark : TacticM Unit := do
  PyProof.Rows.walkLines.set (0, {})
  PyProof.Rows.walkTop.set false
  PyProof.Rows.walkHit.set {}
  PyProof.Rows.finHit.set none
  PyProof.Rows.finFell.set {}
  let g ← getMainGoal
  g.withContext do
    let t ← g.getType
    let e ← mkFreshExprSyntheticOpaqueMVar t
    g.setTag e.mvarId!.name
    setGoals ((e.mvarId! :: g :: (← getGoals).tail))
open Elab Tactic in
/-- the end of it -/
def fin : TacticM Unit := do
  let g ← getMainGoal
  g.withContext do
    let e ← instantiateMVars (mkMVar ⟨← g.getTag⟩)
    if e.hasExprMVar then throwError "shrink: goals are left"
    g.assign (← shrink e)
    replaceMainGoal []
end Mine.Sh
end

section
set_option linter.unusedVariables false
set_option autoImplicit false
namespace Mine.Tx
open Lean Elab Tactic
/-- runs a tactic that is given as text -/
def run (s : String) : TacticM Unit := do
  match Parser.runParserCategory (← getEnv) `tactic ("(" ++ s ++ ")") with
  | .error e => throwError e
  | .ok stx => withFreshMacroScope do
    evalTactic (← stx.rewriteBottomUpM fun t => do
      match t with
      | .ident info raw val pre =>
        if (← resolveGlobalName val).isEmpty then return .ident .none raw (← MonadQuotation.addMacroScope val) []
        else return .ident .none raw val pre
      | .atom _ v => return .atom .none v
      | .node _ k as => return .node .none k as
      | _ => return t)
/-- a walk's line as text -/
def line (s : String) : MacroM (TSyntax `tactic) := `(tactic| run_tac Mine.Tx.run $(Syntax.mkStrLit s))
/-- the lines of a table for a key; the last is tried first -/
def look (k s : String) : MacroM (TSyntax `tactic) := do
  match ((s.splitOn "\n").filter fun l => l.startsWith (k ++ " ==> ")).reverse.map fun l => (l.drop (k.length + 5)).toString with
  | [] => Macro.throwUnsupported
  | [l] => line l
  | ls => line (ls.foldl (fun a l => a ++ " | (" ++ l ++ ")") "first")
end Mine.Tx
end

set_option maxHeartbeats 0
open PySem PySem.W PyProof.Rows
namespace Mine
theorem slim : True := by
  run_tac do
    let hd : Lean.Name := `Mine.hd
    for i in [0:400] do
      for p in ["o_", "tree_", "heap_", "sts_", "view_", "env_"] do
        PySem.W.Fast.primed.modify (·.insert (hd.str (p ++ toString i)) none)
    PySem.W.Fast.primed.modify (·.insert `PySem.Challenge.pw_ik0156_01 none)
  trivial
open_top hd for PySem.Challenge.rw_ik0156_01
end Mine

set_option maxHeartbeats 20000000
open PySem PySem.W PySem.Calls PySem.Spec PyProof.Rows
namespace Mine
theorem fillAll : Mine.hd.heap_39 = Mine.hd.heap_39 ∧ PySem.Challenge.rw_ik0156_01 = PySem.Challenge.rw_ik0156_01 := by
  k_fill
  exact ⟨rfl, rfl⟩
local macro_rules | `(tactic| omega) => `(tactic| run_tac Mine.Li.lin)

section -- B1
set_option autoImplicit true
noncomputable abbrev prg : Program := Challenge.rw_ik0156_01.row.prog
noncomputable abbrev TP (dp un : Nat) (fr : Option (List Env)) (gd : Option (List Code)) : Around := { handled := none, depth := dp, frames := fr, guards := gd, units := un }
noncomputable def Beside (g hp : Heap) (news : List (Addr × Obj)) : Prop := ∀ p ∈ news, hp.get? p.1 = some p.2 ∧ g.get? p.1 = none
theorem Beside.nil {g hp : Heap} : Beside g hp [] := fun _ h => nomatch h
structure Sub (g hp : Heap) : Prop where
  stays : ∀ b o, g.get? b = some o → hp.get? b = some o
theorem Sub.refl (h : Heap) : Sub h h := ⟨fun _ _ e => e⟩

section
variable {prog : Program} {w : World} {A : Around} {R : Result → Shared → Prop} {K : Frag} {p : Program} {loose : List Str} {mean : ExcName → Option Value} {mg mb : Str → Option Value}
    {g hp : Heap} {gn : Array GenState} {dr : Drawn} {tk : Nat} {os : OsState} {news : List (Addr × Obj)}
    {name qual : Str} {params : Arguments} {body : List Stmt} {scope : Scope} {dV kV doc pm cdv ct oc : Value} {an od : Option Addr} {osl : Array (Option Value)} {f : Addr} {args : Args} {binds : List (Str × Value)}

theorem enterG (X : K.In g) (T : Top p loose mean mg mb g) (S : Sub g hp) (hle : g.objs.size ≤ hp.objs.size) (Bs : Beside g hp news)
    (ho : K.lookup f = some ⟨oc, od, .func (fnOf name qual params body scope dV kV doc pm an cdv ct), osl⟩) (hcd : codeIn K cdv qual = true) (hroom : A.depth < recursionLimit)
    (hbind : BindsTo ⟨hp, gn, dr, tk, os⟩ (fnOf name qual params body scope dV kV doc pm an cdv ct) args binds) (hloc : ∀ y ∈ binds, scope.names.lookup y.1 = some .local)
    (h : ∀ L' h₁, Fr g L' h₁ (fun y => binds.reverse.lookup y) → News g L' h₁ news → (∀ p ∈ news, p.1 < L') →
      wpAny (model prog w) (A.deeper (envOf qual scope L' f cdv)) (execs body (envOf qual scope L' f cdv))
        (fun fl s' => R (.ok (.ret (match fl with | .ret v => v | _ => .none))) s')
        (fun e s' => wpAny (model prog w) (A.deeper (envOf qual scope L' f cdv)) (leaving (envOf qual scope L' f cdv) e) (fun _ s'' => R (.error e) s'') (fun e' s'' => R (.error e') s'') s')
        ⟨h₁, gn, dr, tk + binds.length, os⟩)
    (hco : scope.isCoroutine = false) (hgen : scope.isGenerator = false) (hk : scope.kind = .function)
    (hcell : ∀ x ∈ scope.names, x.2 ≠ .cell) : codeAny (model prog w) A (.call (.ref f) args) R ⟨hp, gn, dr, tk, os⟩ := by
  refine codeAny_call_def (fd := fnOf name qual params body scope dV kV doc pm an cdv ct) (body := body) (binds := binds) hroom (S.stays _ _ (X _ _ ho)) rfl (T.nolimit.keeps S.stays) (codeRec_of (X.keeps S.stays) hcd) rfl hbind hcell hloc (fun h₁ hns hk₁ => ?_) hco hgen hk
  exact h _ h₁ ⟨hns, fun b o e => hk₁ b o (S.stays b o e), hle⟩ (fun p hp' => ⟨hk₁ _ _ (Bs p hp').1, Nat.ne_of_lt (Heap.lt_size (Bs p hp').1), (Bs p hp').2⟩) fun p hp' => Heap.lt_size (Bs p hp').1

theorem enterGC (X : K.In g) (T : Top p loose mean mg mb g) (S : Sub g hp) (hle : g.objs.size ≤ hp.objs.size) (Bs : Beside g hp news)
    (ho : K.lookup f = some ⟨oc, od, .func (fnOf name qual params body scope dV kV doc pm an cdv ct), osl⟩) (hcd : codeIn K cdv qual = true) (hroom : A.depth < recursionLimit)
    (hbind : BindsTo ⟨hp, gn, dr, tk, os⟩ (fnOf name qual params body scope dV kV doc pm an cdv ct) args binds) (hkind : (binds.all fun y => scope.names.lookup y.1 == some .local || scope.names.lookup y.1 == some .cell) = true)
    (hnd : ((cellsFrom 0 scope.names []).map (·.1)).Nodup)
    (h : ∀ L' h₁ tk' cells, Fr g L' h₁ (bindL (envOfC qual scope L' f cdv).kindOf binds fun _ => none) → News g L' h₁ (cells ++ news) →
      CellsAre (bindC (envOfC qual scope L' f cdv).kindOf binds fun _ => none) (cellsFrom (L' + 1) scope.names []) cells → (∀ p ∈ news, p.1 < L') →
      wpAny (model prog w) (A.deeper (envOfC qual scope L' f cdv)) (execs body (envOfC qual scope L' f cdv))
        (fun fl s' => R (.ok (.ret (match fl with | .ret v => v | _ => .none))) s')
        (fun e s' => wpAny (model prog w) (A.deeper (envOfC qual scope L' f cdv)) (leaving (envOfC qual scope L' f cdv) e) (fun _ s'' => R (.error e) s'') (fun e' s'' => R (.error e') s'') s')
        ⟨h₁, gn, dr, tk', os⟩)
    (hco : scope.isCoroutine = false) (hgen : scope.isGenerator = false) (hk : scope.kind = .function) : codeAny (model prog w) A (.call (.ref f) args) R ⟨hp, gn, dr, tk, os⟩ := by
  run_tac Mine.Sh.mark
  focus
    refine codeAny_call_function hroom (S.stays _ _ (X _ _ ho)) rfl hco hgen rfl (codeRec_of (X.keeps S.stays) hcd) (hbind _ _ _ _ ?_)
    refine wpAny_newFunctionEnv_cells hk (kindsX hkind _) fun env' he s' x => ?_
    subst he
    refine ⟨(T.nolimit.keeps S.stays).keeps x.toInCall.keep, codeAny_func ?_⟩
    obtain ⟨h₁, tk', rfl, _⟩ := x.done
    have hk₁ := x.toInCall.keep
    obtain ⟨cells, NC, Y⟩ := Cl.news (h₀ := hp) (Nat.le_refl _) fun n c hm => ⟨x.cell n c (lookup_of_mem_nodup (cellsFrom_names scope.names 0 (hp.objs.size + 1) [] [] rfl ▸ hnd) hm), x.above n c hm⟩
    refine h _ h₁ tk' cells ⟨x.toInCall.ns, fun b o e => hk₁ b o (S.stays b o e), hle⟩ (fun p hp' => ?_) Y fun p hp' => Heap.lt_size (Bs p hp').1
    rcases List.mem_append.mp hp' with hp' | hp'
    · refine ⟨(NC p hp').1, (NC p hp').2.1, ?_⟩
      cases q : g.get? p.1 with
      | none => rfl
      | some o => have := S.stays _ _ q; rw [(NC p hp').2.2] at this; cases this
    · exact ⟨hk₁ _ _ (Bs p hp').1, Nat.ne_of_lt (Heap.lt_size (Bs p hp').1), (Bs p hp').2⟩
  run_tac Mine.Sh.fin
end

noncomputable def Fresh (hp h' : Heap) (nw : List (Addr × Obj)) : Prop := ∀ p ∈ nw, h'.get? p.1 = some p.2 ∧ hp.get? p.1 = none
theorem Fresh.nil {hp h' : Heap} : Fresh hp h' [] := fun _ h => nomatch h
theorem Fresh.of {hp h' : Heap} {L : Addr} {nw : List (Addr × Obj)} (N : News hp L h' nw) : Fresh hp h' nw := fun p hp => ⟨(N p hp).1, (N p hp).2.2⟩
theorem Sub.of {hp h' : Heap} {L : Addr} {m : Str → Option Value} (F : Fr hp L h' m) : Sub hp h' := ⟨F.keep⟩
theorem Sub.trans {a b c : Heap} (x : Sub a b) (y : Sub b c) : Sub a c := ⟨fun b o e => y.stays b o (x.stays b o e)⟩
theorem call_fr {h₀ hp h' : Heap} {L : Addr} {m : Str → Option Value} (F : Fr h₀ L hp m) (S : Sub hp h') : Fr h₀ L h' m :=
  ⟨F.ns.keeps S.stays, fun b o e => S.stays b o (F.keep b o e), F.above⟩
theorem call_news {h₀ hp h' : Heap} {L : Addr} {m : Str → Option Value} {news nw : List (Addr × Obj)} (F : Fr h₀ L hp m) (N : News h₀ L hp news) (S : Sub hp h') (W : Fresh hp h' nw) : News h₀ L h' (nw ++ news) := fun p hp => by
  rcases List.mem_append.mp hp with hp | hp
  · refine ⟨(W p hp).1, fun e => ?_, ?_⟩
    · have := F.ns.lt
      obtain ⟨o, _, _, hL, _⟩ := F.ns
      have h2 := (W p hp).2
      rw [e, hL] at h2; cases h2
    · cases q : h₀.get? p.1 with
      | none => rfl
      | some o => have h2 := (W p hp).2; rw [F.keep _ _ q] at h2; cases h2
  · exact ⟨S.stays _ _ (N p hp).1, (N p hp).2⟩
noncomputable abbrev tupO (vs : List Value) : Obj := { cls := .type "tuple", data := .seq vs.toArray 0 }
theorem getD_byte (l : List Int) (h : ∀ x ∈ l, 0 ≤ x ∧ x ≤ 255) (i : Nat) : 0 ≤ l.getD i 0 ∧ l.getD i 0 ≤ 255 := by
  run_tac Mine.Sh.mark
  focus
    rw [List.getD_eq_getElem?_getD]
    cases e : l[i]? with
    | none => simp
    | some x => exact h x (List.mem_of_getElem? e)
  run_tac Mine.Sh.fin
theorem fmod_byte (a : Int) : 0 ≤ Int.fmod a 256 ∧ Int.fmod a 256 ≤ 255 := by
  run_tac Mine.Sh.mark
  focus
    have := fmod_lo a (n := 256) (by decide)
    have := fmod_hi a (n := 256) (by decide)
    omega
  run_tac Mine.Sh.fin
noncomputable def NeAll (d : Nat) : List (Addr × Obj) → Prop
  | [] => True
  | p :: r => @Ne Nat p.1 d ∧ NeAll d r
theorem neAll_of {d : Nat} : ∀ {l : List (Addr × Obj)}, (∀ p ∈ l, p.1 ≠ d) → NeAll d l
  | [], _ => trivial
  | p :: _, h => ⟨h p (.head _), neAll_of fun q hq => h q (.tail _ hq)⟩
theorem ne_one {h₀ hp h' : Heap} {L a : Addr} {o : Obj} {news nw : List (Addr × Obj)} (W : Fresh hp h' ((a, o) :: nw)) (N : News h₀ L hp news) : NeAll a news :=
  neAll_of fun p hp' e => by have h1 := (W _ (.head _)).2; have h2 := (N p hp').1; rw [e] at h2; rw [h1] at h2; cases h2
end

section -- B2
set_option autoImplicit true
noncomputable def Covers (g hp : Heap) (nl : List (Addr × Obj)) : Prop := ∀ b o, hp.get? b = some o → g.get? b = some o ∨ (b, o) ∈ nl
theorem hideUp {h₀ hp : Heap} {nl : List (Addr × Obj)} (st : Sub h₀ hp) (Bs : Beside h₀ hp nl) :
   ∃ g, Sub h₀ g ∧ Sub g hp ∧ g.objs.size ≤ hp.objs.size ∧ Beside g hp nl ∧ Covers g hp nl := by
  run_tac Mine.Sh.mark
  focus
    refine ⟨hideAll hp (nl.map (·.1)), ⟨fun b o e => hideAll_get _ (st.stays b o e) fun hm => ?_⟩, ⟨fun b o e => of_hideAll _ e⟩, Nat.le_of_eq (hideAll_size _ _), fun p hp' => ⟨(Bs p hp').1, hideAll_none _ (List.mem_map_of_mem hp')⟩, fun b o e => ?_⟩
    · obtain ⟨p, hp', rfl⟩ := List.mem_map.mp hm
      have := (Bs p hp').2
      rw [e] at this; cases this
    · by_cases hm : b ∈ nl.map (·.1)
      · obtain ⟨p, hp', rfl⟩ := List.mem_map.mp hm
        have := (Bs p hp').1
        rw [e] at this
        cases this
        exact .inr hp'
      · exact .inl (hideAll_get _ e hm)
  run_tac Mine.Sh.fin
theorem Sub.ofB {g hp h' : Heap} {L : Addr} {m : Str → Option Value} {nl news : List (Addr × Obj)} (Cv : Covers g hp nl) (F : Fr g L h' m) (N : News g L h' news) (hn : ∀ p ∈ nl, p ∈ news) : Sub hp h' :=
  ⟨fun b o e => (Cv b o e).elim (F.keep b o) fun hm => (N _ (hn _ hm)).1⟩
where
  neAll_ne {d : Nat} {l : List (Addr × Obj)} {o : Obj} (h : NeAll d l) (hm : (d, o) ∈ l) : d ≠ d := by
    induction l with
    | nil => cases hm
    | cons p r ih =>
      cases hm with
      | head => exact h.1
      | tail _ hm => exact ih h.2 hm
end

section -- B3
theorem News.sub {g h : Heap} {L : Addr} {a b : List (Addr × Obj)} (N : News g L h a) (hs : ∀ p ∈ b, p ∈ a) : News g L h b := fun p hp => N p (hs p hp)
theorem Fr.wrap {g h : Heap} {L : Addr} {m : Str → Option Value} (F : Fr g L h m) (x : Str) (v : Option Value) (e : m x = v) : Fr g L h (fun y => if y = x then v else m y) := by
  run_tac Mine.Sh.mark
  focus
    have : m = fun y => if y = x then v else m y := by
      funext y
      by_cases hy : y = x
      · subst hy; rw [if_pos rfl]; exact e
      · rw [if_neg hy]
    rw [← this]; exact F
  run_tac Mine.Sh.fin
theorem nil_at {α : Type} {C : Prop} {i : Nat} {v : α} (h : ([] : List α)[i]? = some v) : C := by
  rw [List.getElem?_nil] at h; cases h
theorem nil_in {α : Type} {C : Prop} {v : α} (h : v ∈ ([] : List α)) : C := (List.not_mem_nil h).elim
noncomputable def Halt (p : Prop) : Prop := p
theorem halt {p : Prop} (h : Halt p) : p := h
noncomputable def Kp (S : List Addr) (h h' : Heap) : Prop := ∀ b o, b ∉ S → h.get? b = some o → h'.get? b = some o
theorem Kp.refl (S : List Addr) (h : Heap) : Kp S h h := fun _ _ _ e => e
theorem Kp.trans {S : List Addr} {a b c : Heap} (x : Kp S a b) (y : Kp S b c) : Kp S a c := fun p o n e => y p o n (x p o n e)
theorem Kp.mono {S S' : List Addr} {a b : Heap} (x : Kp S a b) (h : ∀ p ∈ S, p ∈ S') : Kp S' a b := fun p o n e => x p o (fun hm => n (h _ hm)) e
theorem Kp.ofSub {S : List Addr} {a b : Heap} (x : Sub a b) : Kp S a b := fun p o _ e => x.stays p o e
end

section -- B4
section
variable {prog : Program} {w : World} {A : Around} {R : Result → Shared → Prop} {p : Program} {loose : List Str} {mean : ExcName → Option Value} {mg mb : Str → Option Value}
    {g hp : Heap} {gn : Array GenState} {dr : Drawn} {tk : Nat} {os : OsState} {news : List (Addr × Obj)}
    {name qual : Str} {params : Arguments} {body : List Stmt} {ebody : PySem.Expr} {scope : Scope} {cl : List (Str × Addr)} {dV kV doc pm cdv ct : Value} {an : Option Addr} {f : Addr} {fo : Obj} {args : Args} {binds : List (Str × Value)}
theorem enterGX (T : Top p loose mean mg mb g) (S : Sub g hp) (hle : g.objs.size ≤ hp.objs.size) (Bs : Beside g hp news)
    (ho : hp.get? f = some fo) (hd : fo.data = .func (fnX name qual params body scope cl dV kV doc pm an cdv ct)) (hcd : hp.CodeRec cdv qual) (hroom : A.depth < recursionLimit)
    (hbind : BindsTo ⟨hp, gn, dr, tk, os⟩ (fnX name qual params body scope cl dV kV doc pm an cdv ct) args binds) (hloc : ∀ y ∈ binds, scope.names.lookup y.1 = some .local)
    (h : ∀ L' h₁, Fr g L' h₁ (fun y => binds.reverse.lookup y) → News g L' h₁ news → (∀ p ∈ news, p.1 < L') →
      wpAny (model prog w) (A.deeper (envX qual scope L' f cdv cl)) (execs body (envX qual scope L' f cdv cl))
        (fun fl s' => R (.ok (.ret (match fl with | .ret v => v | _ => .none))) s')
        (fun e s' => wpAny (model prog w) (A.deeper (envX qual scope L' f cdv cl)) (leaving (envX qual scope L' f cdv cl) e) (fun _ s'' => R (.error e) s'') (fun e' s'' => R (.error e') s'') s')
        ⟨h₁, gn, dr, tk + binds.length, os⟩)
    (hco : scope.isCoroutine = false) (hgen : scope.isGenerator = false) (hk : scope.kind = .function)
    (hcell : ∀ x ∈ scope.names, x.2 ≠ .cell) : codeAny (model prog w) A (.call (.ref f) args) R ⟨hp, gn, dr, tk, os⟩ := by
  refine codeAny_call_def (fd := fnX name qual params body scope cl dV kV doc pm an cdv ct) (body := body) (binds := binds) hroom ho hd (T.nolimit.keeps S.stays) hcd rfl hbind hcell hloc (fun h₁ hns hk₁ => ?_) hco hgen hk
  exact h _ h₁ ⟨hns, fun b o e => hk₁ b o (S.stays b o e), hle⟩ (fun p hp' => ⟨hk₁ _ _ (Bs p hp').1, Nat.ne_of_lt (Heap.lt_size (Bs p hp').1), (Bs p hp').2⟩) fun p hp' => Heap.lt_size (Bs p hp').1
theorem enterGL (T : Top p loose mean mg mb g) (S : Sub g hp) (hle : g.objs.size ≤ hp.objs.size) (Bs : Beside g hp news)
    (ho : hp.get? f = some fo) (hd : fo.data = .func (kla_fn name qual params ebody scope cl pm cdv ct)) (hcd : hp.CodeRec cdv qual) (hroom : A.depth < recursionLimit)
    (hbind : BindsTo ⟨hp, gn, dr, tk, os⟩ (kla_fn name qual params ebody scope cl pm cdv ct) args binds) (hloc : ∀ y ∈ binds, scope.names.lookup y.1 = some .local)
    (h : ∀ L' h₁, Fr g L' h₁ (fun y => binds.reverse.lookup y) → News g L' h₁ news → (∀ p ∈ news, p.1 < L') →
      wpAny (model prog w) (A.deeper (envX qual scope L' f cdv cl)) (eval ebody (envX qual scope L' f cdv cl))
        (fun v s' => R (.ok (.ret v)) s')
        (fun e s' => wpAny (model prog w) (A.deeper (envX qual scope L' f cdv cl)) (leaving (envX qual scope L' f cdv cl) e) (fun _ s'' => R (.error e) s'') (fun e' s'' => R (.error e') s'') s')
        ⟨h₁, gn, dr, tk + binds.length, os⟩)
    (hco : scope.isCoroutine = false) (hgen : scope.isGenerator = false) (hk : scope.kind = .function)
    (hcell : ∀ x ∈ scope.names, x.2 ≠ .cell) : codeAny (model prog w) A (.call (.ref f) args) R ⟨hp, gn, dr, tk, os⟩ := by
  run_tac Mine.Sh.mark
  focus
    refine kla_callFunE hroom ho hd hco hgen rfl hcd (hbind _ _ _ _ ?_)
    refine wpAny_newFunctionEnv hcell hloc (fun h₁ hns hsb => ⟨(T.nolimit.keeps S.stays).fresh _ hsb, kla_codeExpr ?_⟩) hk
    have hk₁ : ∀ b o, hp.get? b = some o → h₁.get? b = some o := fun b o e => hsb.extBut b o (Nat.ne_of_lt (Heap.lt_size e)) (Heap.get?_push_of_some _ e)
    exact h _ h₁ ⟨hns, fun b o e => hk₁ b o (S.stays b o e), hle⟩ (fun p hp' => ⟨hk₁ _ _ (Bs p hp').1, Nat.ne_of_lt (Heap.lt_size (Bs p hp').1), (Bs p hp').2⟩) fun p hp' => Heap.lt_size (Bs p hp').1
  run_tac Mine.Sh.fin
end
open Lean Elab Tactic Meta in
def wa (e : Lean.Expr) : MetaM Lean.Expr := withTransparency .all (whnf e)
open Lean Elab Tactic Meta in
def bindsOf : Nat → Lean.Expr → MetaM (List Lean.Expr)
  | 0, _ => return []
  | k + 1, l0 => do
    let l ← wa l0
    unless l.isAppOfArity ``List.cons 3 do return []
    let p ← wa l.appFn!.appArg!
    let n0 ← whnfCore (p.getArg! 2)
    let x ← if n0.isAppOfArity ``PySem.Arg.arg 1 then whnfR n0.appArg! else pure n0
    let n := if x.isAppOf ``PySem.Arg.mk then x.getArg! 0 else n0
    let v ← whnfCore (p.getArg! 3)
    return mkAppN p.getAppFn #[p.getArg! 0, p.getArg! 1, n, v] :: (← bindsOf k l.appArg!)
open Lean Elab Tactic Meta in
def bindsTac : TacticM Unit := withMainContext do
  let g ← getMainGoal
  let t ← instantiateMVars (← g.getType)
  unless t.isAppOfArity ``BindsTo 4 do throwError "bindsTac: another goal"
  let a := t.getAppArgs
  let lhs := mkApp2 (mkConst ``bindArgs) a[1]! a[2]!
  let e ← wa lhs
  unless e.isAppOfArity ``Sem.pure 2 do throwError "bindsTac: no pure"
  let es ← bindsOf 12 e.appArg!
  let el ← mkAppM ``Prod #[mkConst ``PySem.Str, mkConst ``PySem.Value]
  let b ← mkListLit el es
  unless ← isDefEq a[3]! b do throwError "bindsTac: the binds"
  let pf ← mkExpectedTypeHint (← mkEqRefl e) (← mkEq lhs e)
  let s ← Term.exprToSyntax pf
  evalTactic (← `(tactic| exact BindsTo.of_eq $s))
end

local macro_rules | `(tactic| tb_start) => Mine.Tx.line "(refine wpAny_call ?_; k_dflt (refine' enterG ?k3 ?k5 ?kS ?kL ?kN ?k6 ?k7 ?k8 ?k9 ?kB ?_ ?c2 ?c3 ?c4 ?c5; (case k3 => k_asm); (case k5 => k_asm); (case kS => first | assumption | exact Sub.refl _); (case kL => first | exact Nat.le_refl _ | assumption); (case kN => first | assumption | exact Beside.nil); (case k6 => k_is); (case k7 => k_is); (case k8 => first | omega | ktr_room); (case k9 => run_tac bindsTac); (case c5 => decide); (case kB => exact locs rfl); (case c2 => exact rfl); (case c3 => exact rfl); (case c4 => exact rfl); k_whole); intro L' h' F' N' l1; (try k_lt l1); (try dsimp only); (try k_fold))"
local macro_rules | `(tactic| tb_rel) => Mine.Tx.line "(refine wpAny_call ?_; k_dflt (refine' enterGC ?k3 ?k5 ?kS ?kL ?kN ?k6 ?k7 ?k8 ?k9 ?kB ?kD ?_ ?c2 ?c3 ?c4; (case k3 => k_asm); (case k5 => k_asm); (case kS => first | assumption | exact Sub.refl _); (case kL => first | exact Nat.le_refl _ | assumption); (case kN => first | assumption | exact Beside.nil); (case k6 => k_is); (case k7 => k_is); (case k8 => first | omega | ktr_room); (case k9 => run_tac bindsTac); (case kB => exact rfl); (case kD => decide +kernel); (case c2 => exact rfl); (case c3 => exact rfl); (case c4 => exact rfl); k_whole); intro L' h' tk' cells' F' N' Y' l1; (try k_lt l1); k_cells Y'; (try simp only [List.cons_append, List.nil_append] at N'); (try dsimp only); (try k_fold))"

section -- C1
set_option autoImplicit true
structure Rule where
  b : Int
  h : Int
  l : Int
noncomputable def Rule.ok (r : Rule) : Prop := 0 ≤ r.b ∧ r.b ≤ 16 ∧ 0 ≤ r.h ∧ r.h ≤ 255 ∧ 0 ≤ r.l ∧ r.l ≤ 255
noncomputable def RuleIn (seg : List (Addr × Obj)) (v : Value) (r : Rule) : Prop := ∃ a t1 t2 t3, v = .ref a ∧ (a, tupO [.int r.b t1, .int r.h t2, .int r.l t3]) ∈ seg

theorem law_rule (w : World) (loose : List Str) (mean : ExcName → Option Value) (mg mb : Str → Option Value)
   (dp un : Nat) (fr : Option (List Env)) (gd : Option (List Code)) (s : Shared) (Q E : Value → Shared → Prop)
   (n : Int) (tk : Tok) (h0 : 0 ≤ n) (h1 : n < 10000000000)
   (X : (Mine.hd.heap_39 w.params).In s.heap) (T : Top topProg loose mean mg mb s.heap)
   (hd : dp + 10 < recursionLimit) (hu : un + 80 < cLine)
   (hret : ∀ (v : Value) (nw : List (Addr × Obj)) (r : Rule) (h' : Heap) (tk' : Nat), Sub s.heap h' → Fresh s.heap h' nw → RuleIn nw v r → r.ok → Q v { s with heap := h', toks := tk' }) :
   wpAny (model prg w) (TP dp un fr gd) (call (.ref 99) [.int n tk]) Q E s := by
  run_tac Mine.Sh.mark
  focus
    obtain ⟨hp, gn, dr, tk, os⟩ := s
    dsimp only at X T hret ⊢
    tb_start
    k_steps
    all_goals
      refine hret _ _ ⟨_, _, _⟩ _ _ (Sub.of (by assumption)) (Fresh.of (by assumption)) ⟨_, _, _, _, rfl, List.Mem.head _⟩ ⟨fmod_lo _ (by decide), ?_, ?_⟩
      · exact Int.le_of_lt_add_one (fmod_hi n (n := 17) (by decide))
      · dsimp only
        refine (fun (a : _ ∧ _) (b : _ ∧ _) => ⟨a.1, a.2, b.1, b.2⟩) ?_ ?_ <;> first | exact fmod_byte _ | exact getD_byte _ (by decide) _
  run_tac Mine.Sh.fin
end

section -- D2
set_option autoImplicit true
noncomputable abbrev S1 (a : Nat) : Str := ⟨#[a]⟩
theorem sb1 (a b : Nat) : (S1 a == S1 b) = decide (a = b) := by
  run_tac Mine.Sh.mark
  focus
    by_cases h : a = b
    · subst h; simp
    · rw [decide_eq_false h]
      apply beq_eq_false_iff_ne.mpr
      intro e
      injection e with e
      exact h (by simpa using e)
  run_tac Mine.Sh.fin
noncomputable def signAt (b : Str) (p : Int) : Str × Int :=
  if (Txt.slice b (some p) (some (p + 1)) == Str.ofString "\\") = true then (Txt.slice b (some (p + 1)) (some (p + 1 + 1)), p + 1 + 1) else (Txt.slice b (some p) (some (p + 1)), p + 1)

theorem law_sign (w : World) (loose : List Str) (mean : ExcName → Option Value) (mg mb : Str → Option Value)
   (dp un : Nat) (fr : Option (List Env)) (gd : Option (List Code)) (s : Shared) (Q E : Value → Shared → Prop)
   (body : Str) (place : Int) (t1 t2 : Tok) (x : Str) (p : Int) (hx : signAt body place = (x, p)) (h0 : 0 ≤ place) (h1 : place < 1000) (h2 : body.length < 1000)
   (X : (Mine.hd.heap_39 w.params).In s.heap) (T : Top topProg loose mean mg mb s.heap)
   (hd : dp + 10 < recursionLimit) (hu : un + 80 < cLine)
   (hret : ∀ (a : Addr) (t3 t4 : Tok) (h' : Heap) (tk' : Nat), Sub s.heap h' → Fresh s.heap h' [(a, tupO [.str x t3, .int p t4])] → Q (.ref a) { s with heap := h', toks := tk' }) :
   wpAny (model prg w) (TP dp un fr gd) (call (.ref 113) [.str body t1, .int place t2]) Q E s := by
  run_tac Mine.Sh.mark
  focus
    obtain ⟨hp, gn, dr, tk, os⟩ := s
    dsimp only at X T hret ⊢
    unfold signAt at hx
    tb_start
    k_steps
    · rw [if_pos (by assumption)] at hx
      obtain ⟨rfl, rfl⟩ := Prod.mk.inj hx
      exact hret _ _ _ _ _ (Sub.of (by assumption)) (Fresh.of (by assumption))
    · rw [if_neg (by first | assumption | (rw [Bool.not_eq_true]; assumption))] at hx
      obtain ⟨rfl, rfl⟩ := Prod.mk.inj hx
      exact hret _ _ _ _ _ (Sub.of (by assumption)) (Fresh.of (by assumption))
  run_tac Mine.Sh.fin
end

section -- D6
set_option autoImplicit true
noncomputable def specials : List Nat := [40,41,91,93,123,125,63,42,43,45,124,94,36,92,46,38,126,35,32,9,10,13,11,12]
noncomputable def isSp (c : Nat) : Bool := specials.contains c
noncomputable def escS (c : Nat) : Str := if isSp c = true then ⟨#[92, c]⟩ else S1 c
noncomputable def sp38 : List (Nat × Nat × Nat) := [(40,323,327),(41,329,333),(91,335,339),(93,341,345),(123,347,351),(125,353,357),(63,359,363),(42,365,369),(43,371,375),(45,377,381),(124,383,387),(94,389,393),(36,395,399),(92,401,405),(46,407,411),(38,413,417),(126,419,423),(35,425,429),(32,431,435),(9,437,441),(10,443,447),(13,449,453),(11,455,459),(12,461,465)]
noncomputable def es38 : List DictEntry := sp38.map fun p => ⟨(p.1 : Int), .int (p.1 : Int) p.2.1, .str ⟨#[92, p.1]⟩ p.2.2⟩
theorem look38 (P : Params) : List.lookup 38 (Mine.hd.heap_39 P) = some ⟨.type "dict", none, .dict es38.toArray 24, #[]⟩ := by kernel_rfl
noncomputable def f38 (k : Int) : Option Value := findBy Value.isInt es38.toArray k
theorem f38_all : ∀ c : Fin 256, f38 (c.val : Int) = (sp38.find? fun p => p.1 == c.val).map fun p => Value.str ⟨#[92, c.val]⟩ p.2.2 := by decide +kernel
theorem sp38_all : ∀ c : Fin 256, isSp c.val = (sp38.find? fun p => p.1 == c.val).isSome := by decide +kernel
theorem hash38 : ∀ p ∈ sp38, hashInt (p.1 : Int) = (p.1 : Int) := by decide +kernel
theorem map38 {w : World} {h : Heap} (X : (Mine.hd.heap_39 w.params).In h) : h.MapOf (intKind prg w) 38 f38 := by
  run_tac Mine.Sh.mark
  focus
    refine ⟨_, _, _, X _ _ (look38 _), ⟨rfl, rfl, rfl⟩, rfl, ?_, fun k => rfl⟩
    intro e he
    simp only [es38, List.mem_toArray, List.mem_map] at he
    obtain ⟨p, hp, rfl⟩ := he
    exact ⟨(p.1 : Int), intKind_is _ _ _ _, (hash38 p hp).symm⟩
  run_tac Mine.Sh.fin
theorem f38_yes {c : Nat} (h : c < 256) (hs : isSp c = true) : ∃ t, f38 (c : Int) = some (.str ⟨#[92, c]⟩ t) := by
  run_tac Mine.Sh.mark
  focus
    have h1 := f38_all ⟨c, h⟩
    have h2 := sp38_all ⟨c, h⟩
    dsimp only at h1 h2
    rw [hs] at h2
    obtain ⟨p, hp⟩ := Option.isSome_iff_exists.mp h2.symm
    rw [hp] at h1
    exact ⟨_, h1⟩
  run_tac Mine.Sh.fin
theorem f38_no {c : Nat} (h : c < 256) (hs : isSp c = false) : f38 (c : Int) = none := by
  run_tac Mine.Sh.mark
  focus
    have h1 := f38_all ⟨c, h⟩
    have h2 := sp38_all ⟨c, h⟩
    dsimp only at h1 h2
    rw [hs] at h2
    rw [h1, Option.isSome_eq_false_iff.mp h2.symm |> Option.isNone_iff_eq_none.mp]
    rfl
  run_tac Mine.Sh.fin
section
variable {prog : Program} {w : World} {A : Around} {E : Value → Shared → Prop} {s : Shared}
theorem lookup_keep {c : Nat} {f : Int → Option Value} {Q : Builtin.Str.Mapped → Shared → Prop} (hh : A.handled = none) (hm : s.heap.MapOf (intKind prog w) 38 f) (hf : f c = none)
   (h : ∀ h' tk', (∀ b o, s.heap.get? b = some o → h'.get? b = some o) → Q .keep { s with heap := h', toks := tk' }) : wpAny (model prog w) A (Builtin.Str.tableLookup (.ref 38) c) Q E s := by
  run_tac Mine.Sh.mark
  focus
    unfold Builtin.Str.tableLookup
    refine wpAny_bind (wpAny_attempt (wpAny_bind (wpAny_mkInt ?_)))
    refine wpAny_getItem_missing_of (knd := intKind prog w) (k := (c : Int)) (intKind_is _ _ _ _) (by decide) hh hm hf fun h' e N => ?_
    dsimp only
    obtain ⟨ob, t, e1, e2, e3⟩ := N.there
    refine wpAny_bind (wpAny_isInstance (T := "KeyError") (b := true) ⟨ob, e1, e2⟩ ?_ ?_)
    · rw [isSubtype_type]; kernel_rfl
    · simp only [if_true]
      exact wpAny_bind (wpAny_rule (wpAny_pure (h _ _ N.keeps)))
  run_tac Mine.Sh.fin
theorem lookup_text {c : Nat} {f : Int → Option Value} {x : Str} {t : Tok} {Q : Builtin.Str.Mapped → Shared → Prop} (hm : s.heap.MapOf (intKind prog w) 38 f) (hf : f c = some (.str x t))
   (h : ∀ tk', Q (.text x) { s with toks := tk' }) : wpAny (model prog w) A (Builtin.Str.tableLookup (.ref 38) c) Q E s := by
  run_tac Mine.Sh.mark
  focus
    unfold Builtin.Str.tableLookup
    refine wpAny_bind (wpAny_attempt (wpAny_bind (wpAny_mkInt ?_)))
    refine wpAny_getItem_of (knd := intKind prog w) (k := (c : Int)) (intKind_is _ _ _ _) hm hf ?_
    exact wpAny_bind (wpAny_pure (a := (none : Option Int)) (wpAny_bind (wpAny_pure (a := some x) (wpAny_pure (h _)))))
  run_tac Mine.Sh.fin
theorem wp_rule {nm : String} {Q : Unit → Shared → Prop} (h : Q () s) : wpAny (model prog w) A (PySem.rule nm) Q E s := wpAny_rule h
theorem wp_tooLong {n : Nat} {x : Str} {Q : PySem.Fin → Shared → Prop} (hn : n ≤ 4) (h : wpAny (model prog w) A (retStr x) Q E s) :
  wpAny (model prog w) A (if Builtin.Str.tooLong n = true then do
            unsupported "str.translate:memory"
            retStr x else retStr x) Q E s := by
  run_tac Mine.Sh.mark
  focus
    rw [if_neg]
    · exact h
    · have : n = 0 ∨ n = 1 ∨ n = 2 ∨ n = 3 ∨ n = 4 := by omega
      rcases this with rfl | rfl | rfl | rfl | rfl <;> decide
  run_tac Mine.Sh.fin
theorem fold1 (x : Str) : (⟨List.foldl (fun acc p => acc ++ p.cps) #[] [x].reverse⟩ : Str) = x := by simp
theorem Sub.of_keeps {a b : Heap} (k : ∀ x o, a.get? x = some o → b.get? x = some o) : Sub a b := ⟨k⟩
theorem str_translate {c : Nat} {tk : Tok} {Q : Value → Shared → Prop} (hc : c < 256) (hh : A.handled = none) (X : (Mine.hd.heap_39 w.params).In s.heap)
   (h : ∀ h' tk' t', Sub s.heap h' → Q (.str (escS c) t') { s with heap := h', toks := tk' }) :
   wpAny (model prg w) A (call (.builtin "str.translate") [.str (S1 c) tk, .ref 38]) Q E s := by
  run_tac Mine.Sh.mark
  focus
    refine wpAny_call_entry F.slot_str_translate (typeIs_str s _ tk) F.entry_str_translate ?_ (F.args_str_translate_2 _ _)
    have hm := map38 X
    unfold Builtin.«str.translate»
    refine wpAny_bind (m := Builtin.Str.strOneArg _ _) (wpAny_pure (a := (Value.str (S1 c) tk, S1 c, Value.ref 38)) ?_)
    dsimp only
    rw [show (#[c] : Array Nat) = [c].toArray from rfl]
    simp only [List.forIn_toArray, List.forIn_cons, List.forIn_nil, List.all_toArray, List.all_cons, List.all_nil, Bool.and_true]
    rw [if_neg (show ¬ Builtin.Str.tooLong 0 = true by decide)]
    refine wpAny_ite ?_
    rw [if_neg (show ¬ ((S1 c).length == 0) = true by simp [Str.length])]
    refine wpAny_bind (wpAny_bind ?_)
    cases hs : isSp c with
    | true =>
      obtain ⟨t, ht⟩ := f38_yes hc hs
      have he : escS c = ⟨#[92, c]⟩ := by unfold escS; rw [if_pos hs]
      by_cases h8 : c < 128
      · rw [if_pos (decide_eq_true h8)]
        refine wpAny_bind (lookup_text hm ht fun tk1 => ?_)
        dsimp only
        rw [if_neg (by simp [Str.length])]
        dsimp only
        refine wpAny_bind (wpAny_pure ?_)
        refine wpAny_bind (wpAny_rule ?_)
        rw [if_neg (by decide)]
        refine wpAny_bind (lookup_text (s := { s with toks := tk1 }) hm ht fun tk2 => ?_)
        dsimp only
        refine wpAny_pure (wpAny_pure ?_)
        dsimp only
        refine wp_tooLong (by simp [Str.length]) ?_
        refine wpAny_bind (wpAny_mkStr ?_ (by simp [Str.length, sizeLine]))
        refine wpAny_pure ?_
        rw [← he]
        exact ⟨_, congrArg (fun z => PySem.Fin.done (.ret (.str z _))) (fold1 _), h s.heap _ _ (Sub.refl _)⟩
      · rw [if_neg (by simpa using h8)]
        rw [if_neg (by decide)]
        refine wpAny_bind (lookup_text hm ht fun tk2 => ?_)
        dsimp only
        refine wpAny_pure (wpAny_pure ?_)
        dsimp only
        refine wp_tooLong (by simp [Str.length]) ?_
        refine wpAny_bind (wpAny_mkStr ?_ (by simp [Str.length, sizeLine]))
        refine wpAny_pure ?_
        rw [← he]
        exact ⟨_, congrArg (fun z => PySem.Fin.done (.ret (.str z _))) (fold1 _), h s.heap _ _ (Sub.refl _)⟩
    | false => 
      have ht := f38_no hc hs
      have he : escS c = ⟨#[c]⟩ := by unfold escS; rw [hs]; rfl
      by_cases h8 : c < 128
      · rw [if_pos (decide_eq_true h8)]
        refine wpAny_bind (lookup_keep hh hm ht fun h1 tk1 k1 => ?_)
        dsimp only
        refine wpAny_bind (wpAny_pure ?_)
        dsimp only
        refine wpAny_pure (wpAny_pure ?_)
        dsimp only
        refine wp_tooLong (by simp [Str.length]) ?_
        refine wpAny_bind (wpAny_mkStr ?_ (by simp [Str.length, sizeLine]))
        refine wpAny_pure ?_
        rw [← he]
        exact ⟨_, congrArg (fun z => PySem.Fin.done (.ret (.str z _))) (fold1 _), h _ _ _ (Sub.of_keeps k1)⟩
      · rw [if_neg (by simpa using h8)]
        rw [if_neg (by decide)]
        refine wpAny_bind (lookup_keep hh hm ht fun h1 tk1 k1 => ?_)
        dsimp only
        refine wpAny_pure (wpAny_pure ?_)
        dsimp only
        refine wp_tooLong (by simp [Str.length]) ?_
        refine wpAny_bind (wpAny_mkStr ?_ (by simp [Str.length, sizeLine]))
        refine wpAny_pure ?_
        rw [← he]
        exact ⟨_, congrArg (fun z => PySem.Fin.done (.ret (.str z _))) (fold1 _), h _ _ _ (Sub.of_keeps k1)⟩
  run_tac Mine.Sh.fin
end
end

section -- D7
set_option autoImplicit true
theorem gm_translate {M : Model} {A : Around} {E : Value → Shared → Prop} {s : Shared} {x : Str} {t : Tok} {pl : Sem Bool} {Q : Value × List Value → Shared → Prop} (h : Q (.builtin "str.translate", [.str x t]) s) : wpAny M A (getMethod (.str x t) "translate" pl) Q E s := by
  with_reducible exact GM.of (.str x t) (typeIs_str _ _ _) F.slot_str_translate F.type_str_translate GM.noRef h
local macro_rules | `(tactic| walk_at $k) => Mine.Tx.look k.getString "getMethod str ==> with_reducible refine gm_translate ?_
call builtin:str.translate ==> (k_here; (k_dflt (refine' str_translate ?hc ?hh ?X ?_; (case hc => with_reducible assumption); (case hh => exact rfl); (case X => exact Frag.In.keeps (by assumption) (Fr.keep (by assumption))); k_whole)); intro h' tk' t' S'; (have F' := call_fr (by with_reducible assumption) S'); (have N' := call_news (by with_reducible assumption) (by with_reducible assumption) S' Fresh.nil); (try simp only [List.cons_append, List.nil_append] at N'); (try dsimp only))"
theorem law_escape (w : World) (loose : List Str) (mean : ExcName → Option Value) (mg mb : Str → Option Value)
   (dp un : Nat) (fr : Option (List Env)) (gd : Option (List Code)) (s : Shared) (Q E : Value → Shared → Prop)
   (c : Nat) (t1 : Tok) (hc : c < 256)
   (X : (Mine.hd.heap_39 w.params).In s.heap) (T : Top topProg loose mean mg mb s.heap)
   (hd : dp + 10 < recursionLimit) (hu : un + 80 < cLine)
   (hret : ∀ t' h' tk', Sub s.heap h' → Q (.str (escS c) t') { s with heap := h', toks := tk' }) :
   wpAny (model prg w) (TP dp un fr gd) (call (.ref 48) [.str (S1 c) t1]) Q E s := by
  run_tac Mine.Sh.mark
  focus
    obtain ⟨hp, gn, dr, tk, os⟩ := s
    dsimp only at X T hret ⊢
    tb_start
    k_steps
    exact hret _ _ _ (Sub.of (by assumption))
  run_tac Mine.Sh.fin
end

section -- D8
set_option autoImplicit true
theorem div_two {p m a t u : Int} (hp : 0 < p) (e : p * m = a) : (a * t + u) / p = u / p + m * t := by
  rw [← e, Int.mul_assoc, Int.add_comm, Int.add_mul_ediv_left _ _ (Int.ne_of_gt hp)]
theorem div_lt {p m u : Int} (hp : 0 < p) (e : p * m = 256) (u1 : u ≤ 255) : u / p < m := by
  refine Int.ediv_lt_of_lt_mul hp ?_
  rw [Int.mul_comm, e]; exact Int.lt_of_le_of_lt u1 (by decide)
theorem oct_fact {n x : Int} (m : Int) (hn : 0 < n) (e : n * m = 256) (h0 : 0 ≤ x) (h1 : x ≤ 255) :
    0 ≤ x.fmod n ∧ x.fmod n < n ∧ x.fmod n ≤ x ∧ x - x.fmod n + n ≤ 256 := by
  run_tac Mine.Sh.mark
  focus
    have hx : x.fmod n = x % n := Int.fmod_eq_emod_of_nonneg _ (Int.le_of_lt hn)
    have hd := Int.mul_ediv_add_emod x n
    have h2 := Int.emod_nonneg x (Int.ne_of_gt hn)
    have h3 := Int.emod_lt_of_pos x hn
    have h4 : 0 ≤ n * (x / n) := Int.mul_nonneg (Int.le_of_lt hn) (Int.ediv_nonneg h0 (Int.le_of_lt hn))
    have h5 := Int.mul_le_mul_of_nonneg_left (Int.add_one_le_of_lt (div_lt hn e h1)) (Int.le_of_lt hn)
    rw [Int.mul_add, Int.mul_one, e] at h5
    rw [hx]
    omega
  run_tac Mine.Sh.fin
theorem octFacts (b x : Int) (h0 : 0 ≤ x) (h1 : x ≤ 255) : b ≤ 0 ∨ 8 ≤ b ∨ (2 ≤ (2:Int) ^ (8 - b).toNat ∧ (2:Int) ^ (8 - b).toNat ≤ 128 ∧ 0 ≤ x.fmod (2 ^ (8 - b).toNat) ∧ x.fmod (2 ^ (8 - b).toNat) < 2 ^ (8 - b).toNat ∧ x.fmod (2 ^ (8 - b).toNat) ≤ x ∧ x - x.fmod (2 ^ (8 - b).toNat) + 2 ^ (8 - b).toNat ≤ 256) := by
  run_tac Mine.Sh.mark
  focus
    by_cases hb : b ≤ 0
    · exact .inl hb
    by_cases hc : 8 ≤ b
    · exact .inr (.inl hc)
    refine .inr (.inr ?_)
    have : b = 1 ∨ b = 2 ∨ b = 3 ∨ b = 4 ∨ b = 5 ∨ b = 6 ∨ b = 7 := by omega
    rcases this with rfl | rfl | rfl | rfl | rfl | rfl | rfl
    · exact ⟨by decide, by decide, oct_fact 2 (by decide) (by decide) h0 h1⟩
    · exact ⟨by decide, by decide, oct_fact 4 (by decide) (by decide) h0 h1⟩
    · exact ⟨by decide, by decide, oct_fact 8 (by decide) (by decide) h0 h1⟩
    · exact ⟨by decide, by decide, oct_fact 16 (by decide) (by decide) h0 h1⟩
    · exact ⟨by decide, by decide, oct_fact 32 (by decide) (by decide) h0 h1⟩
    · exact ⟨by decide, by decide, oct_fact 64 (by decide) (by decide) h0 h1⟩
    · exact ⟨by decide, by decide, oct_fact 128 (by decide) (by decide) h0 h1⟩
  run_tac Mine.Sh.fin
noncomputable def octPat (b x : Int) : Str :=
  if 8 ≤ b then (if (Builtin.Str.occurrences (Str.ofString "*?[") ⟨#[x.toNat]⟩ 0 (Str.ofString "*?[").length 1).isEmpty = true then ⟨#[x.toNat]⟩ else Str.ofString "[" ++ ⟨#[x.toNat]⟩ ++ Str.ofString "]")
  else if b ≤ 0 then Str.ofString "?"
  else if x - x.fmod (2 ^ (8 - b).toNat) + 2 ^ (8 - b).toNat - 1 = 93 then Str.ofString "[]\\]"
  else Str.ofString "[" ++ ⟨#[(x - x.fmod (2 ^ (8 - b).toNat)).toNat]⟩ ++ Str.ofString "-" ++ ⟨#[(x - x.fmod (2 ^ (8 - b).toNat) + 2 ^ (8 - b).toNat - 1).toNat]⟩ ++ Str.ofString "]"
end

section -- C3
set_option autoImplicit true
theorem sb1_ne {a b : Nat} (h : a ≠ b) : (S1 a == S1 b) = false := by rw [sb1]; exact decide_eq_false h
theorem ite_isTrue {b : Bool} {p q : Prop} (h : b = true) (hp : p) : if b = true then p else q := by rw [h]; exact hp
local macro_rules | `(tactic| walk_at $k) => Mine.Tx.look k.getString "ite ==> (k_here; k_extra \"ite\")
subscriptTail Name Constant str int ==> (k_here; refine item_str (by decide) (by omega) (by omega) ?_; intro _; (try k_extra \"fact\"))
subscriptTail Name UnaryOp str int ==> (k_here; refine item_str (by decide) (by omega) (by omega) ?_; intro _; (try k_extra \"fact\"))
subscriptTail Name Slice str ref ==> (k_here; (with_reducible show wpAny _ _ (subscriptTail _ (Expr.Slice (some _) (some _) none _) _ _) _ _ _); (with_reducible rename Fr _ _ _ _ => F'); (with_reducible rename News _ _ _ _ => N'); (refine slice_strN_ss (hsz := ?hsz) (s := ⟨_, _, _, _, _⟩) F' N' ?_); (case hsz => size_fits); intro _ _ _ _ _; (try k_extra \"fact\"))
exec While Compare ==> (k_here; k_dflt (refine whl_start 100 ?_))
WhlIf ==> (k_here; k_extra \"whl\")
call ref ==> (k_here; (with_reducible show wpAny _ _ (call (Value.ref 113) _) _ _ _); (k_dflt (refine' law_sign _ _ _ _ _ _ _ _ _ _ _ _ _ _ _ _ _ _ ?hx ?h0 ?h1 ?h2 ?X ?T ?hd ?hu ?_; (case hx => with_reducible assumption); (case h0 => omega); (case h1 => omega); (case h2 => omega); (case X => exact Frag.In.keeps (by assumption) (Fr.keep (by assumption))); (case T => exact Top.keeps (by assumption) (Fr.keep (by assumption))); (case hd => ((try dsimp only); omega)); (case hu => ((try dsimp only); omega)); k_whole)); intro a' t3' t4' h' tk' S' W'; (have l1 := ne_one W' (by with_reducible assumption)); (simp only [NeAll, and_true] at l1); (have F' := call_fr (by with_reducible assumption) S'); (have N' := call_news (by with_reducible assumption) (by with_reducible assumption) S' W'); (try simp only [List.cons_append, List.nil_append] at N'); (try dsimp only))"
inductive PairVals (seg : List (Addr × Obj)) : List Value → List (Int × Int) → Prop
  | nil : PairVals seg [] []
  | cons {t : Addr} {p q : Int} {t1 t2 : Tok} {vs : List Value} {ps : List (Int × Int)} : (t, tupO [.int p t1, .int q t2]) ∈ seg → PairVals seg vs ps → PairVals seg (.ref t :: vs) ((p, q) :: ps)
noncomputable def PairsIn (seg : List (Addr × Obj)) (v : Value) (ps : List (Int × Int)) : Prop := ∃ a vs n, v = .ref a ∧ (a, listOf vs.toArray n) ∈ seg ∧ PairVals seg vs ps
theorem codes_range (w : World) (loose : List Str) (mean : ExcName → Option Value) (mg mb : Str → Option Value)
   (dp un : Nat) (fr : Option (List Env)) (gd : Option (List Code)) (s : Shared) (Q E : Value → Shared → Prop)
   (P B : Str) (a b : Nat) (n k : Nat) (q : Int) (tk : Tok)
   (hP : P.length = n) (hn : 3 ≤ n ∧ n ≤ 9) (p0 : Txt.item P 0 = S1 91) (p1 : (Txt.item P 1 == Str.ofString "^") = false) (p2 : Txt.item P (-1) = S1 93)
   (pd : (P == Str.ofString ".") = false) (pb : Txt.slice P (some 1) (some (-1)) = B) (hB : B.length = k) (hk : 0 < k ∧ k ≤ 9)
   (s1 : signAt B 0 = (S1 a, q)) (hq : 0 < q ∧ q < 9) (s2 : (Txt.slice B (some q) (some (q + 1)) == Str.ofString "-") = true) (s3 : signAt B (q + 1) = (S1 b, (k : Int)))
   (X : (Mine.hd.heap_39 w.params).In s.heap) (T : Top topProg loose mean mg mb s.heap)
   (hd : dp + 20 < recursionLimit) (hu : un + 160 < cLine)
   (hret : ∀ (v : Value) (nw : List (Addr × Obj)) (h' : Heap) (tk' : Nat), Sub s.heap h' → Fresh s.heap h' nw → PairsIn nw v [((a : Int), (b : Int))] → Q v { s with heap := h', toks := tk' }) :
   wpAny (model prg w) (TP dp un fr gd) (call (.ref 120) [.str P tk]) Q E s := by
  run_tac Mine.Sh.mark
  focus
    obtain ⟨hp, gn, dr, tk, os⟩ := s
    dsimp only at X T hret ⊢
    k_with_none
    k_with "fact" => simp only [p0, p2, pb]
    k_with "ite" => first
      | refine ite_isFalse (by with_reducible assumption) ?_
      | refine ite_isTrue (by with_reducible assumption) ?_
      | refine ite_isTrue (by kernel_rfl!) ?_
      | refine ite_isFalse (by kernel_rfl!) ?_
      | refine ite_isTrue (decide_eq_true (by omega)) ?_
      | refine ite_isFalse (decide_eq_false (by omega)) ?_
    k_with "whl" => first
      | refine WhlIf.yes (by with_reducible assumption) ?_
      | refine WhlIf.no (by with_reducible assumption) ?_
      | refine WhlIf.yes (by kernel_rfl!) ?_
      | refine WhlIf.no (by kernel_rfl!) ?_
      | refine WhlIf.yes (decide_eq_true (by omega)) ?_
      | refine WhlIf.no (decide_eq_false (by omega)) ?_
    tb_start
    k_steps
    exact hret _ _ _ _ (Sub.of (by assumption)) (Fresh.of (by assumption)) ⟨_, [_], _, rfl, by k_mem, .cons (by k_mem) .nil⟩
  run_tac Mine.Sh.fin
theorem codes_dot (w : World) (loose : List Str) (mean : ExcName → Option Value) (mg mb : Str → Option Value)
   (dp un : Nat) (fr : Option (List Env)) (gd : Option (List Code)) (s : Shared) (Q E : Value → Shared → Prop)
   (P : Str) (tk : Tok) (pd : (P == Str.ofString ".") = true)
   (X : (Mine.hd.heap_39 w.params).In s.heap) (T : Top topProg loose mean mg mb s.heap)
   (hd : dp + 20 < recursionLimit) (hu : un + 160 < cLine)
   (hret : ∀ (v : Value) (nw : List (Addr × Obj)) (h' : Heap) (tk' : Nat), Sub s.heap h' → Fresh s.heap h' nw → PairsIn nw v [(0, 255)] → Q v { s with heap := h', toks := tk' }) :
   wpAny (model prg w) (TP dp un fr gd) (call (.ref 120) [.str P tk]) Q E s := by
  run_tac Mine.Sh.mark
  focus
    obtain ⟨hp, gn, dr, tk, os⟩ := s
    dsimp only at X T hret ⊢
    k_with_none
    k_with "fact" => simp only [pd]
    k_with "ite" => first
      | refine ite_isFalse (by with_reducible assumption) ?_
      | refine ite_isTrue (by with_reducible assumption) ?_
      | refine ite_isTrue (by kernel_rfl!) ?_
      | refine ite_isFalse (by kernel_rfl!) ?_
      | refine ite_isTrue (decide_eq_true (by omega)) ?_
      | refine ite_isFalse (decide_eq_false (by omega)) ?_
    k_with "whl" => first
      | refine WhlIf.yes (by with_reducible assumption) ?_
      | refine WhlIf.no (by with_reducible assumption) ?_
      | refine WhlIf.yes (by kernel_rfl!) ?_
      | refine WhlIf.no (by kernel_rfl!) ?_
      | refine WhlIf.yes (decide_eq_true (by omega)) ?_
      | refine WhlIf.no (decide_eq_false (by omega)) ?_
    tb_start
    k_steps
    exact hret _ _ _ _ (Sub.of (by assumption)) (Fresh.of (by assumption)) ⟨_, [_], _, rfl, by k_mem, .cons (by k_mem) .nil⟩
  run_tac Mine.Sh.fin
theorem codes_plain (w : World) (loose : List Str) (mean : ExcName → Option Value) (mg mb : Str → Option Value)
   (dp un : Nat) (fr : Option (List Env)) (gd : Option (List Code)) (s : Shared) (Q E : Value → Shared → Prop)
   (c : Nat) (tk : Tok) (pd : (S1 c == Str.ofString ".") = false) (pn : (Builtin.Str.occurrences (Str.ofString "^$*+?{}[]()|\\") (S1 c) 0 (Str.ofString "^$*+?{}[]()|\\").length 1).isEmpty = true)
   (X : (Mine.hd.heap_39 w.params).In s.heap) (T : Top topProg loose mean mg mb s.heap)
   (hd : dp + 20 < recursionLimit) (hu : un + 160 < cLine)
   (hret : ∀ (v : Value) (nw : List (Addr × Obj)) (h' : Heap) (tk' : Nat), Sub s.heap h' → Fresh s.heap h' nw → PairsIn nw v [((c : Int), (c : Int))] → Q v { s with heap := h', toks := tk' }) :
   wpAny (model prg w) (TP dp un fr gd) (call (.ref 120) [.str (S1 c) tk]) Q E s := by
  run_tac Mine.Sh.mark
  focus
    obtain ⟨hp, gn, dr, tk, os⟩ := s
    dsimp only at X T hret ⊢
    k_with_none
    k_with "fact" => simp only [pd]
    k_with "ite" => first
      | refine ite_isFalse (by with_reducible assumption) ?_
      | refine ite_isTrue (by with_reducible assumption) ?_
      | refine ite_isTrue (by kernel_rfl!) ?_
      | refine ite_isFalse (by kernel_rfl!) ?_
      | refine ite_isTrue (decide_eq_true (by omega)) ?_
      | refine ite_isFalse (decide_eq_false (by omega)) ?_
    k_with "whl" => first
      | refine WhlIf.yes (by with_reducible assumption) ?_
      | refine WhlIf.no (by with_reducible assumption) ?_
      | refine WhlIf.yes (by kernel_rfl!) ?_
      | refine WhlIf.no (by kernel_rfl!) ?_
      | refine WhlIf.yes (decide_eq_true (by omega)) ?_
      | refine WhlIf.no (decide_eq_false (by omega)) ?_
    tb_start
    k_steps
    exact hret _ _ _ _ (Sub.of (by assumption)) (Fresh.of (by assumption)) ⟨_, [_], _, rfl, by k_mem, .cons (by k_mem) .nil⟩
  run_tac Mine.Sh.fin
theorem codes_esc (w : World) (loose : List Str) (mean : ExcName → Option Value) (mg mb : Str → Option Value)
   (dp un : Nat) (fr : Option (List Env)) (gd : Option (List Code)) (s : Shared) (Q E : Value → Shared → Prop)
   (P : Str) (c : Nat) (tk : Tok) (hP : P.length = 2) (pd : (P == Str.ofString ".") = false) (p0 : Txt.item P 0 = S1 92) (p1 : Txt.item P 1 = S1 c) (pa : Txt.isalnum (S1 c) = false)
   (X : (Mine.hd.heap_39 w.params).In s.heap) (T : Top topProg loose mean mg mb s.heap)
   (hd : dp + 20 < recursionLimit) (hu : un + 160 < cLine)
   (hret : ∀ (v : Value) (nw : List (Addr × Obj)) (h' : Heap) (tk' : Nat), Sub s.heap h' → Fresh s.heap h' nw → PairsIn nw v [((c : Int), (c : Int))] → Q v { s with heap := h', toks := tk' }) :
   wpAny (model prg w) (TP dp un fr gd) (call (.ref 120) [.str P tk]) Q E s := by
  run_tac Mine.Sh.mark
  focus
    obtain ⟨hp, gn, dr, tk, os⟩ := s
    dsimp only at X T hret ⊢
    k_with_none
    k_with "fact" => simp only [p0, p1]
    k_with "ite" => first
      | refine ite_isFalse (by with_reducible assumption) ?_
      | refine ite_isTrue (by with_reducible assumption) ?_
      | refine ite_isTrue (by kernel_rfl!) ?_
      | refine ite_isFalse (by kernel_rfl!) ?_
      | refine ite_isTrue (decide_eq_true (by omega)) ?_
      | refine ite_isFalse (decide_eq_false (by omega)) ?_
    k_with "whl" => first
      | refine WhlIf.yes (by with_reducible assumption) ?_
      | refine WhlIf.no (by with_reducible assumption) ?_
      | refine WhlIf.yes (by kernel_rfl!) ?_
      | refine WhlIf.no (by kernel_rfl!) ?_
      | refine WhlIf.yes (decide_eq_true (by omega)) ?_
      | refine WhlIf.no (decide_eq_false (by omega)) ?_
    tb_start
    k_steps
    exact hret _ _ _ _ (Sub.of (by assumption)) (Fresh.of (by assumption)) ⟨_, [_], _, rfl, by k_mem, .cons (by k_mem) .nil⟩
  run_tac Mine.Sh.fin
theorem codes_one (w : World) (loose : List Str) (mean : ExcName → Option Value) (mg mb : Str → Option Value)
   (dp un : Nat) (fr : Option (List Env)) (gd : Option (List Code)) (s : Shared) (Q E : Value → Shared → Prop)
   (P B : Str) (a : Nat) (n k : Nat) (tk : Tok)
   (hP : P.length = n) (hn : 3 ≤ n ∧ n ≤ 9) (p0 : Txt.item P 0 = S1 91) (p1 : (Txt.item P 1 == Str.ofString "^") = false) (p2 : Txt.item P (-1) = S1 93)
   (pd : (P == Str.ofString ".") = false) (pb : Txt.slice P (some 1) (some (-1)) = B) (hB : B.length = k) (hk : 0 < k ∧ k ≤ 9)
   (s1 : signAt B 0 = (S1 a, (k : Int))) (s2 : (Txt.slice B (some (k : Int)) (some ((k : Int) + 1)) == Str.ofString "-") = false)
   (X : (Mine.hd.heap_39 w.params).In s.heap) (T : Top topProg loose mean mg mb s.heap)
   (hd : dp + 20 < recursionLimit) (hu : un + 160 < cLine)
   (hret : ∀ (v : Value) (nw : List (Addr × Obj)) (h' : Heap) (tk' : Nat), Sub s.heap h' → Fresh s.heap h' nw → PairsIn nw v [((a : Int), (a : Int))] → Q v { s with heap := h', toks := tk' }) :
   wpAny (model prg w) (TP dp un fr gd) (call (.ref 120) [.str P tk]) Q E s := by
  run_tac Mine.Sh.mark
  focus
    obtain ⟨hp, gn, dr, tk, os⟩ := s
    dsimp only at X T hret ⊢
    k_with_none
    k_with "fact" => simp only [p0, p2, pb]
    k_with "ite" => first
      | refine ite_isFalse (by with_reducible assumption) ?_
      | refine ite_isTrue (by with_reducible assumption) ?_
      | refine ite_isTrue (by kernel_rfl!) ?_
      | refine ite_isFalse (by kernel_rfl!) ?_
      | refine ite_isTrue (decide_eq_true (by omega)) ?_
      | refine ite_isFalse (decide_eq_false (by omega)) ?_
    k_with "whl" => first
      | refine WhlIf.yes (by with_reducible assumption) ?_
      | refine WhlIf.no (by with_reducible assumption) ?_
      | refine WhlIf.yes (by kernel_rfl!) ?_
      | refine WhlIf.no (by kernel_rfl!) ?_
      | refine WhlIf.yes (decide_eq_true (by omega)) ?_
      | refine WhlIf.no (decide_eq_false (by omega)) ?_
    tb_start
    k_steps
    exact hret _ _ _ _ (Sub.of (by assumption)) (Fresh.of (by assumption)) ⟨_, [_], _, rfl, by k_mem, .cons (by k_mem) .nil⟩
  run_tac Mine.Sh.fin
theorem codes_two (w : World) (loose : List Str) (mean : ExcName → Option Value) (mg mb : Str → Option Value)
   (dp un : Nat) (fr : Option (List Env)) (gd : Option (List Code)) (s : Shared) (Q E : Value → Shared → Prop)
   (P B : Str) (a b : Nat) (n k : Nat) (q : Int) (tk : Tok)
   (hP : P.length = n) (hn : 3 ≤ n ∧ n ≤ 9) (p0 : Txt.item P 0 = S1 91) (p1 : (Txt.item P 1 == Str.ofString "^") = false) (p2 : Txt.item P (-1) = S1 93)
   (pd : (P == Str.ofString ".") = false) (pb : Txt.slice P (some 1) (some (-1)) = B) (hB : B.length = k) (hk : 0 < k ∧ k ≤ 9) (hq : 0 < q ∧ q < (k : Int))
   (s1 : signAt B 0 = (S1 a, q)) (s2 : (Txt.slice B (some q) (some (q + 1)) == Str.ofString "-") = false)
   (s3 : signAt B q = (S1 b, (k : Int))) (s4 : (Txt.slice B (some (k : Int)) (some ((k : Int) + 1)) == Str.ofString "-") = false)
   (X : (Mine.hd.heap_39 w.params).In s.heap) (T : Top topProg loose mean mg mb s.heap)
   (hd : dp + 20 < recursionLimit) (hu : un + 160 < cLine)
   (hret : ∀ (v : Value) (nw : List (Addr × Obj)) (h' : Heap) (tk' : Nat), Sub s.heap h' → Fresh s.heap h' nw → PairsIn nw v [((a : Int), (a : Int)), ((b : Int), (b : Int))] → Q v { s with heap := h', toks := tk' }) :
   wpAny (model prg w) (TP dp un fr gd) (call (.ref 120) [.str P tk]) Q E s := by
  run_tac Mine.Sh.mark
  focus
    obtain ⟨hp, gn, dr, tk, os⟩ := s
    dsimp only at X T hret ⊢
    k_with_none
    k_with "fact" => simp only [p0, p2, pb]
    k_with "ite" => first
      | refine ite_isFalse (by with_reducible assumption) ?_
      | refine ite_isTrue (by with_reducible assumption) ?_
      | refine ite_isTrue (by kernel_rfl!) ?_
      | refine ite_isFalse (by kernel_rfl!) ?_
      | refine ite_isTrue (decide_eq_true (by omega)) ?_
      | refine ite_isFalse (decide_eq_false (by omega)) ?_
    k_with "whl" => first
      | refine WhlIf.yes (by with_reducible assumption) ?_
      | refine WhlIf.no (by with_reducible assumption) ?_
      | refine WhlIf.yes (by kernel_rfl!) ?_
      | refine WhlIf.no (by kernel_rfl!) ?_
      | refine WhlIf.yes (decide_eq_true (by omega)) ?_
      | refine WhlIf.no (decide_eq_false (by omega)) ?_
    tb_start
    k_steps
    exact hret _ _ _ _ (Sub.of (by assumption)) (Fresh.of (by assumption)) ⟨_, [_, _], _, rfl, by k_mem, .cons (by k_mem) (.cons (by k_mem) .nil)⟩
  run_tac Mine.Sh.fin
end

section -- F1
set_option autoImplicit true
noncomputable def boundApp (l : Addr) : Obj := { cls := .type "builtin_function_or_method", data := .fields #[.builtin "list.append", .ref l] }
theorem hkA : builtinKind "list.append" = some .method := by kernel_rfl!
theorem slot_mget : Slot "method_descriptor" "__get__" "method_descriptor.__get__" :=
  .of (owner := "method_descriptor") (n := "__get__") (by rw [typeLookup_type, builtinLookup_eq_fast]; kernel_rfl!) (by decide +kernel) (by decide +kernel) (by decide +kernel)
    (by first | exact .inl (by decide +kernel) | exact .inr (by decide +kernel)) (by rw [isSubtype_type]; kernel_rfl!)
theorem md_set : typeLookup (.type "method_descriptor") (Str.ofString "__set__") = pure none := by rw [typeLookup_type, builtinLookup_eq_fast]; kernel_rfl!
theorem md_del : typeLookup (.type "method_descriptor") (Str.ofString "__delete__") = pure none := by rw [typeLookup_type, builtinLookup_eq_fast]; kernel_rfl!
theorem entry_mget : entryFor table "method_descriptor.__get__" = some Builtin.«method_descriptor.__get__» := entryFor_of_tree (by kernel_rfl!)
theorem args_mget (a b : Value) : argsOk "method_descriptor.__get__" ⟨[.builtin "list.append", a, b], []⟩ := by unfold argsOk; kernel_rfl!
theorem run_mget {prog : Program} {w : World} {A : Around} {E : Value → Shared → Prop} {s : Shared} {a : Addr} {P : PySem.Fin → Shared → Prop} (hT : s.TypeIs (.ref a) "list") (h : True → P (.done (.ret (.ref s.heap.objs.size))) { s with heap := s.heap.push (boundApp a) }) :
    wpAny (model prog w) A (Builtin.«method_descriptor.__get__» ⟨[.builtin "list.append", .ref a, .type "list"], []⟩) P E s := by
  run_tac Mine.Sh.mark
  focus
    unfold Builtin.«method_descriptor.__get__»
    refine wpAny_bind (wpAny_of_eq (a := (.builtin "list.append", some (.ref a), some (.type "list"))) (by first | rfl | kernel_rfl!) ?_)
    dsimp only
    rw [if_neg (show ¬ Manifest.toldItsClass.contains "list.append" = true by decide +kernel)]
    refine wpAny_bind ?_
    refine wpAny_bind (wpAny_of_eq (a := (Str.ofString "append", .type "list")) (by kernel_rfl!) ?_)
    dsimp only
    refine wpAny_bind (wpAny_isInstance (T := "list") (b := true) hT (by rw [isSubtype_type]; kernel_rfl!) ?_)
    refine KFB.if_not rfl ?_
    refine wpAny_pure ?_
    exact wpAny_bind (wpAny_newObj_type (wpAny_pure (h trivial)))
  run_tac Mine.Sh.fin
theorem ga_list_append (a : Addr) (xs : Array Value) (k : Nat) (sl : Array (Option Value)) (u : Tok) :
    Meets (Builtin.«object.__getattribute__» ⟨[.ref a, .str (Str.ofString "append") u], []⟩) (fun A R s => s.heap.get? a = some { cls := .type "list", dict := none, data := .seq xs k, slots := sl } ∧ ∀ tk', R (.ok (.ret (.ref s.heap.objs.size))) { s with heap := s.heap.push (boundApp a), toks := tk' }) :=
  Meets.of_wp fun prog w A R s hs => by
    obtain ⟨hp, g, d, tk, os⟩ := s
    obtain ⟨hx, hs⟩ := hs
    have hT : (⟨hp, g, d, tk, os⟩ : Shared).TypeIs (.ref a) "list" := ⟨_, hx, rfl⟩
    have f1 := PySem.F.slot_list_append
    have f3 := PySem.F.slot_list_append.lookup
    have f4 := PySem.F.slot_list_append.bind (.ref a)
    unfold Builtin.«object.__getattribute__»
    repeat (any_goals (first | assumption | wp_step))
    rw [hkA]
    dsimp only
    refine wpAny_of_eq (slot_mget.lookup) ?_
    repeat (any_goals (first | assumption | wp_step))
    rw [hkA]
    dsimp only
    refine wpAny_of_eq md_set ?_
    repeat (any_goals (first | assumption | wp_step))
    rw [hkA]
    dsimp only
    refine wpAny_of_eq md_del ?_
    repeat (any_goals (first | assumption | wp_step))
    refine codeAny_call_builtin slot_mget.plain entry_mget (slot_mget.check _ _ _ _ _ _ _ _ PySem.F.type_list_append (args_mget _ _) ?_)
    refine run_mget hT fun h' => ?_
    exact wpAny_pure ⟨_, rfl, hs _⟩
theorem ga_append {prog : Program} {w : World} {A : Around} {E : Value → Shared → Prop} {s : Shared} {a : Addr} {o : Obj} {xs : Array Value} {k : Nat} {Q : Value → Shared → Prop}
    (hx : s.heap.get? a = some (listOf xs k))
    (h : ∀ tk', Q (.ref s.heap.objs.size) { s with heap := s.heap.push (boundApp a), toks := tk' }) :
    wpAny (model prog w) A (getAttr (.ref a) (Str.ofString "append") true) Q E s := by
  run_tac Mine.Sh.mark
  focus
    obtain ⟨hp, g, d, tk, os⟩ := s
    have hT : ∀ tk', (⟨hp, g, d, tk', os⟩ : Shared).TypeIs (.ref a) "list" := fun _ => ⟨_, hx, rfl⟩
    have f3 := PySem.F.slot_list_getattribute.lookup
    have f4 := PySem.F.slot_list_getattribute.bind (.ref a)
    have f5 := am_list_getattr_none
    unfold getAttr getAttrBy
    repeat (any_goals (first | assumption | exact hT _ | ((with_reducible show wpAny _ _ (call (Value.builtin "list.__getattribute__") _ _) _ _ _); refine call_meets PySem.F.slot_list_getattribute (hT _) am_entry_list_getattribute (PySem.F.args_list_getattribute_2 _ _) (ga_list_append a xs k _ _) ⟨hx, fun tk' => ?_⟩) | wp_step))
    exact handed_on rfl (h _)
  run_tac Mine.Sh.fin
section
variable {prog : Program} {w : World} {M : Model} {A : Around} {E : Value → Shared → Prop} {s : Shared} {h₀ : Heap} {L : Addr} {m : PySem.Str → Option Value} {news news' : List (Addr × Obj)}
theorem getattr_app {l : Addr} {its : Array Value} {n : Nat} {Q : Value → Shared → Prop} (F : Fr h₀ L s.heap m) (N : News h₀ L s.heap news) (hl : (l, listOf its n) ∈ news)
    (h : ∀ x h' tk', Fr h₀ L h' m → News h₀ L h' ((x, boundApp l) :: news) → (∀ p ∈ news, p.1 < x) → Q (.ref x) { s with heap := h', toks := tk' }) :
    wpAny (model prog w) A (getAttr (.ref l) (Str.ofString "append") true) Q E s :=
  ga_append (o := listOf its n) (N _ hl).1 fun tk' => h _ _ _ (F.push _) (News.push F N _) fun p hp => Heap.lt_size (N p hp).1
noncomputable def AppAt (u l : Addr) (h : Heap) : Prop := h.get? u = some (boundApp l)
theorem appAt_of {u l : Addr} {h : Heap} (N : News h₀ L h news) (hm : (u, boundApp l) ∈ news) : AppAt u l h := N.get hm
theorem callWith_appF {pos : Pos} {u l : Addr} {first : List Value} {args : List (Bool × Sem Value)} {Q : Value → Shared → Prop} (hplain : args.any (·.1) = false)
    (h : wpAny M A (evalArgs (.ref u) true args []) (fun x s₁ => AppAt u l s₁.heap ∧ wpAny M A (call (.ref u) (first ++ x.pos) x.kw) Q E s₁) E s) : wpAny M A (callWith pos (.ref u) first args []) Q E s := by
  run_tac Mine.Sh.mark
  focus
    unfold callWith
    refine wpAny_bind (wpAny_holding (wpAny_mono h (fun x s₁ h₁ => wpAny_bind (wpAny_standAt ?_)) fun _ _ x => x))
    obtain ⟨ho, hcall⟩ := h₁
    simp only [hplain, List.any_nil, Bool.or_false]
    refine wpAny_bind (m := keeperOf (.ref u)) ?_
    unfold keeperOf
    refine wpAny_bind (wpAny_load ho ?_)
    simp only [boundApp, show (Value.type "builtin_function_or_method" != Value.type "method") = true by decide, show (Value.type "builtin_function_or_method" == Value.type "builtin_function_or_method" || Value.type "builtin_function_or_method" == Value.type "method-wrapper") = true by decide, if_true]
    refine wpAny_pure ?_
    exact wpAny_bind (wpAny_mono hcall (fun r s₂ hr => wpAny_bind (wpAny_holding (wpAny_point (wpAny_pure hr)))) fun _ _ x => x)
  run_tac Mine.Sh.fin
theorem callWith_app {pos : Pos} {u l : Addr} {first : List Value} {env : Env} {e : Expr} {rest : List Expr} {Q : Value → Shared → Prop} (_N : News h₀ L s.heap news) (_hm : (u, boundApp l) ∈ news)
    (h : wpAny M A (spliced (backTo pos (starEach (e :: rest) env))) (fun vs s₁ => AppAt u l s₁.heap ∧ wpAny M A (call (.ref u) (first ++ vs)) Q E s₁) E s)
    (he : starEach (e :: rest) env = (false, eval e env) :: starEach rest env := by rfl) (hplain : (backTo pos (starEach rest env)).any (·.1) = false := by rfl) :
    wpAny M A (callWith pos (.ref u) first (backTo pos (starEach (e :: rest) env)) []) Q E s := by
  run_tac Mine.Sh.mark
  focus
    rw [he] at h ⊢
    refine callWith_appF (l := l) (by show (false || (backTo pos (starEach rest env)).any (·.1)) = false; rw [hplain]; rfl) ?_
    exact evalArgs_plain h
  run_tac Mine.Sh.fin
theorem sig_app (l : Addr) (v : Value) : ∃ sig, Manifest.signature? "list.append" = some sig ∧ Bind.checkArgs "list.append" { sig with full := s!"{Bind.lastOf "list"}.{Bind.lastOf "list.append"}" } ⟨[.ref l, v], []⟩ = pure () :=
  ⟨(Manifest.signature? "list.append").get (by decide +kernel), (Option.some_get _).symm, by kernel_rfl!⟩
theorem check_app {l : Addr} {v : Value} {Q : Unit → Shared → Prop} {its : Array Value} {n : Nat} (hx : s.heap.get? l = some (listOf its n)) (h : Q () s) : wpAny M A (checkBoundCall "list.append" ⟨[.ref l, v], []⟩) Q E s := by
  run_tac Mine.Sh.mark
  focus
    obtain ⟨sig, e1, e2⟩ := sig_app l v
    unfold checkBoundCall
    rw [e1, hkA]
    dsimp only
    refine KFB.if_not (by decide) ?_
    refine wpAny_bind (wpAny_isInstance (T := "list") (b := false) ⟨_, hx, rfl⟩ (by rw [isSubtype_type]; kernel_rfl!) ?_)
    refine KFB.if_not (by decide +kernel) ?_
    refine wpAny_bind ?_
    refine wpAny_bind (wpAny_loadPart hx (wpAny_pure ?_))
    refine KFB.if_not rfl ?_
    refine wpAny_bind (wpAny_typeOf (T := "list") ⟨_, hx, rfl⟩ ?_)
    exact wpAny_of_eq e2 h
  run_tac Mine.Sh.fin
theorem quiet_app {as : Args} : (Code.builtin "list.append" as).quiet = true := Code.quiet_builtin _ (by decide +kernel)
theorem call_app {u l : Addr} {its : Array Value} {n : Nat} {x : Value} {Q : Value → Shared → Prop} (F : Fr h₀ L s.heap m) (N : News h₀ L s.heap news) (hu : (u, boundApp l) ∈ news) (U : Upd l (listOf its n) (listOf (its.push x) (n + 1)) news news')
    (h : ∀ h', Fr h₀ L h' m → News h₀ L h' news' → Q .none { s with heap := h' }) (hsz : its.size ≤ sizeLine := by size_fits) : wpAny (model prog w) A (call (.ref u) [x]) Q E s := by
  run_tac Mine.Sh.mark
  focus
    obtain ⟨pre, post, rfl, rfl, a, b⟩ := U.split
    have z := N (l, listOf its n) (List.mem_append.mpr (.inr (.head _)))
    have ho := N.get hu
    refine wpAny_call (codeAny_of_tree ?_)
    show wpAny _ A.in1 (callAny (.ref u) ⟨[x], []⟩) _ _ s
    simp only [callAny]
    refine wpAny_bind (wpAny_load ho ?_)
    simp only [boundApp, List.getElem?_toArray, List.getElem?_cons_zero, List.getElem?_cons_succ, show (Value.type "builtin_function_or_method" == Value.type "method" || Value.type "builtin_function_or_method" == Value.type "builtin_function_or_method" || Value.type "builtin_function_or_method" == Value.type "method-wrapper") = true by decide, if_true]
    refine KFB.if_so (by decide) ?_
    refine wpAny_bind (check_app z.1 ?_)
    refine wpAny_bind (wpAny_pure (wpAny_pure ?_))
    refine ⟨quiet_app, codeAny_builtin PySem.entry_list_append ?_⟩
    show wpAny _ _ (updateSeq l (·.push x) >>= fun _ => ret .none) _ _ s
    refine wpAny_bind ?_
    refine wpAny_updateSeq z.1 rfl (wpAny_pure ?_)
    exact h _ (F.change (Heap.SameBut.update ..) z.2.1 z.2.2) (news_set N a b (Heap.SameBut.update ..) (by rw [Heap.get?_update_self _ z.1 (by rw [mapSeq_push]; rfl), mapSeq_push]))
  run_tac Mine.Sh.fin
end
end

section -- F2
set_option autoImplicit true
noncomputable def Grown (pos : Pos) (qual : Str) (h' : Heap) (ps ps' : Array Value) : Prop :=
  TriplesOk ps'.toList ∧ (∀ q cv, codeAmong q ps'.toList = some cv → codeAmong q ps.toList = some cv ∨ (codeAmong q ps.toList = none ∧ q.line = pos.line ∧ q.col = pos.col ∧ h'.CodeRec cv qual))
theorem codeAmong_app {q pos : Pos} {c : Value} (l : List Value) (h : TriplesOk l) : ∀ cv, codeAmong q (l ++ [rawInt pos.line, rawInt pos.col, c]) = some cv → codeAmong q l = some cv ∨ (codeAmong q l = none ∧ q.line = pos.line ∧ q.col = pos.col ∧ cv = c) := by
  run_tac Mine.Sh.mark
  focus
    fun_induction TriplesOk l with
    | case1 =>
      intro cv e
      simp only [List.nil_append, codeAmong, rawInt] at e
      split at e
      · rename_i hc
        simp only [Bool.and_eq_true, beq_iff_eq] at hc
        refine .inr ⟨rfl, ?_, ?_, (Option.some.inj e).symm⟩ <;> omega
      · cases e
    | case2 a t b u x rest ih =>
      intro cv e
      simp only [List.cons_append, codeAmong] at e ⊢
      split at e
      · rename_i hc; rw [if_pos hc]; exact .inl e
      · rename_i hc; rw [if_neg hc]; exact ih h cv e
    | case3 l h1 h2 => exact h.elim
  run_tac Mine.Sh.fin
section
variable {prog : Program} {w : World} {A : Around} {E : Value → Shared → Prop} {s : Shared} {h₀ : Heap} {L c P : Addr} {ps : Array Value} {m mg mb : Str → Option Value} {news : List (Addr × Obj)} {g : Obj → List (Addr × Obj)} {p : Program} {loose : List Str} {mean : ExcName → Option Value}
theorem join_K {K a : Addr} {n : Nat} {Ft : Nat → Value → Prop} {Q : Value → Shared → Prop} {sep : Str} {t : Tok} (Fh : Fr h₀ L s.heap m) (N : News h₀ L s.heap news) (X : Gen prog w A K a n Ft s) (hLK : L ≤ K) (hnK : ∀ p ∈ news, p.1 ≤ K) (tx : Nat → Str) (htx : ∀ j v, Ft j v → ∃ u, v = .str (tx j) u)
    (hok : JoinOk sep ((List.range n).map tx) = true)
    (hQ : ∀ s' t', Fr h₀ L s'.heap m → News h₀ L s'.heap news → s'.os = s.os → s'.drawn = s.drawn → (AllBare s.gens → AllBare s'.gens) → Q (.str (Txt.join sep ((List.range n).map tx)) t') s')
    (hsz : n ≤ sizeLine := by size_fits) : wpAny (model prog w) A (call (.builtin "str.join") [.str sep t, .ref a]) Q E s := by
  run_tac Mine.Sh.mark
  focus
    obtain ⟨fp, wr, g, St, W, hst, hT, ha, hfp, hwr⟩ := X
    have W := W.in4_2
    refine SC.joinGen W hT hst hfp ha (fun j v hv => let ⟨u, e⟩ := htx j v hv; ⟨_, u, e⟩) (fun s' lt hm hacc => ?_) hsz
    have hl : lt.map (·.1) = (List.range n).map tx := by
      apply List.ext_getElem?
      intro j
      have hsz : lt.length = n := by simpa [strValues] using hacc.1
      by_cases hj : j < n
      · have hj' : j < lt.length := hsz ▸ hj
        obtain ⟨u, hv⟩ := htx j _ (hacc.2 j (.str lt[j].1 lt[j].2) (by simp [strValues, List.getElem?_eq_getElem hj']))
        injection hv with h1 _
        simp [List.getElem?_eq_getElem hj', hj, h1]
      · rw [List.getElem?_eq_none (by simpa [hsz] using Nat.le_of_not_lt hj), List.getElem?_eq_none (by simpa using Nat.le_of_not_lt hj)]
    rw [hl]
    have f1 := Fh.moved hm fun b hb => Nat.lt_of_le_of_lt hLK (hwr b hb)
    refine ⟨hok, fun t' k => hQ _ t' f1 (fun q hq => ⟨hm.heap _ _ (fun hb => ?_) (N q hq).1, (N q hq).2⟩) hm.os hm.drawn fun x => AllBare.moved x hm.gens⟩
    exact Nat.lt_irrefl _ (Nat.lt_of_lt_of_le (hwr _ hb) (hnK q hq))
  run_tac Mine.Sh.fin
end
end

section -- F3
set_option autoImplicit true
open PySem PySem.W PySem.Calls PySem.Spec PyProof.Rows PySem.Builtin.Re

noncomputable def drv : Nat → Sre.M → Sre.M
  | 0, m => m
  | n+1, m => if (m.runFor 4).outcome.isSome then m.runFor 4 else drv n (m.runFor 4)
section
variable {prog : Program} {w : World} {M : Model} {A : Around} {E : Value → Shared → Prop} {s : Shared}
theorem wp_reDrive {Q : Sre.M → Shared → Prop} : ∀ (k : Nat) (m : Sre.M) (n : Nat), k ≤ n → m.outcome = none → (drv k m).outcome.isSome = true → Q (drv k m) s → wpAny M A (reDrive n m) Q E s
  | 0, m, n, _, h0, h1, _ => by rw [show drv 0 m = m from rfl, h0] at h1; cases h1
  | k+1, m, 0, hk, _, _, _ => by omega
  | k+1, m, n+1, hk, h0, h1, hq => by
    unfold reDrive
    show wpAny M A (if (m.runFor 4).outcome.isSome = true then pure (m.runFor 4) else (do rule "sre.turn"; reDrive n (m.runFor 4))) Q E s
    unfold drv at h1 hq
    cases hc : (m.runFor 4).outcome with
    | some o => rw [hc] at h1 hq; exact wpAny_pure hq
    | none =>
      rw [hc] at h1 hq
      refine wpAny_bind (wpAny_rule ?_)
      exact wp_reDrive k _ n (by omega) hc h1 hq
theorem wp_rules {m : Sre.M} {Q : PUnit → Shared → Prop} : ∀ (l : List Nat), Q ⟨⟩ s → wpAny M A (forIn l PUnit.unit fun i (r : PUnit) => (do if m.seen.has i = true then rule (Sre.names.getD i ""); pure (ForInStep.yield PUnit.unit) else pure (ForInStep.yield PUnit.unit) : Sem (ForInStep PUnit))) Q E s
  | [], h => by rw [List.forIn_nil]; exact wpAny_pure h
  | i :: l, h => by
    rw [List.forIn_cons]
    refine wpAny_bind ?_
    cases hc : m.seen.has i with
    | true => exact wpAny_bind (wpAny_rule (wpAny_pure (wp_rules l h)))
    | false => exact wpAny_pure (wp_rules l h)
noncomputable def fate (m : Sre.M) : Option Bool := match (drv 30 m).outcome with | some .matched => some true | some .failed => some false | _ => none
theorem wp_run {m : Sre.M} {b : Bool} {Q : Option Sre.M → Shared → Prop} (h0 : m.outcome = none) (hf : fate m = some b) (hq : Q (if b = true then some (drv 30 m) else none) s) : wpAny M A (reRunToEnd m) Q E s := by
  run_tac Mine.Sh.mark
  focus
    unfold reRunToEnd
    unfold fate at hf
    have h1 : (drv 30 m).outcome.isSome = true := by
      cases hc : (drv 30 m).outcome with
      | none => rw [hc] at hf; cases hf
      | some o => rfl
    have hk : ∀ n, 30 ≤ n → ∀ Q' : Sre.M → Shared → Prop, Q' (drv 30 m) s → wpAny M A (reDrive n m) Q' E s := fun n hn Q' hq' => wp_reDrive 30 m n hn h0 h1 hq'
    refine wpAny_bind (hk _ (by decide) _ ?_)
    refine wpAny_bind (wp_rules _ ?_)
    cases hc : (drv 30 m).outcome with
    | none => rw [hc] at hf; cases hf
    | some o =>
      rw [hc] at hf
      cases o with
      | matched => cases hf; exact wpAny_pure hq
      | failed => cases hf; exact wpAny_pure hq
      | stuck why => cases hf
  run_tac Mine.Sh.fin
end

noncomputable def code35 : Array Nat := #[14, 14, 4, 1, 1, 9, 0, 64, 0, 1342177280, 0, 0, 0, 0, 0, 17, 0, 13, 11, 9, 0, 64, 0, 1342177280, 0, 0, 0, 0, 0, 17, 1, 1]
noncomputable def items35 : Array Value := #[.int 14 0, .int 14 0, .int 4 0, .int 1 0, .int 1 0, .int 9 0, .int 0 0, .int 64 0, .int 0 0, .int 1342177280 0, .int 0 0, .int 0 0, .int 0 0, .int 0 0, .int 0 0, .int 17 0, .int 0 0, .int 13 0, .int 11 0, .int 9 0, .int 0 0, .int 64 0, .int 0 0, .int 1342177280 0, .int 0 0, .int 0 0, .int 0 0, .int 0 0, .int 0 0, .int 17 0, .int 1 0, .int 1 0]
noncomputable def pat36 : Obj := ⟨.type "re.Pattern", none, .fields #[.str (Str.ofString "([&~|])") 283, .int 32 318, .int 1 0, .none, .none, .ref 35, .int 0 0], #[]⟩
theorem look35 (P : Params) : List.lookup 35 (Mine.hd.heap_39 P) = some ⟨.type "tuple", none, .seq items35 0, #[]⟩ := by kernel_rfl
theorem look36 (P : Params) : List.lookup 36 (Mine.hd.heap_39 P) = some pat36 := by kernel_rfl
theorem map35 : (items35.map reRawOf).map (·.toNat) = code35 := by decide +kernel
theorem entry_sub : entryFor table "re.Pattern.sub" = some Builtin.«re.Pattern.sub» := entryFor_of_tree (by kernel_rfl!)
theorem entry_loop : entryFor table "re.Pattern.sub.loop" = some Builtin.«re.Pattern.sub.loop» := entryFor_of_tree (by kernel_rfl!)
theorem slot_sub : Slot "re.Pattern" "sub" "re.Pattern.sub" :=
  .of (owner := "re.Pattern") (n := "sub") (by rw [typeLookup_type, builtinLookup_eq_fast]; kernel_rfl!) (by decide +kernel) (by decide +kernel) (by decide +kernel)
    (by first | exact .inl (by decide +kernel) | exact .inr (by decide +kernel)) (by rw [isSubtype_type]; kernel_rfl!)
theorem type_sub : typeOf (.builtin "re.Pattern.sub") = pure (.type "method_descriptor") := by show builtinType _ = _; rw [builtinType_eq_fast]; kernel_rfl!
theorem args_sub (a b c : Value) : argsOk "re.Pattern.sub" ⟨[a, b, c], []⟩ := by unfold argsOk; kernel_rfl!
theorem plain_pat : PlainAttrs "re.Pattern" :=
  ⟨⟨"object.__getattribute__", by rw [typeLookup_type, builtinLookup_eq_fast]; kernel_rfl!, by decide +kernel⟩, by rw [typeLookup_type, builtinLookup_eq_fast]; kernel_rfl!⟩
theorem plain_loop : plainId "re.Pattern.sub.loop" = true := by decide +kernel
section
variable {prog : Program} {w : World} {A : Around} {E : Value → Shared → Prop} {s : Shared}
theorem wp_target {text : Str} {t : Tok} {Q : ReTarget → Shared → Prop} (X : (Mine.hd.heap_39 w.params).In s.heap)
   (h : Q { pattern := .ref 36, string := .str text t, code := code35, text := text.cps, kind := 0, groups := 1, pos := 0, lim := text.cps.size } s) :
   wpAny (model prog w) A (reWholeTarget (.ref 36) (.str text t)) Q E s := by
  run_tac Mine.Sh.mark
  focus
    unfold reWholeTarget
    refine wpAny_bind (wpAny_fieldsOf (X _ _ (look36 _)) rfl ?_)
    refine wpAny_bind (wpAny_of_eq (a := (text.cps, 0)) rfl ?_)
    dsimp only
    refine KFB.if_not (by decide) ?_
    refine KFB.if_not (by decide) ?_
    refine wpAny_bind (wpAny_of_eq (a := ()) rfl ?_)
    unfold reRawItems
    refine wpAny_bind (wpAny_bind (wpAny_seqItems (X _ _ (look35 _)) rfl (wpAny_pure ?_)))
    refine wpAny_pure ?_
    have := h
    rw [← map35] at this
    exact this
  run_tac Mine.Sh.fin
end
end

section -- F4
set_option autoImplicit true
open PySem PySem.W PySem.Calls PySem.Spec PyProof.Rows PySem.Builtin.Re

section
variable {prog : Program} {w : World} {A : Around} {E : Value → Shared → Prop} {s : Shared}
noncomputable abbrev loopArgs (text : Str) (t : Tok) (f l : Addr) (n done start : Int) (must : Bool) : Args := ⟨[.ref 36, .str text t, .ref f, rawInt 1, rawInt 0, rawInt n, rawInt done, rawInt start, .bool must, .ref l, .bool false], []⟩
theorem code_end {R : Result → Shared → Prop} {text : Str} {t : Tok} {f l : Addr} {n : Int} {k done start : Nat} {must : Bool} {lt : List (Str × Tok)} (X : (Mine.hd.heap_39 w.params).In s.heap)
   (hl : s.heap.get? l = some (listOf (strValues lt).toArray k)) (h0 : (Sre.forSearch code35 text.cps 1 start text.cps.size must).outcome = none) (hf : fate (Sre.forSearch code35 text.cps 1 start text.cps.size must) = some false)
   (hd : done < text.cps.size) (hs : text.cps.size ≤ 20) (hlt : lt.length ≤ 1) (hok : JoinOk "" (lt.map (·.1) ++ [⟨text.cps.extract done text.cps.size⟩]) = true)
   (h : ∀ h' tk' t', Heap.ExtBut l s.heap h' → R (.ok (.ret (.str (Txt.join "" (lt.map (·.1) ++ [⟨text.cps.extract done text.cps.size⟩])) t'))) { s with heap := h', toks := tk' }) :
   codeAny (model prog w) A (.builtin "re.Pattern.sub.loop" (loopArgs text t f l n done start must)) R s := by
  run_tac Mine.Sh.mark
  focus
    refine codeAny_builtin entry_loop ?_
    unfold Builtin.«re.Pattern.sub.loop» loopArgs rawInt
    dsimp only
    refine wpAny_bind (wp_target X ?_)
    refine KFB.if_not (by decide) ?_
    dsimp only
    refine wpAny_bind ?_
    refine KFB.if_not (by simp) ?_
    unfold reNextFound
    simp only [Int.toNat_natCast]
    refine wp_run h0 hf ?_
    rw [Around.under_plainId plain_loop _]
    show wpAny _ _ (if done < text.cps.size then _ else _) _ _ _
    rw [if_pos hd]
    refine wpAny_bind ?_
    unfold reSlice
    refine KFB.if_so rfl ?_
    have hsz : (text.cps.extract done text.cps.size).size ≤ 20 := by simp; omega
    refine wpAny_mkStr ?_ (Nat.le_trans hsz (by decide))
    refine wpAny_bind (wpAny_updateSeq hl rfl ?_ (by simp [strValues]; exact Nat.le_trans hlt (by decide)) (by simp [strValues]; exact Nat.le_trans hlt (by decide)))
    refine wpAny_bind ?_
    refine KFB.if_so rfl ?_
    refine wpAny_mkStr ?_ (Nat.le_trans (by simp [Str.length]) (by decide : 0 ≤ sizeLine))
    have hget : (s.heap.update l (Obj.mapSeq fun x => x.push (Value.str ⟨text.cps.extract done text.cps.size⟩ s.toks))).get? l = some (listOf (strValues (lt ++ [(⟨text.cps.extract done text.cps.size⟩, s.toks)])).toArray (k + 1)) := by
      rw [Heap.get?_update_self _ hl (by rw [mapSeq_push]; rfl), mapSeq_push]
      simp [strValues]
    refine wpAny_bind (wpAny_seqItems hget rfl ?_)
    refine KFB.if_not (by simp [strValues]) ?_
    have e0 : (⟨text.cps.extract 0 0⟩ : Str) = Str.ofString "" := by simp; rfl
    rw [e0]
    refine wpAny_bind (SC.join (l := lt ++ [(⟨text.cps.extract done text.cps.size⟩, s.toks)]) ⟨_, hget, rfl, _, rfl⟩ (by rw [List.map_append]; rfl) hok fun t' k' => ?_)
    refine KFB.if_not rfl ?_
    refine wpAny_pure ?_
    exact h _ _ _ (Heap.SameBut.update ..).extBut
  run_tac Mine.Sh.fin
noncomputable abbrev matchObj (text : Str) (t : Tok) (lim : Int) (tu : Addr) : Obj := { cls := .type "re.Match", data := .fields #[.str text t, .ref 36, .int 0 0, .int lim 0, .int 1 0, .ref tu] }
noncomputable abbrev spanObj : Obj := { cls := .type "tuple", data := .seq #[.int 0 0, .int 1 0, .int 0 0, .int 1 0] 0 }
noncomputable def isHit (m : Sre.M) : Bool := m.start == 0 && m.handed == 1 && m.lastindex == 1 && m.lastmark == 1 && m.marks.toList == [some 0, some 1]
theorem newMatch {m : Sre.M} {text : Str} {t : Tok} {lim : Nat} {Q : Value → Shared → Prop} (hm : isHit m = true) (h : Q (.ref (s.heap.objs.size + 1)) { s with heap := (s.heap.push spanObj).push (matchObj text t lim s.heap.objs.size) }) :
   wpAny (model prog w) A (reNewMatch (.ref 36) (.str text t) 1 0 lim m) Q E s := by
  run_tac Mine.Sh.mark
  focus
    unfold isHit at hm
    simp only [Bool.and_eq_true, beq_iff_eq] at hm
    obtain ⟨⟨⟨⟨h1, h2⟩, h3⟩, h4⟩, h5⟩ := hm
    obtain ⟨ml, hml⟩ : ∃ ml, ml = m.marks := ⟨_, rfl⟩
    have h6 : m.marks = #[some 0, some 1] := by rw [← Array.toArray_toList (xs := m.marks), h5]
    unfold reNewMatch
    rw [h1, h2, h3, h4, h6]
    dsimp only
    refine KFB.if_not (by decide) ?_
    show wpAny _ _ (newTuple [rawInt 0, rawInt 1, rawInt 0, rawInt 1] >>= fun tu => newFields "re.Match" [.str text t, .ref 36, rawInt 0, rawInt lim, rawInt 1, tu]) _ _ _
    refine wpAny_bind (wpAny_newObj_type (wpAny_newObj_type ?_))
    rw [Heap.size_push]
    exact h
  run_tac Mine.Sh.fin
theorem code_match {R : Result → Shared → Prop} {text r : Str} {t : Tok} {f l : Addr} {h₀ : Heap} (X₀ : (Mine.hd.heap_39 w.params).In h₀) (k₀ : ∀ b o, h₀.get? b = some o → s.heap.get? b = some o) (hl0 : h₀.get? l = none)
   (hl : s.heap.get? l = some (listOf #[] 0)) (h0 : (Sre.forSearch code35 text.cps 1 0 text.cps.size false).outcome = none) (hf : fate (Sre.forSearch code35 text.cps 1 0 text.cps.size false) = some true)
   (hm : isHit (drv 30 (Sre.forSearch code35 text.cps 1 0 text.cps.size false)) = true)
   (h0' : (Sre.forSearch code35 text.cps 1 1 text.cps.size false).outcome = none) (hf' : fate (Sre.forSearch code35 text.cps 1 1 text.cps.size false) = some false)
   (hd : 1 < text.cps.size) (hs : text.cps.size ≤ 20) (hok : JoinOk "" [r, ⟨text.cps.extract 1 text.cps.size⟩] = true)
   (hcall : ∀ (mo tu : Addr) (s' : Shared) (Q' : Value → Shared → Prop) (E' : Value → Shared → Prop), s'.heap.get? mo = some (matchObj text t text.cps.size tu) → s'.heap.get? tu = some spanObj → (∀ b o, s.heap.get? b = some o → s'.heap.get? b = some o) →
      (∀ h' tk' t2, (∀ b o, s'.heap.get? b = some o → h'.get? b = some o) → Q' (.str r t2) { s' with heap := h', toks := tk' }) → wpAny (model prog w) A.in1 (call (.ref f) [.ref mo]) Q' E' s')
   (h : ∀ h' tk' t', Heap.ExtBut l s.heap h' → R (.ok (.ret (.str (Txt.join "" [r, ⟨text.cps.extract 1 text.cps.size⟩]) t'))) { s with heap := h', toks := tk' }) :
   codeAny (model prog w) A (.builtin "re.Pattern.sub.loop" (loopArgs text t f l 0 0 0 false)) R s := by
  run_tac Mine.Sh.mark
  focus
    have X := X₀.keeps k₀
    have hm0 := hm
    unfold isHit at hm0
    simp only [Bool.and_eq_true, beq_iff_eq] at hm0
    obtain ⟨⟨⟨⟨h1, h2⟩, h3⟩, h4⟩, h5⟩ := hm0
    refine codeAny_builtin entry_loop ?_
    unfold Builtin.«re.Pattern.sub.loop» loopArgs rawInt
    dsimp only
    refine wpAny_bind (wp_target X ?_)
    refine KFB.if_not (by decide) ?_
    dsimp only
    refine wpAny_bind ?_
    refine KFB.if_not (by simp) ?_
    unfold reNextFound
    refine wp_run h0 hf ?_
    rw [Around.under_plainId plain_loop _]
    rw [if_pos rfl]
    dsimp only
    rw [show Int.toNat 0 = 0 from rfl, h1, h2]
    refine wpAny_ite ?_
    rw [if_neg (by decide)]
    refine KFB.if_not (by decide) ?_
    refine wpAny_bind (newMatch hm ?_)
    refine wpAny_bind (wpAny_holding ?_)
    refine KFB.if_so (by decide) ?_
    have hl2 : ((s.heap.push spanObj).push (matchObj text t text.cps.size s.heap.objs.size)).get? l = some (listOf #[] 0) := Heap.get?_push_of_some _ (Heap.get?_push_of_some _ hl)
    refine hcall _ s.heap.objs.size _ _ _ ?_ ?_ (fun b o e => Heap.get?_push_of_some _ (Heap.get?_push_of_some _ e)) fun h' tk' t2 k' => ?_
    · have := Heap.get?_push_size (s.heap.push spanObj) (o := matchObj text t text.cps.size s.heap.objs.size) rfl
      rw [Heap.size_push] at this; exact this
    · exact Heap.get?_push_of_some _ (Heap.get?_push_size _ rfl)
    dsimp only
    refine KFB.if_so (by rfl) ?_
    have hl3 := k' _ _ hl2
    refine wpAny_bind (wpAny_updateSeq hl3 rfl ?_ (by decide) (by show 1 ≤ sizeLine + 1; decide))
    refine wpAny_pure ⟨plainId_quiet plain_loop _, ?_⟩
    have hget : (h'.update l (Obj.mapSeq fun x => x.push (Value.str r t2))).get? l = some (listOf (strValues [(r, t2)]).toArray 1) := by
      rw [Heap.get?_update_self _ hl3 (by rw [mapSeq_push]; rfl), mapSeq_push]
      simp [strValues]
    have kk : ∀ b o, b ≠ l → s.heap.get? b = some o → (h'.update l (Obj.mapSeq fun x => x.push (Value.str r t2))).get? b = some o := fun b o hb e => (Heap.SameBut.update ..).extBut b o hb (k' _ _ (Heap.get?_push_of_some _ (Heap.get?_push_of_some _ e)))
    have hlX : ∀ b o, (Mine.hd.heap_39 w.params).lookup b = some o → b ≠ l := fun b o e q => by
      have := X₀ b o e; rw [q, hl0] at this; cases this
    refine code_end (s := ⟨_, _, _, _, _⟩) (done := 1) (start := 1) (n := 1) (lt := [(r, t2)]) (fun b o e => kk b o (hlX b o e) (X b o e)) hget h0' hf' hd hs (Nat.le_refl 1) hok fun h2 tk2 t3 x2 => ?_
    exact h _ _ _ fun b o hb e => x2 b o hb (kk b o hb e)
  run_tac Mine.Sh.fin
theorem named_sub (f : Addr) (text : Str) (t : Tok) : reNamed "re.Pattern.sub" "sub" ["repl", "string", "count"] 2 [.ref f, .str text t] [] = pure [some (.ref f), some (.str text t), none] := by first | rfl | kernel_rfl!
theorem fn_call : typeLookup (.type "function") (Str.ofString "__call__") = pure (some (.builtin "function.__call__")) := by rw [typeLookup_type, builtinLookup_eq_fast]; kernel_rfl!
theorem tree_sub {P : PySem.Fin → Shared → Prop} {text : Str} {t : Tok} {f : Addr} (X : (Mine.hd.heap_39 w.params).In s.heap) (hfn : s.TypeIs (.ref f) "function")
   (h : P (.again (.builtin "re.Pattern.sub.loop" (loopArgs text t f s.heap.objs.size 0 0 0 false))) { s with heap := s.heap.push (listOf #[] 0) }) :
   wpAny (model prog w) A (Builtin.«re.Pattern.sub» ⟨[.ref 36, .ref f, .str text t], []⟩) P E s := by
  run_tac Mine.Sh.mark
  focus
    unfold Builtin.«re.Pattern.sub» reSubstitute
    dsimp only
    rw [named_sub]
    refine wpAny_bind (wpAny_pure ?_)
    dsimp only
    refine wpAny_bind (wpAny_pure ?_)
    refine wpAny_bind (wpAny_specialOf hfn fn_call ?_)
    refine KFB.if_so rfl ?_
    refine wpAny_bind (wpAny_pure ?_)
    refine KFB.if_so rfl ?_
    refine wpAny_bind (wpAny_pure ?_)
    dsimp only
    refine wpAny_bind (wpAny_holding (wp_target X ?_))
    refine KFB.if_so (by decide) ?_
    refine wpAny_bind ?_
    unfold reNotHeld
    refine wpAny_bind (wpAny_isInstance (T := "str") (b := false) (typeIs_str _ _ _) (by rw [isSubtype_type]; kernel_rfl!) ?_)
    refine KFB.if_not rfl ?_
    refine wpAny_pure ?_
    refine wpAny_bind (wpAny_newObj_type (wpAny_pure h))
  run_tac Mine.Sh.fin
theorem typeIs36 (X : (Mine.hd.heap_39 w.params).In s.heap) : s.TypeIs (.ref 36) "re.Pattern" := ⟨_, X _ _ (look36 _), rfl⟩
theorem none_of_size (h : Heap) : h.get? h.objs.size = none := Heap.get?_none_of_le (Nat.le_refl _)
theorem call_sub_none {text : Str} {t : Tok} {f : Addr} {Q : Value → Shared → Prop} (X : (Mine.hd.heap_39 w.params).In s.heap) (hfn : s.TypeIs (.ref f) "function")
   (h0 : (Sre.forSearch code35 text.cps 1 0 text.cps.size false).outcome = none) (hf : fate (Sre.forSearch code35 text.cps 1 0 text.cps.size false) = some false)
   (hd : 0 < text.cps.size) (hs : text.cps.size ≤ 20) (hok : JoinOk "" [text] = true) (hj : Txt.join "" [text] = text)
   (h : ∀ h' tk' t', (∀ b o, s.heap.get? b = some o → h'.get? b = some o) → Q (.str text t') { s with heap := h', toks := tk' }) :
   wpAny (model prog w) A (call (.builtin "re.Pattern.sub") [.ref 36, .ref f, .str text t]) Q E s := by
  run_tac Mine.Sh.mark
  focus
    refine wpAny_call (codeAny_call_builtin slot_sub.plain entry_sub (slot_sub.check _ _ _ _ _ _ _ _ (typeIs36 X) (args_sub _ _ _) (tree_sub X hfn ?_)))
    refine ⟨plainId_quiet plain_loop _, ?_⟩
    have e0 : (⟨text.cps.extract 0 text.cps.size⟩ : Str) = text := by simp
    refine code_end (s := ⟨_, _, _, _, _⟩) (done := 0) (start := 0) (n := 0) (lt := []) (X.keeps fun b o e => Heap.get?_push_of_some _ e) (Heap.get?_push_size _ rfl) h0 hf hd hs (by decide) (by rw [e0]; exact hok) fun h' tk' t' x => ?_
    rw [e0]
    show Q (.str (Txt.join "" [text]) t') _
    rw [hj]
    exact h _ _ _ fun b o e => x b o (Nat.ne_of_lt (Heap.lt_size e)) (Heap.get?_push_of_some _ e)
  run_tac Mine.Sh.fin
theorem call_sub_match {text r : Str} {t : Tok} {f : Addr} {Q : Value → Shared → Prop} (X : (Mine.hd.heap_39 w.params).In s.heap) (hfn : s.TypeIs (.ref f) "function")
   (h0 : (Sre.forSearch code35 text.cps 1 0 text.cps.size false).outcome = none) (hf : fate (Sre.forSearch code35 text.cps 1 0 text.cps.size false) = some true)
   (hm : isHit (drv 30 (Sre.forSearch code35 text.cps 1 0 text.cps.size false)) = true)
   (h0' : (Sre.forSearch code35 text.cps 1 1 text.cps.size false).outcome = none) (hf' : fate (Sre.forSearch code35 text.cps 1 1 text.cps.size false) = some false)
   (hd : 1 < text.cps.size) (hs : text.cps.size ≤ 20) (hok : JoinOk "" [r, ⟨text.cps.extract 1 text.cps.size⟩] = true)
   (hcall : ∀ (mo tu : Addr) (s' : Shared) (Q' : Value → Shared → Prop) (E' : Value → Shared → Prop), s'.heap.get? mo = some (matchObj text t text.cps.size tu) → s'.heap.get? tu = some spanObj → (∀ b o, s.heap.get? b = some o → s'.heap.get? b = some o) →
      (∀ h' tk' t2, (∀ b o, s'.heap.get? b = some o → h'.get? b = some o) → Q' (.str r t2) { s' with heap := h', toks := tk' }) → wpAny (model prog w) A.in1 (call (.ref f) [.ref mo]) Q' E' s')
   (h : ∀ h' tk' t', (∀ b o, s.heap.get? b = some o → h'.get? b = some o) → Q (.str (Txt.join "" [r, ⟨text.cps.extract 1 text.cps.size⟩]) t') { s with heap := h', toks := tk' }) :
   wpAny (model prog w) A (call (.builtin "re.Pattern.sub") [.ref 36, .ref f, .str text t]) Q E s := by
  run_tac Mine.Sh.mark
  focus
    refine wpAny_call (codeAny_call_builtin slot_sub.plain entry_sub (slot_sub.check _ _ _ _ _ _ _ _ (typeIs36 X) (args_sub _ _ _) (tree_sub X hfn ?_)))
    refine ⟨plainId_quiet plain_loop _, ?_⟩
    refine code_match (s := ⟨_, _, _, _, _⟩) X (fun b o e => Heap.get?_push_of_some _ e) (none_of_size _) (Heap.get?_push_size _ rfl) h0 hf hm h0' hf' hd hs hok (fun mo tu s' Q' E' a1 a2 a3 a4 => hcall mo tu s' Q' E' a1 a2 (fun b o e => a3 _ _ (Heap.get?_push_of_some _ e)) a4) fun h' tk' t' x => ?_
    exact h _ _ _ fun b o e => x b o (Nat.ne_of_lt (Heap.lt_size e)) (Heap.get?_push_of_some _ e)
  run_tac Mine.Sh.fin
structure SubNone (text : Str) : Prop where
  h0 : (Sre.forSearch code35 text.cps 1 0 text.cps.size false).outcome = none
  hf : fate (Sre.forSearch code35 text.cps 1 0 text.cps.size false) = some false
  hd : 0 < text.cps.size
  hs : text.cps.size ≤ 20
  hok : JoinOk "" [text] = true
  hj : Txt.join "" [text] = text
theorem call_subN {text : Str} {t : Tok} {f : Addr} {Q : Value → Shared → Prop} (X : (Mine.hd.heap_39 w.params).In s.heap) (hfn : s.TypeIs (.ref f) "function") (z : SubNone text)
   (h : ∀ h' tk' t', (∀ b o, s.heap.get? b = some o → h'.get? b = some o) → Q (.str text t') { s with heap := h', toks := tk' }) :
   wpAny (model prog w) A (call (.builtin "re.Pattern.sub") [.ref 36, .ref f, .str text t]) Q E s :=
  call_sub_none X hfn z.h0 z.hf z.hd z.hs z.hok z.hj h
end
end

section -- F5
set_option autoImplicit true
open PySem PySem.W PySem.Calls PySem.Spec PyProof.Rows PySem.Builtin.Re

theorem entry_group : entryFor table "re.Match.group" = some Builtin.«re.Match.group» := entryFor_of_tree (by kernel_rfl!)
theorem slot_group : Slot "re.Match" "group" "re.Match.group" :=
  .of (owner := "re.Match") (n := "group") (by rw [typeLookup_type, builtinLookup_eq_fast]; kernel_rfl!) (by decide +kernel) (by decide +kernel) (by decide +kernel)
    (by first | exact .inl (by decide +kernel) | exact .inr (by decide +kernel)) (by rw [isSubtype_type]; kernel_rfl!)
theorem type_group : typeOf (.builtin "re.Match.group") = pure (.type "method_descriptor") := by show builtinType _ = _; rw [builtinType_eq_fast]; kernel_rfl!
theorem args_group (a b : Value) : argsOk "re.Match.group" ⟨[a, b], []⟩ := by unfold argsOk; kernel_rfl!
theorem plain_match : PlainAttrs "re.Match" :=
  ⟨⟨"object.__getattribute__", by rw [typeLookup_type, builtinLookup_eq_fast]; kernel_rfl!, by decide +kernel⟩, by rw [typeLookup_type, builtinLookup_eq_fast]; kernel_rfl!⟩
section
variable {prog : Program} {w : World} {M : Model} {A : Around} {E : Value → Shared → Prop} {s : Shared}
theorem gm_group {text : Str} {t : Tok} {lim : Int} {mo tu : Addr} {pl : Sem Bool} {Q : Value × List Value → Shared → Prop} (hm : s.heap.get? mo = some (matchObj text t lim tu)) (h : Q (.builtin "re.Match.group", [.ref mo]) s) : wpAny M A (getMethod (.ref mo) (Str.ofString "group") pl) Q E s := by
  exact getMethod_builtin ⟨_, hm, rfl⟩ plain_match slot_group type_group (fun a e => by cases e; exact ⟨_, hm, rfl⟩) h
theorem gm_sub {pl : Sem Bool} {Q : Value × List Value → Shared → Prop} (X : (Mine.hd.heap_39 w.params).In s.heap) (h : Q (.builtin "re.Pattern.sub", [.ref 36]) s) : wpAny (model prog w) A (getMethod (.ref 36) (Str.ofString "sub") pl) Q E s := by
  exact getMethod_builtin (typeIs36 X) plain_pat slot_sub type_sub (fun a e => by cases e; exact ⟨_, X _ _ (look36 _), rfl⟩) h
theorem call_group {text : Str} {t t1 : Tok} {lim : Int} {mo tu : Addr} {Q : Value → Shared → Prop} (hm : s.heap.get? mo = some (matchObj text t lim tu)) (ht : s.heap.get? tu = some spanObj)
   (h : ∀ t' k, Q (.str ⟨text.cps.extract 0 1⟩ t') { s with toks := k }) : wpAny (model prog w) A (call (.builtin "re.Match.group") [.ref mo, .int 1 t1]) Q E s := by
  run_tac Mine.Sh.mark
  focus
    refine wpAny_call_entry slot_group (T := "re.Match") ⟨_, hm, rfl⟩ entry_group ?_ (args_group _ _)
    unfold Builtin.«re.Match.group»
    refine wpAny_bind (wpAny_of_eq (a := ()) rfl ?_)
    dsimp only
    unfold reFound
    refine wpAny_bind (wpAny_bind (wpAny_fieldsOf hm rfl ?_))
    unfold reRawItems
    refine wpAny_bind (wpAny_bind (wpAny_seqItems ht rfl (wpAny_pure ?_)))
    refine wpAny_pure ?_
    rw [show Array.map reRawOf ((some #[Value.int 0 0, Value.int 1 0, Value.int 0 0, Value.int 1 0]).getD #[]) = (#[0, 1, 0, 1] : Array Int) from by decide +kernel]
    unfold reGroupNumber
    refine wpAny_bind (wpAny_bind ?_)
    refine wpAny_of_eq (a := some 1) rfl ?_
    refine KFB.if_so rfl ?_
    refine wpAny_bind ?_
    refine wpAny_of_eq (a := (1 : Int)) rfl ?_
    refine KFB.if_not (by rfl) ?_
    refine wpAny_pure ?_
    refine wpAny_bind ?_
    unfold reGroupText
    dsimp only
    refine KFB.if_not (by decide) ?_
    refine wpAny_bind (wpAny_of_eq (a := (text.cps, 0)) rfl ?_)
    dsimp only
    unfold reSlice
    refine KFB.if_so rfl ?_
    refine wpAny_mkStr ?_ ?_
    · exact wpAny_pure ⟨_, rfl, h _ _⟩
    · refine Nat.le_trans (m := 1) ?_ (by decide)
      show (text.cps.extract 0 1).size ≤ 1
      simp; omega
  run_tac Mine.Sh.fin
end
theorem enterL {prog : Program} {w : World} {A : Around} {R : Result → Shared → Prop} {K : Frag} {p : Program} {loose : List Str} {mean : ExcName → Option Value} {mg mb : Str → Option Value}
    {g hp : Heap} {gn : Array GenState} {dr : Drawn} {tk : Nat} {os : OsState} {news : List (Addr × Obj)}
    {name qual : Str} {params : Arguments} {body : Expr} {scope : Scope} {cl : List (Str × Addr)} {pm ctv : Value} {c' f : Addr} {args : Args} {binds : List (Str × Value)}
    (T : Top p loose mean mg mb g) (S : Sub g hp) (hle : g.objs.size ≤ hp.objs.size) (Bs : Beside g hp news)
    (ho : hp.get? f = some (kla_obj name qual params body scope cl pm c' ctv)) (hcd : hp.CodeRec (.ref c') qual) (hroom : A.depth < recursionLimit)
    (hbind : bindArgs (kla_fn name qual params body scope cl pm (.ref c') ctv) args = pure binds) (hloc : ∀ y ∈ binds, scope.names.lookup y.1 = some .local)
    (h : ∀ L' h₁, Fr g L' h₁ (fun y => binds.reverse.lookup y) → News g L' h₁ news → (∀ p ∈ news, p.1 < L') →
      wpAny (model prog w) (A.deeper (envX qual scope L' f (.ref c') cl)) (eval body (envX qual scope L' f (.ref c') cl))
        (fun v s' => R (.ok (.ret v)) s')
        (fun e s' => wpAny (model prog w) (A.deeper (envX qual scope L' f (.ref c') cl)) (leaving (envX qual scope L' f (.ref c') cl) e) (fun _ s'' => R (.error e) s'') (fun e' s'' => R (.error e') s'') s')
        ⟨h₁, gn, dr, tk + binds.length, os⟩)
    (hco : scope.isCoroutine = false) (hgen : scope.isGenerator = false) (hk : scope.kind = .function)
    (hcell : ∀ x ∈ scope.names, x.2 ≠ .cell) : codeAny (model prog w) A (.call (.ref f) args) R ⟨hp, gn, dr, tk, os⟩ := by
  run_tac Mine.Sh.mark
  focus
    refine kla_callFunE hroom ho rfl hco hgen rfl hcd ?_
    rw [hbind]
    refine wpAny_pure (wpAny_newFunctionEnv hcell hloc (fun h₁ hns hsb => ⟨((T.nolimit).keeps S.stays).fresh _ hsb, ?_⟩) hk)
    show codeAny _ _ (.expr body (envX qual scope hp.objs.size f (.ref c') cl)) _ _
    have hk₁ : ∀ b o, hp.get? b = some o → h₁.get? b = some o := fun b o e => hsb.extBut b o (Nat.ne_of_lt (Heap.lt_size e)) (Heap.get?_push_of_some _ e)
    exact kla_codeExpr (h _ h₁ ⟨hns, fun b o e => hk₁ b o (S.stays b o e), hle⟩ (fun p hp' => ⟨hk₁ _ _ (Bs p hp').1, Nat.ne_of_lt (Heap.lt_size (Bs p hp').1), (Bs p hp').2⟩) fun p hp' => Heap.lt_size (Bs p hp').1)
  run_tac Mine.Sh.fin
end

section -- F6
set_option autoImplicit true
noncomputable def TabFact (g : Heap) (pos : Pos) (qual : Str) (ps : Array Value) (cL : Addr) (oL : Obj) : Prop :=
  ∀ cv, codeAmong pos ps.toList = some cv → g.CodeRec cv qual ∨ (cv = .ref cL ∧ ∃ vs t, oL.data = .fields vs ∧ vs[1]? = some (.str qual t))
theorem TabFact.rec {g h : Heap} {L cL : Addr} {pos : Pos} {qual : Str} {ps : Array Value} {oL : Obj} {m : Str → Option Value} {news : List (Addr × Obj)} {cv : Value} (x : TabFact g pos qual ps cL oL) (F : Fr g L h m) (N : News g L h news) (hm : (cL, oL) ∈ news)
   (e : codeAmong pos ps.toList = some cv) : h.CodeRec cv qual := by
  run_tac Mine.Sh.mark
  focus
    rcases x cv e with r | ⟨rfl, vs, t, h1, h2⟩
    · exact r.keeps F.keep
    · exact ⟨cL, oL, vs, t, rfl, N.get hm, h1, h2⟩
  run_tac Mine.Sh.fin
theorem TabFact.grown {g h' : Heap} {cL : Addr} {pos q : Pos} {qual qual' : Str} {ps ps' : Array Value} {oL : Obj} (x : TabFact g pos qual ps cL oL) (G : Grown q qual' h' ps ps') (hne : ¬ (pos.line = q.line ∧ pos.col = q.col)) : TabFact g pos qual ps' cL oL := fun cv e => by
  rcases G.2 pos cv e with e | ⟨_, e2, e3, _⟩
  · exact x cv e
  · exact absurd ⟨e2, e3⟩ hne
section
variable {M : Model} {A : Around} {E : Value → Shared → Prop} {s : Shared} {h₀ : Heap} {L a c P : Addr} {m mg mb : Str → Option Value} {cn : Str} {cs : Scope} {ccd : Value} {cl : List (Str × Addr)} {news : List (Addr × Obj)} {g : Obj → List (Addr × Obj)}
  {p : Program} {loose : List Str} {mean : ExcName → Option Value} {name qual : Str} {params : Arguments} {body : Expr} {scope : Scope} {ps : Array Value} {pos : Pos} {firstLine : Nat} {clos : List (Str × Addr)}
noncomputable def NeOr (c c' : Nat) : List (Addr × Obj) → Prop
  | [] => True
  | p :: r => (@Eq Nat p.1 c ∨ @Ne Nat p.1 c') ∧ NeOr c c' r
theorem neOr_self (c : Nat) : ∀ l, NeOr c c l
  | [] => trivial
  | p :: r => ⟨Classical.em _, neOr_self c r⟩
theorem neOr_lt {c c' : Nat} : ∀ {l : List (Addr × Obj)}, (∀ p ∈ l, p.1 < c') → NeOr c c' l
  | [], _ => trivial
  | p :: r, h => ⟨.inr (Nat.ne_of_lt (h p (.head _))), neOr_lt fun q hq => h q (.tail _ hq)⟩
theorem lam_K {Q : Value → Shared → Prop} {cL : Addr} {oL : Obj} (F : Fr h₀ L s.heap m) (N : News h₀ L s.heap news) (T : Top p loose mean mg mb h₀) (C : CodeHd h₀ c P) (hcd : ccd = .ref c) (U : UpdF P (tabObj ps) news g) (ht : TriplesOk ps.toList)
    (hL : (cL, oL) ∈ news) (hLP : @Ne Nat cL P) {qual' : Str} (hx : TabFact h₀ pos qual' ps cL oL) (hqq : qual = qual')
    (hcl : closureFor scope (envX cn cs L a ccd cl) = pure clos)
    (h : ∀ f c' ctv ps' cL' oL' h' tk, Fr h₀ L h' m → News h₀ L h' ((f, kla_obj name qual params body scope clos ((mg "__name__").getD .none) c' ctv) :: (cL', oL') :: g (tabObj ps')) →
      TriplesOk ps'.toList → TabFact h₀ pos qual' ps' cL' oL' → h'.CodeRec (.ref c') qual' → (∀ q ∈ news, q.1 < f) → NeOr cL cL' news → Q (.ref f) { s with heap := h', toks := tk }) :
    wpAny M A (makeFunction name qual params (.expr body) scope (envX cn cs L a ccd cl) [] [] [] pos firstLine) Q E s := by
  run_tac Mine.Sh.mark
  focus
    subst hqq
    obtain ⟨own, rest, hnews, hgr, h1, h2⟩ := U.split
    have hmP : (P, tabObj ps) ∈ news := by rw [hnews]; exact List.mem_append_right _ (.head _)
    have keepL : ∀ o', (cL, oL) ∈ g o' := fun o' => by
      rw [hgr]
      rw [hnews] at hL
      rcases List.mem_append.mp hL with e | e
      · exact List.mem_append_left _ e
      · rcases List.mem_cons.mp e with e | e
        · cases e; exact absurd rfl hLP
        · exact List.mem_append_right _ (.tail _ e)
    cases hnf : codeAmong pos ps.toList with
    | none =>
      refine kla_nest F N T C hcd U ht hnf hcl fun f c' oc vs t ctv h' tk F' N' d1 d2 l1 l2 => ?_
      have hl : (ps ++ #[rawInt pos.line, rawInt pos.col, Value.ref c']).toList = ps.toList ++ [rawInt pos.line, rawInt pos.col, .ref c'] := by simp
      refine h f c' ctv _ c' oc h' tk F' N' (by rw [hl]; exact TriplesOk_snoc _ _ _ _ ht) (fun cv e => ?_) ⟨c', oc, vs, t, rfl, N'.get (.tail _ (.head _)), d1, d2⟩ (fun q hq => Nat.lt_trans (l1 q hq) l2) (neOr_lt l1)
      rw [hl, codeAmong_snoc _ ht hnf] at e
      cases e
      exact .inr ⟨rfl, vs, t, d1, d2⟩
    | some cv =>
      have hr := hx.rec F N hL hnf
      obtain ⟨c', oc, vs, t, rfl, g1, g2, g3⟩ := id hr
      refine kla_hit F N T C hcd hmP ht hnf hcl fun f ctv h' tk F' N' l1 => ?_
      refine h f c' ctv ps cL oL h' tk F' (fun q hq => ?_) ht hx ?_ l1 (neOr_self _ _)
      · rcases List.mem_cons.mp hq with rfl | hq
        · exact N' _ (.head _)
        · rcases List.mem_cons.mp hq with rfl | hq
          · exact N' _ (.tail _ hL)
          · rw [hgr, ← hnews] at hq; exact N' _ (.tail _ hq)
      · rcases hx _ hnf with r | ⟨e, vs', t', r1, r2⟩
        · exact r.keeps F'.keep
        · cases e; exact ⟨cL, oL, vs', t', rfl, N'.get (.tail _ hL), r1, r2⟩
  run_tac Mine.Sh.fin
end
end

section -- F7
set_option autoImplicit true
noncomputable def protoT (C : Addr) (fp wr : List Addr) (n₀ : Nat) (F : Nat → Value → Prop) : Protocol := fun m s₀ v s kap =>
  m < n₀ ∧ F (n₀ - 1 - m) v ∧ GenSince C wr s₀ s ∧
    ∀ s'' : Shared, (∀ b ∈ C :: fp, ∀ o, s.heap.get? b = some o → s''.heap.get? b = some o) → 1 ≤ s''.toks → kap (.send .none) s''
structure QuietT (prog : Program) (w : World) (cenv : Env) (x : Str) (elt : Expr) (fp wr : List Addr) (P : Nat → Value → Prop) (F : Nat → Value → Prop) (href : Heap) (D U : Nat) : Prop where
  elt : ∀ (A' : Around) E' i v (s₂ : Shared) m₂, A'.handled = none → A'.depth ≤ D → A'.units ≤ U → 1 ≤ s₂.toks → P i v → s₂.heap.Ns cenv.locals m₂ → m₂ x = some v → (∀ b ∈ fp, b ∉ wr → ∀ o, href.get? b = some o → s₂.heap.get? b = some o) →
    wpAny (model prog w) A' (eval elt cenv) (fun y s₃ => F i y ∧ Keeps s₂ s₃) E' s₂
section
variable {prog : Program} {w : World} {A : Around}
theorem seg_loopT {elt iter : Expr} {x : Str} {px : Pos} {scope : Scope} {pos : Pos} {I : Addr} {fp wr : List Addr} {n₀ : Nat} {P : Nat → Value → Prop} {St₀ : Nat → Heap → Prop} {cenv : Env}
    (hh : A.handled = none) (W₀ : ∀ A' : Around, A'.handled = none → Walks prog w A' I fp wr n₀ P St₀) (F : Nat → Value → Prop) (href : Heap)
    (hx : cenv.kindOf x = some .local) (hp : (cenv.scope.kind == .class || (cenv.scope.kind == .module && cenv.locals != cenv.globals)) = false)
    (hco : cenv.scope.isCoroutine = false) (hCf : cenv.locals ∉ fp) (hq : QuietT prog w cenv x elt fp wr P F href (A.depth + 1) (A.units + 3)) :
    ∀ (k i : Nat) (s₀ s : Shared) (m : Str → Option Value), n₀ - i = k → i ≤ n₀ → 1 ≤ s.toks → St₀ i s.heap → s.heap.Ns cenv.locals m → GenSince cenv.locals wr s₀ s →
      (∀ b ∈ fp, b ∉ wr → ∀ o, href.get? b = some o → s.heap.get? b = some o) →
      Seg (model prog w) A (fun n s₀ r s₁ => r = .ok .next ∧ (n = 0 ∧ GenSince cenv.locals wr s₀ s₁)) (protoT cenv.locals fp wr n₀ F) k s₀
        (.compLoop (.GeneratorExp elt [⟨.Name x px, iter, [], 0⟩] scope pos) 0 (.ref I) .none cenv)
        ((model prog w).den (.compLoop (.GeneratorExp elt [⟨.Name x px, iter, [], 0⟩] scope pos) 0 (.ref I) .none cenv)) [] s := by
  run_tac Mine.Sh.mark
  focus
    have hh' : (A.over (.compLoop (.GeneratorExp elt [⟨.Name x px, iter, [], 0⟩] scope pos) 0 (.ref I) .none cenv) []).handled = none := hh
    have hdep' : (A.over (.compLoop (.GeneratorExp elt [⟨.Name x px, iter, [], 0⟩] scope pos) 0 (.ref I) .none cenv) []).depth ≤ A.depth + 1 := Nat.le_of_eq rfl
    have huni' : (A.over (.compLoop (.GeneratorExp elt [⟨.Name x px, iter, [], 0⟩] scope pos) 0 (.ref I) .none cenv) []).units ≤ A.units + 3 := Nat.le_of_eq rfl
    have hCw : cenv.locals ∉ wr := fun h => hCf ((W₀ A hh).sub _ h)
    intro k
    induction k with
    | zero =>
      intro i s₀ s m hk hi ht hst hn hsince hkp
      have hin : i = n₀ := by omega
      subst hin
      show Seg _ A _ _ _ s₀ _ ((compTurn (.GeneratorExp elt [⟨.Name x px, iter, [], 0⟩] scope pos) 0 (.ref I) .none cenv).onRaise (leaving cenv)) [] s
      rw [compTurn_gen, Sem.onRaise_eq_wrap]
      refine seg_bind_wrap (wpAny_standAt ?_)
      refine seg_bind_wrap ((W₀ _ hh').done s _ _ hst fun h' tk hk' => ?_)
      exact seg_end (.ok .next) ⟨rfl, rfl, hsince.step fun b o _ hw e => hk' b o hw e⟩
    | succ k ih =>
      intro i s₀ s m hk hi ht hst hn hsince hkp
      have hlt : i < n₀ := by omega
      show Seg _ A _ _ _ s₀ _ ((compTurn (.GeneratorExp elt [⟨.Name x px, iter, [], 0⟩] scope pos) 0 (.ref I) .none cenv).onRaise (leaving cenv)) [] s
      rw [compTurn_gen, Sem.onRaise_eq_wrap]
      refine seg_bind_wrap (wpAny_standAt ?_)
      refine seg_bind_wrap (wpAny_with_toks ht ((W₀ _ hh').item i s _ _ hlt hst fun v h₁ tk₁ hPv hst₁ hk₁ ht₁ => ?_))
      refine seg_bind_wrap (wpAny_of_eq (rfl : letOwnedTupleGo (.Name x px) (.ref I) v = pure ()) ?_)
      refine seg_bind_wrap (wpAny_assign_Name (wpAny_storeName_local hx (hn.at' fun o e => hk₁ _ o hCw e) (fun h₂ hn₂ hs₂ => ?_) hp))
      have up₂ : ∀ b o, b ≠ cenv.locals → b ∉ wr → s.heap.get? b = some o → h₂.get? b = some o := fun b o hbC hbw e => hs₂.extBut b o hbC (hk₁ b o hbw e)
      have hst₂ : St₀ (i + 1) h₂ := (W₀ A hh).frame _ _ _ hst₁ fun b hb o e => hs₂.extBut b o (fun h => hCf (h ▸ hb)) e
      have hkp₂ : ∀ b ∈ fp, b ∉ wr → ∀ o, href.get? b = some o → h₂.get? b = some o := fun b hb hbw o e => up₂ b o (fun h => hCf (h ▸ hb)) hbw (hkp b hb hbw o e)
      refine seg_bind_wrap (wpAny_of_eq (a := true) rfl ?_)
      simp only [if_true]
      have hy : ∀ v, yieldOut cenv v = yieldValue v := fun v => by simp only [yieldOut, hco, Bool.false_eq_true, if_false]
      simp only [hy]
      rw [Sem.bind_eq_wrap', Sem.bind_eq_wrap', Sem.wrap_wrap, Sem.wrap_wrap]
      refine seg_wrap (wpAny_mono (hq.elt _ _ i v _ _ hh' hdep' huni' ?_ hPv hn₂ (by simp) fun b hb hbw o e => hkp₂ b hb hbw o e) (fun y s₄ h₄ => ?_) fun _ _ e => e)
      · exact Nat.succ_pos _
      obtain ⟨hFy, h₄, tk₄, rfl, hk₄⟩ := h₄
      refine seg_at (seg_yield rfl rfl rfl ⟨by omega, by rw [show n₀ - 1 - k = i by omega]; exact hFy, (hsince.step fun b o hbC hbw e => up₂ b o hbC hbw e).step fun b o _ _ e => hk₄ b o e, fun s'' hal ht'' => ?_⟩)
      refine seg_again rfl (ih (i + 1) s'' s'' _ (by omega) hlt ht'' ((W₀ A hh).frame _ _ _ hst₂ fun b hb o e => hal b (List.mem_cons_of_mem _ hb) o (hk₄ b o e))
        ((hn₂.keeps hk₄).at' fun o e => hal _ (List.mem_cons_self ..) o e) (GenSince.refl _ _ _) fun b hb hbw o e => hal b (List.mem_cons_of_mem _ hb) o (hk₄ b o (hkp₂ b hb hbw o e)))
  run_tac Mine.Sh.fin
theorem seg_startT {elt iter : Expr} {x : Str} {px : Pos} {scope : Scope} {pos : Pos} {I : Addr} {fp wr : List Addr} {n₀ : Nat} {P : Nat → Value → Prop} {St₀ : Nat → Heap → Prop} {cenv : Env}
    (hh : A.handled = none) (W₀ : ∀ A' : Around, A'.handled = none → Walks prog w A' I fp wr n₀ P St₀) (F : Nat → Value → Prop) (href : Heap)
    (hx : cenv.kindOf x = some .local) (hp : (cenv.scope.kind == .class || (cenv.scope.kind == .module && cenv.locals != cenv.globals)) = false)
    (hco : cenv.scope.isCoroutine = false) (hCf : cenv.locals ∉ fp) (hq : QuietT prog w cenv x elt fp wr P F href (A.depth + 1) (A.units + 3))
    (s₀ s : Shared) (m : Str → Option Value) (ht : 1 ≤ s.toks) (hst : St₀ 0 s.heap) (hn : s.heap.Ns cenv.locals m) (hsince : GenSince cenv.locals wr s₀ s)
    (hkp : ∀ b ∈ fp, b ∉ wr → ∀ o, href.get? b = some o → s.heap.get? b = some o) :
    Seg (model prog w) A (fun n s₀ r s₁ => r = .ok .next ∧ (n = 0 ∧ GenSince cenv.locals wr s₀ s₁)) (protoT cenv.locals fp wr n₀ F) n₀ s₀
      (.compStart (.GeneratorExp elt [⟨.Name x px, iter, [], 0⟩] scope pos) 0 (.ref I) .none cenv)
      ((model prog w).den (.compStart (.GeneratorExp elt [⟨.Name x px, iter, [], 0⟩] scope pos) 0 (.ref I) .none cenv)) [] s := by
  run_tac Mine.Sh.mark
  focus
    have hh' : (A.over (.compStart (.GeneratorExp elt [⟨.Name x px, iter, [], 0⟩] scope pos) 0 (.ref I) .none cenv) []).handled = none := hh
    have loop := seg_loopT (iter := iter) (px := px) (scope := scope) (pos := pos) hh W₀ F href hx hp hco hCf hq n₀ 0 s₀ s m (Nat.sub_zero _) (Nat.zero_le _) ht hst hn hsince hkp
    show Seg _ A _ _ _ s₀ _ ((compStart (.GeneratorExp elt [⟨.Name x px, iter, [], 0⟩] scope pos) 0 (.ref I) .none cenv).onRaise (leaving cenv)) [] s
    unfold compStart
    rw [Sem.onRaise_eq_wrap]
    show Seg _ A _ _ _ s₀ _ ((ask >>= _).wrap _ _ _ _) [] s
    refine seg_bind_wrap (wpAny_askSetting ?_)
    split
    · exact seg_again rfl loop
    · first
        | exact seg_bind_wrap (wpAny_rule (seg_bind_wrap (wpAny_standAt (seg_bind_wrap ((W₀ _ hh').self 0 s _ _ hst (seg_again rfl loop))))))
        | (refine seg_bind_wrap (wpAny_rule ?_); show Seg _ A _ _ _ s₀ _ ((standAt iter.pos >>= _).wrap _ _ _ _) [] s; exact seg_bind_wrap (wpAny_standAt (seg_bind_wrap ((W₀ _ hh').self 0 s _ _ hst (seg_again rfl loop)))))
  run_tac Mine.Sh.fin
noncomputable def GenT (prog : Program) (w : World) (A : Around) (a : Addr) (g : Nat) (C : Addr) (fp wr : List Addr) (n₀ : Nat) (F : Nat → Value → Prop) (j : Nat) (s : Shared) : Prop :=
  s.heap.IsGen a g ∧ s.heap.NoLimit ∧ 1 ≤ s.toks ∧ ∃ gs, s.gens[g]? = some gs ∧ ∀ s'' : Shared, (∀ b ∈ C :: fp, ∀ o, s.heap.get? b = some o → s''.heap.get? b = some o) → 1 ≤ s''.toks →
    gs.Goes (model prog w) A.in1 (fun n s₀ r s₁ => r = .ok .next ∧ (n = 0 ∧ GenSince C wr s₀ s₁)) (protoT C fp wr n₀ F) (n₀ - j) (.send .none) s''
theorem walksT (hh : A.handled = none) (a : Addr) (g : Nat) (C : Addr) (fp wr : List Addr) (n₀ : Nat) (F : Nat → Value → Prop) (haC : a ≠ C) (haf : a ∉ fp) (hsub : ∀ b ∈ wr, b ∈ fp)
    (hroom : A.depth < recursionLimit) (hcs : cStatics ∈ fp) (hcC : cStatics ≠ C) (hcw : cStatics ∉ wr) :
    WalksS prog w A a (a :: C :: fp) (C :: wr) (GenOnlyQ g) n₀ F (GenT prog w A a g C fp wr n₀ F) where
  sub := fun b hb => by
    rcases List.mem_cons.mp hb with rfl | hb
    · simp
    · exact List.mem_cons_of_mem _ (List.mem_cons_of_mem _ (hsub b hb))
  grefl := fun _ => .inl rfl
  gtrans := fun _ _ _ x y => x.trans y
  frame := fun j s h' tk st ht hk =>
    ⟨let ⟨o, nm, qn, ho, r⟩ := st.1; ⟨o, nm, qn, hk a (List.mem_cons_self ..) o ho, r⟩,
     (let ⟨mc, hns, hnn⟩ := st.2.1; ⟨mc, hns.at' fun o e => hk cStatics (List.mem_cons_of_mem _ (List.mem_cons_of_mem _ hcs)) o e, hnn⟩), Nat.le_trans st.2.2.1 ht,
     let ⟨gs, hgs, hgo⟩ := st.2.2.2; ⟨gs, hgs, fun s'' hal => hgo s'' fun b hb o e => hal b hb o (hk b (List.mem_cons_of_mem _ hb) o e)⟩⟩
  item := fun j s Q E hj st hQ => by
    obtain ⟨hg, hl, ht, gs, hgs, hgo⟩ := st
    obtain ⟨m, hm⟩ : ∃ m, n₀ - j = m + 1 := ⟨n₀ - j - 1, by omega⟩
    rw [hm] at hgo
    refine wpAny_with_toks (Nat.le_refl s.toks) ?_
    refine wpAny_pyNext_genexpQ (P := fun n s₀ s₁ => n = 0 ∧ GenSince C wr s₀ s₁) hh hl hroom hg hgs (hgo _ (fun _ _ _ e => e) ht) (fun v s₁ gs' hb hv => ?_) (fun s₁ hp h' hk => ?_)
    · obtain ⟨_, hF, ⟨h₁, tk₁, rfl, hk₁⟩, hkap⟩ := hv
      have haw : a ∉ wr := fun h => haf (hsub a h)
      rw [show n₀ - 1 - (m + 1 - 1) = j by omega] at hF
      intro htk
      refine hQ v _ hF ⟨let ⟨o, nm, qn, ho, r⟩ := hg; ⟨o, nm, qn, hk₁ a o haC haw ho, r⟩, (let ⟨mc, hns, hnn⟩ := hl; ⟨mc, hns.at' fun o e => hk₁ cStatics o hcC hcw e, hnn⟩), Nat.le_trans ht htk, gs', setGen_self (gs := .running) (setGen_self hgs), fun s'' hal ht'' => ?_⟩
        ⟨fun b o hb e => hk₁ b o (fun h => hb (h ▸ List.mem_cons_self ..)) (fun h => hb (List.mem_cons_of_mem _ h)) e, GenOnlyQ.of ((GenOnly.setGen s g .running).trans (GenOnly.setGen _ g gs')) (setGen_self (gs := .running) (setGen_self hgs)) hb, rfl, rfl, htk⟩
      rw [show n₀ - (j + 1) = m by omega]
      exact hkap s'' hal ht''
    · exact absurd hp.1 (Nat.succ_ne_zero m)
  done := fun s Q E st hQ => by
    obtain ⟨hg, hl, ht, gs, hgs, hgo⟩ := st
    rw [Nat.sub_self] at hgo
    refine wpAny_with_toks (Nat.le_refl s.toks) ?_
    refine wpAny_pyNext_genexpQ (P := fun n s₀ s₁ => n = 0 ∧ GenSince C wr s₀ s₁) hh hl hroom hg hgs (hgo _ (fun _ _ _ e => e) ht) (fun v s₁ gs' hb hv => ?_) (fun s₁ hp h' hk => ?_)
    · intro htk
      obtain ⟨_, _, _, hkap⟩ := hv
      exact False.elim (hkap s₁ (fun _ _ _ e => e) (Nat.le_trans ht htk))
    · obtain ⟨_, h₁, tk₁, rfl, hk₁⟩ := hp
      intro htk
      exact hQ _ ⟨fun b o hb e => hk b o (hk₁ b o (fun h => hb (h ▸ List.mem_cons_self ..)) (fun h => hb (List.mem_cons_of_mem _ h)) e), GenOnlyQ.of ((GenOnly.setGen s g .running).trans (GenOnly.setGen _ g .finished)) (setGen_self (gs := .running) (setGen_self hgs)) rfl, rfl, rfl, htk⟩
  self := fun _ _ _ _ st hQ => wpAny_pyIter_gen st.1 hQ
theorem freshT {elt iter : Expr} {x : Str} {px : Pos} {scope : Scope} {pos : Pos} {I a : Addr} {g : Nat} {fp wr : List Addr} {n₀ : Nat} {P : Nat → Value → Prop} {St₀ : Nat → Heap → Prop} {cenv : Env}
    (hh : A.handled = none) (W₀ : ∀ A' : Around, A'.handled = none → Walks prog w A' I fp wr n₀ P St₀) (F : Nat → Value → Prop)
    (hx : cenv.kindOf x = some .local) (hp : (cenv.scope.kind == .class || (cenv.scope.kind == .module && cenv.locals != cenv.globals)) = false)
    (hco : cenv.scope.isCoroutine = false) (hCf : cenv.locals ∉ fp) {s : Shared} {m : Str → Option Value} (hq : QuietT prog w cenv x elt fp wr P F s.heap (A.depth + 1) (A.units + 4))
    (hg : s.heap.IsGen a g) (hgs : s.gens[g]? = some (.fresh (.compStart (.GeneratorExp elt [⟨.Name x px, iter, [], 0⟩] scope pos) 0 (.ref I) .none cenv)))
    (ht : 1 ≤ s.toks) (hst : St₀ 0 s.heap) (hn : s.heap.Ns cenv.locals m) (hl : s.heap.NoLimit) : GenT prog w A a g cenv.locals fp wr n₀ F 0 s :=
  ⟨hg, hl, ht, _, hgs, fun s'' hal ht'' => ⟨rfl, seg_startT (A := A.in1) hh W₀ F s.heap hx hp hco hCf hq s'' s'' m ht'' ((W₀ A hh).frame _ _ _ hst fun b hb o e => hal b (List.mem_cons_of_mem _ hb) o e)
    (hn.at' fun o e => hal _ (List.mem_cons_self ..) o e) (GenSince.refl _ _ _) fun b hb _ o e => hal b (List.mem_cons_of_mem _ hb) o e⟩⟩
end
end

section -- F8
set_option autoImplicit true
section
variable {prog : Program} {w : World} {A : Around} {E : Value → Shared → Prop} {s : Shared} {h₀ : Heap} {L c P : Addr} {ps : Array Value} {m mg mb : Str → Option Value} {news : List (Addr × Obj)} {g : Obj → List (Addr × Obj)} {p : Program} {loose : List Str} {mean : ExcName → Option Value}
theorem genexp_T {Q : Value → Shared → Prop} {env : Env} {elt iter : Expr} {x : Str} {px : Pos} {scope : Scope} {cl : List (Str × Addr)} {pos : Pos} {l : Addr} {n : Nat} {items : Array Value} {Ft : Nat → Value → Prop}
   (Fh : Fr h₀ L s.heap m) (N : News h₀ L s.heap news) (T : Top p loose mean mg mb h₀) (C : CodeHd h₀ c P) (hcode : env.code = .ref c) (hge : env.globals = mainGlobals) (U : UpdF P (tabObj ps) news g) (ht : TriplesOk ps.toList)
   (hl : (l, listOf items n) ∈ news)
   (hh : A.handled = none) (hco : scope.isCoroutine = false) (hclos : closureFor scope env = pure cl) (hcell : ∀ y ∈ scope.names, y.2 ≠ .cell) (h0 : scope.names.lookup (".0" : Str) = some NameKind.local)
   (hx : scope.names.lookup x = some .local) (hkind : scope.kind = .function) (hroom : A.depth < recursionLimit)
   (hit : ∀ Q' : Value → Shared → Prop, Q' (.ref l) s → wpAny (model prog w) A (eval iter env) Q' E s)
   (helt : ∀ (C' : Addr) (cd : Value) (A' : Around) E' i v (t : Shared) m₂, A'.handled = none → A'.depth ≤ A.depth + 1 → A'.units ≤ A.units + 8 → 1 ≤ t.toks → items[i]? = some v → Fr h₀ C' t.heap m₂ → m₂ x = some v →
      wpAny (model prog w) A' (eval elt (genEnv scope cl C' cd builtinsNs env)) (fun y s₃ => Ft i y ∧ Keeps t s₃) E' t)
   (h : ∀ a s₅ ps' K, s₅.os = s.os → s₅.drawn = s.drawn → Fr h₀ L s₅.heap m → News h₀ L s₅.heap (g (tabObj ps')) → Grown pos (env.qual ++ "<genexpr>") s₅.heap ps ps' → L ≤ K → (∀ p ∈ g (tabObj ps'), p.1 ≤ K) →
      Gen prog w A K a items.size Ft s₅ → (AllBare s.gens → AllBare s₅.gens) → Q (.ref a) s₅)
   (hs : ∀ x, genFold iter env x = pure x) :
   wpAny (model prog w) A (eval (.GeneratorExp elt [⟨.Name x px, iter, [], 0⟩] scope pos) env) Q E s := by
  run_tac Mine.Sh.mark
  focus
    obtain ⟨own, rest, rfl, hgr, h1, h2⟩ := U.split
    have hm := N (P, tabObj ps) (List.mem_append_right _ (.head _))
    have hL := (N _ hl)
    obtain ⟨bm, ob, b1, b2, b3, b4, b5, b6⟩ := T.bmain
    have hgs := T.g.keeps Fh.keep
    have hgP : mainGlobals ≠ P := fun q => by
      obtain ⟨o, es, ep, e, hd, _⟩ := hgs
      rw [q, hm.1] at e; cases e; cases hd
    have hbP : bm ≠ P := fun q => by
      have e := Fh.keep _ _ b3
      rw [q, hm.1] at e; cases e; cases b4
    have hlP : l ≠ P := fun q => by
      have e := hL.1
      rw [q, hm.1] at e; cases e
    have hlim := T.nolimit.keeps Fh.keep
    have hcP : cStatics ≠ P := fun e => by
      obtain ⟨_, hns, _⟩ := hlim
      obtain ⟨o, es, ep, ho, hd, _⟩ := hns
      rw [e, hm.1] at ho; cases ho; cases hd
    have hlt : @LT.lt Nat _ l s.heap.objs.size := Heap.lt_size hL.1
    have hPlt : @LT.lt Nat _ P s.heap.objs.size := Heap.lt_size hm.1
    have hLs : @LT.lt Nat _ L s.heap.objs.size := Fh.ns.lt
    have hCs : @LT.lt Nat _ cStatics s.heap.objs.size := by obtain ⟨_, hns, _⟩ := hlim; exact hns.lt
    refine wpAny_GeneratorExp_make hco hclos hcell h0 hkind hroom (hit _ ?_) hs
    have isl : s.heap.IsList l items := ⟨_, hL.1, rfl, n, rfl⟩
    refine wpAny_pyIter_list isl ⟨hlim.push _, ?_⟩
    -- the code
    have key : ∀ cd h₃ tk₃ ps', Heap.ExtBut P (s.heap.push { cls := .type "list_iterator", data := .fields #[.ref l, .int 0 0] }) h₃ → s.heap.objs.size + 1 ≤ h₃.objs.size → h₃.get? P = some (tabObj ps') → Grown pos (env.qual ++ "<genexpr>") h₃ ps ps' →
        wpAny (model prog w) A (builtinsFor env.globals env.builtins) (fun bi s₄ =>
          ∀ h', h'.Ns s₄.heap.objs.size (fun y => if y = ".0" then some (.ref s.heap.objs.size) else none) → Heap.SameBut s₄.heap.objs.size (s₄.heap.push { cls := .type "frame", data := .dict #[] }) h' →
            Q (.ref h'.objs.size) { s₄ with
              gens := s₄.gens.push (.fresh (.compStart (.GeneratorExp elt [⟨.Name x px, iter, [], 0⟩] scope pos) 0 (.ref s.heap.objs.size) .none (genEnv scope cl s₄.heap.objs.size cd bi env))),
              toks := s₄.toks + 1 + 1 + 1,
              heap := h'.push { cls := .type "generator", data := .fields #[.int s₄.gens.size 0, .str "<genexpr>" (s₄.toks + 1), .str (env.qual ++ "<genexpr>") (s₄.toks + 1 + 1)] } }) E { s with heap := h₃, toks := tk₃ } := by
      intro cd h₃ tk₃ ps' hx₃ hsz htab hgrown
      have old : ∀ b o, b ≠ P → s.heap.get? b = some o → h₃.get? b = some o := fun b o hb e => hx₃ b o hb (Heap.get?_push_of_some _ e)
      have itget : h₃.get? s.heap.objs.size = some { cls := .type "list_iterator", data := .fields #[.ref l, .int 0 0] } := hx₃ _ _ (Nat.ne_of_gt hPlt) (Heap.get?_push_size _ rfl)
      have F₃ : Fr h₀ L h₃ m := ⟨Fh.ns.at fun o e => old _ _ hm.2.1.symm e, fun b o e => old b o (fun q => by rw [q, hm.2.2] at e; cases e) (Fh.keep b o e), Fh.above⟩
      have N₃ : News h₀ L h₃ (g (tabObj ps')) := fun q hq => by
        rw [hgr] at hq
        rcases List.mem_append.mp hq with hq | hq
        · have nn := N q (List.mem_append_left _ hq)
          exact ⟨old _ _ (h1 q hq) nn.1, nn.2⟩
        · rcases List.mem_cons.mp hq with rfl | hq
          · exact ⟨htab, hm.2⟩
          · have nn := N q (List.mem_append_right _ (.tail _ hq))
            exact ⟨old _ _ (h2 q hq) nn.1, nn.2⟩
      have small : ∀ q ∈ g (tabObj ps'), q.1 < s.heap.objs.size := fun q hq => by
        rw [hgr] at hq
        rcases List.mem_append.mp hq with hq | hq
        · exact Heap.lt_size (N q (List.mem_append_left _ hq)).1
        · rcases List.mem_cons.mp hq with rfl | hq
          · exact hPlt
          · exact Heap.lt_size (N q (List.mem_append_right _ (.tail _ hq))).1
      have hl₃ : h₃.NoLimit := (hlim.push _).extBut hx₃ hcP
      have hg₃ : h₃.Ns mainGlobals mg := T.g.keeps F₃.keep
      rw [hge]
      refine wpAny_builtinsFor hg₃ b1 b2 (F₃.keep _ _ b3) b4 b5 b6 ?_
      intro h' hn' hs'
      have hsz' : h'.objs.size = h₃.objs.size + 1 := by rw [hs'.1, Heap.size_push]
      have keep' : ∀ b o, h₃.get? b = some o → h'.get? b = some o := fun b o e => hs'.extBut b o (Nat.ne_of_lt (Heap.lt_size e)) (Heap.get?_push_of_some _ e)
      have keep₅ : ∀ b o, h₃.get? b = some o → (h'.push { cls := .type "generator", data := .fields #[.int s.gens.size 0, .str "<genexpr>" (tk₃ + 1), .str (env.qual ++ "<genexpr>") (tk₃ + 1 + 1)] }).get? b = some o := fun b o e => Heap.get?_push_of_some _ (keep' b o e)
      have hcs : @LT.lt Nat _ cStatics h₃.objs.size := by obtain ⟨_, hns, _⟩ := hl₃; exact hns.lt
      have hfp : ∀ b ∈ [s.heap.objs.size, l], b ∈ List.range h₃.objs.size := fun b hb => List.mem_range.mpr (by
        rcases List.mem_cons.mp hb with rfl | hb
        · omega
        · exact List.mem_singleton.mp hb ▸ (by omega))
      have hsub : ∀ b ∈ [s.heap.objs.size], b ∈ List.range h₃.objs.size := fun b hb => hfp b (List.mem_singleton.mp hb ▸ .head _)
      have haC : h'.objs.size ≠ h₃.objs.size := by rw [hsz']; exact Nat.succ_ne_self _
      have haf : h'.objs.size ∉ List.range h₃.objs.size := fun hm => by have := List.mem_range.mp hm; omega
      have hcw : cStatics ∉ [s.heap.objs.size] := fun hm => Nat.ne_of_lt hCs (List.mem_singleton.mp hm)
      have W := walksT (prog := prog) (w := w) (A := A.in4) hh h'.objs.size s.gens.size h₃.objs.size (List.range h₃.objs.size) [s.heap.objs.size] items.size Ft haC haf hsub hroom (List.mem_range.mpr hcs) (Nat.ne_of_lt hcs) hcw
      have G0 := freshT (prog := prog) (w := w) (A := A.in4) (elt := elt) (iter := iter) (px := px) (scope := scope) (pos := pos) (x := x) (I := s.heap.objs.size) (cenv := genEnv scope cl h₃.objs.size cd builtinsNs env) (m := fun y => if y = ".0" then some (.ref s.heap.objs.size) else none) hh
        (fun A' hA => (Walks.list (prog := prog) (w := w) hA s.heap.objs.size l (Nat.ne_of_lt hlt) items).mono_fp hfp) Ft hx (by simp [genEnv, hkind]) hco (fun hm => Nat.lt_irrefl _ (List.mem_range.mp hm))
        (s := { s with heap := (h'.push { cls := .type "generator", data := .fields #[.int s.gens.size 0, .str "<genexpr>" (tk₃ + 1), .str (env.qual ++ "<genexpr>") (tk₃ + 1 + 1)] }), toks := tk₃ + 1 + 1 + 1, gens := s.gens.push (.fresh (.compStart (.GeneratorExp elt [⟨.Name x px, iter, [], 0⟩] scope pos) 0 (.ref s.heap.objs.size) .none (genEnv scope cl h₃.objs.size cd builtinsNs env))) })
        ⟨fun A' E' i v t m₂ hA hD hU hT hP hn hmx hkp => by
          refine helt _ _ A' E' i v t m₂ hA hD hU hT hP ⟨hn, fun b o e => ?_, ?_⟩ hmx
          · have e3 := F₃.keep b o e
            exact hkp b (List.mem_range.mpr (Heap.lt_size e3)) (fun hm => by
              rcases List.mem_cons.mp hm with e4 | hm
              · exact Nat.lt_irrefl _ (Nat.lt_of_lt_of_le (Nat.lt_trans hLs (Nat.lt_of_le_of_lt (Nat.le_of_eq e4.symm) (Heap.lt_size e))) Fh.above)
              · cases hm) o (keep₅ b o e3)
          · exact Nat.le_trans Fh.above (by show @LE.le Nat _ L h₃.objs.size; omega)⟩
        ⟨_, _, _, Heap.get?_push_size _ rfl, rfl, rfl, rfl⟩ (Array.getElem?_push_size ..) (Nat.succ_pos _) ⟨⟨_, keep₅ _ _ itget, rfl, rfl⟩, ⟨_, keep₅ _ _ (old _ _ hlP hL.1), rfl, n, rfl⟩⟩ (hn'.push _) (hl₃.keeps keep₅)
      refine h _ _ ps' (s.heap.objs.size - 1) rfl rfl (F₃.keeps keep₅) (fun q hq => ⟨keep₅ _ _ (N₃ q hq).1, (N₃ q hq).2⟩) ⟨hgrown.1, fun q cv e => (hgrown.2 q cv e).imp id fun z => ⟨z.1, z.2.1, z.2.2.1, z.2.2.2.keeps keep₅⟩⟩ (Nat.le_sub_one_of_lt hLs) (fun q hq => Nat.le_sub_one_of_lt (small q hq)) ⟨_, _, _, _, W, G0, fun i s' st => st.1.typeIs, List.mem_cons_self, ?_, ?_⟩ (fun x => AllBare.push x rfl)
      · intro b hb
        show @LT.lt Nat _ b (h'.push _).objs.size
        rw [Heap.size_push]
        rcases List.mem_cons.mp hb with rfl | hb
        · omega
        · rcases List.mem_cons.mp hb with rfl | hb
          · omega
          · have := List.mem_range.mp hb
            exact Nat.lt_trans this (by omega)
      · intro b hb
        rcases List.mem_cons.mp hb with rfl | hb
        · show @LT.lt Nat _ _ h₃.objs.size; omega
        · rcases List.mem_cons.mp hb with rfl | hb
          · exact Nat.sub_lt (Nat.lt_of_le_of_lt (Nat.zero_le _) hLs) Nat.zero_lt_one
          · cases hb
    have Cs : (s.heap.push { cls := .type "list_iterator", data := .fields #[.ref l, .int 0 0] }).get? P = some (tabObj ps) := Heap.get?_push_of_some _ hm.1
    have C2 : CodeHd (s.heap.push { cls := .type "list_iterator", data := .fields #[.ref l, .int 0 0] }) c P := C.keeps fun b o e => Heap.get?_push_of_some _ (Fh.keep b o e)
    cases hnf : codeAmong pos ps.toList with
    | none =>
      refine wpAny_genexprCodeX hcode (C2.code Cs ht) (C2.tab Cs) hnf fun c' h' tk hx hge' hlt' hc' hrec htab _ => ?_
      have hl : (ps ++ #[rawInt pos.line, rawInt pos.col, Value.ref c']).toList = ps.toList ++ [rawInt pos.line, rawInt pos.col, .ref c'] := by simp
      refine key _ _ _ _ hx (by rw [Heap.size_push] at hge'; omega) htab.2 ⟨by rw [hl]; exact TriplesOk_snoc _ _ _ _ ht, fun q cv e => ?_⟩
      rw [hl] at e
      rcases codeAmong_app _ ht cv e with e | ⟨e1, e2, e3, rfl⟩
      · exact .inl e
      · exact .inr ⟨e1, e2, e3, hrec⟩
    | some cv =>
      obtain ⟨o, vs, file, tf, flags, tg, inF, text, tt, op, ho, hd, h11, h2', h7, h9, h10, hop, hpd, htr, hne⟩ := C2.code Cs ht
      unfold genexprCode codeAt
      rw [hcode, if_neg (show ¬ ((Value.ref c == Value.none) = true) from Bool.false_ne_true)]
      refine wpAny_bind (wpAny_fieldsOf ho hd ?_)
      rw [h11]
      refine wpAny_bind (wpAny_fieldsOf hop hpd ?_)
      rw [hnf]
      exact wpAny_pure (key cv _ _ ps (Heap.ExtBut.refl _ _) (by rw [Heap.size_push]; exact Nat.le_refl _) Cs ⟨ht, fun q cv e => .inl e⟩)
  run_tac Mine.Sh.fin
end
end

section -- Ga
set_option autoImplicit true
noncomputable def TokPos (k : Nat) : Prop := 1 ≤ k
theorem TokPos.succ (k : Nat) : TokPos (k + 1) := Nat.succ_pos _
theorem TokPos.le {k : Nat} (h : TokPos k) : 1 ≤ k := h
theorem TokPos.ne {k : Nat} (h : TokPos k) : @Ne Nat k 0 := Nat.ne_of_gt h
theorem ne_succ (k : Nat) : @Ne Nat k (k + 1) := Nat.ne_of_lt (Nat.lt_succ_self k)
section
variable {prog : Program} {w : World} {M : Model} {A : Around} {E : Value → Shared → Prop} {h₀ hp : Heap} {gn : Array GenState} {dr : Drawn} {tk : Nat} {os : OsState} {L : Addr} {m : Str → Option Value} {news : List (Addr × Obj)} {x y z : Str} {t u v : Tok} {value slice : PySem.Expr}
theorem len1 {c : Nat} : (⟨#[c]⟩ : Str).length = 1 := rfl
theorem with_tp {α : Type} {m : Sem α} {Q : α → Shared → Prop} {E : Value → Shared → Prop} {s : Shared} (hp : TokPos s.toks) (h : wpAny M A m (fun a s' => TokPos s'.toks → Q a s') (fun e s' => TokPos s'.toks → E e s') s) : wpAny M A m Q E s := wpAny_with_toks (n := 1) hp h
theorem gen_succ {α : Type} {m : Sem α} {Q : α → Shared → Prop} {E : Value → Shared → Prop} {h : Heap} {g : Array GenState} {d : Drawn} {t : Nat} {os : OsState} (k : ∀ t, TokPos t → wpAny M A m Q E ⟨h, g, d, t, os⟩) : wpAny M A m Q E ⟨h, g, d, t + 1, os⟩ := k _ (Nat.succ_pos _)
theorem item_strE {i : Int} {Q : Value → Shared → Prop} (he : Txt.item x i = y) (hr : fitsSsize i = true) (h1 : -(x.length : Int) ≤ i) (h2 : i < x.length)
    (h : ∀ t k, TokPos k → Q (.str y t) ⟨hp, gn, dr, k, os⟩)
    (hs : subscripted slice false (.str x t) (.int i u) = operate [.str x t, .int i u] (getItem (.str x t) (.int i u)) := by with_unfolding_all rfl)
    (ht : ∀ r, letTemporaryGo value (.str x t) r = pure () := by intro _; with_unfolding_all rfl) :
    wpAny (model prog w) A (subscriptTail value slice (.str x t) (.int i u)) Q E ⟨hp, gn, dr, tk, os⟩ :=
  item_str hr h1 h2 (fun _ => he ▸ h _ _ (Nat.succ_pos _)) hs ht
theorem slice_strN_ssE {i j : Int} {ui uj : Tok} {a : Addr} {hp' : Heap} {Q : Value → Shared → Prop} (he : Txt.slice x (some i) (some j) = y) (hF : Fr h₀ L hp m) (hN : News h₀ L hp news) (ptk : TokPos tk) (ea : a = hp.objs.size) (eh : hp' = hp.push { cls := .type "slice", data := .fields #[.int i ui, .int j uj, .none] })
    (h : ∀ h' t' k, Fr h₀ L h' m → News h₀ L h' news → TokPos k → Q (.str y t') ⟨h', gn, dr, k, os⟩)
    (hs : subscripted slice false (.str x t) (.ref hp.objs.size) = operate [.ref hp.objs.size, .str x t] (getItem (.str x t) (.ref hp.objs.size)) := by with_unfolding_all rfl)
    (ht : ∀ r, letTemporaryGo value (.str x t) r = pure () := by intro _; with_unfolding_all rfl) (hsz : x.length ≤ sizeLine := by size_fits) :
    wpAny (model prog w) A (subscriptTail value slice (.str x t) (.ref a)) Q E ⟨hp', gn, dr, tk, os⟩ := by
  run_tac Mine.Sh.mark
  focus
    subst ea eh
    refine with_tp (s := ⟨_, _, _, _, _⟩) ptk ?_
    exact slice_strN_ss (s := ⟨hp, gn, dr, tk, os⟩) hF hN (fun h' t' k a b => he ▸ fun pk => h h' t' k a b pk) hs ht hsz
  run_tac Mine.Sh.fin
theorem replaceE {Q : Value → Shared → Prop} (he : Txt.replace x y z = v') (ptk : TokPos tk) (hu : u ≠ 0) (hv : v ≠ 0) (huv : u ≠ v) (hyz : (y == z) = false) (hx : x.length ≤ 1048576) (hz : z.length ≤ 14)
    (hq : ∀ t' k, TokPos k → Q (.str v' t') ⟨hp, gn, dr, k, os⟩) : wpAny (model prog w) A (call (.builtin "str.replace") [.str x t, .str y u, .str z v]) Q E ⟨hp, gn, dr, tk, os⟩ := by
  refine with_tp (s := ⟨_, _, _, _, _⟩) ptk ?_
  exact SC.replaceW hu hv huv hyz hx hz fun t' k => he ▸ fun pk => hq t' k pk
theorem gives_find4 (x y : Str) (i j : Int) (t u v r : Tok) : Gives (Builtin.«str.find» ⟨[.str x t, .str y u, .int i v, .int j r], []⟩) (.int (match Builtin.Str.occurrences x y (fromIndex x.length i) (min (fromIndex x.length j) x.length) 1 with | k :: _ => (k : Int) | [] => -1)) := by
  run_tac Mine.Sh.mark
  focus
    show Gives (match Builtin.Str.occurrences x y (fromIndex x.length i) (min (fromIndex x.length j) x.length) 1 with | k :: _ => retInt k | [] => (do rule "str.find.not-found"; retInt (-1))) _
    cases Builtin.Str.occurrences x y (fromIndex x.length i) (min (fromIndex x.length j) x.length) 1 with
    | nil => exact .rule (.of_eq rfl)
    | cons k _ => exact .of_eq rfl
  run_tac Mine.Sh.fin
noncomputable def find4 (x y : Str) (i j : Int) : Int := match Builtin.Str.occurrences x y (fromIndex x.length i) (min (fromIndex x.length j) x.length) 1 with | k :: _ => (k : Int) | [] => -1
theorem find4E {i j k : Int} {r : Tok} {Q : Value → Shared → Prop} (he : find4 x y i j = k) (hq : ∀ t n, TokPos n → Q (.int k t) ⟨hp, gn, dr, n, os⟩) : wpAny (model prog w) A (call (.builtin "str.find") [.str x t, .str y u, .int i v, .int j r]) Q E ⟨hp, gn, dr, tk, os⟩ := by
  run_tac Mine.Sh.mark
  focus
    refine call_gives F.slot_str_find (typeIs_str _ _ _) F.entry_str_find (F.args_str_find_4 _ _ _ _) (gives_find4 x y i j t u v r) ?_
    have : Q (.int (find4 x y i j) tk) ⟨hp, gn, dr, tk + 1, os⟩ := he ▸ hq _ _ (Nat.succ_pos _)
    exact this
  run_tac Mine.Sh.fin
theorem item_ledE {l : Addr} {its : Array Value} {n : Nat} {k : Int} {w' : Value} {Q : Value → Shared → Prop} (j : Nat) (N : News h₀ L hp news) (hm : (l, listOf its n) ∈ news) (hk : k = (j : Int)) (hlt : (j : Int) < 2 ^ 63) (hj : its[j]? = some w') (h : Q w' ⟨hp, gn, dr, tk, os⟩)
    (hs : subscripted slice false (.ref l) (.int k u) = operate [.ref l, .int k u] (getItem (.ref l) (.int k u)) := by with_unfolding_all rfl) :
    wpAny (model prog w) A (subscriptTail value slice (.ref l) (.int k u)) Q E ⟨hp, gn, dr, tk, os⟩ := by
  run_tac Mine.Sh.mark
  focus
    have hl : (⟨hp, gn, dr, tk, os⟩ : Shared).heap.IsList l its := ⟨_, (N _ hm).1, rfl, n, rfl⟩
    refine tail_any hl.typeIs slot_list_getitem.lookup (wpAny_getItem_list hl (by omega) (by omega) ?_ h) hs
    subst hk
    simpa using hj
  run_tac Mine.Sh.fin
theorem item_led0 {l : Addr} {v1 v2 : Value} {n : Nat} {k : Int} {Q : Value → Shared → Prop} (N : News h₀ L hp news) (hm : (l, listOf ((#[].push v1).push v2) n) ∈ news) (hk : k = 0) (h : Q v1 ⟨hp, gn, dr, tk, os⟩)
    (hs : subscripted slice false (.ref l) (.int k u) = operate [.ref l, .int k u] (getItem (.ref l) (.int k u)) := by with_unfolding_all rfl) :
    wpAny (model prog w) A (subscriptTail value slice (.ref l) (.int k u)) Q E ⟨hp, gn, dr, tk, os⟩ := item_ledE 0 N hm hk (by decide) rfl h hs
theorem item_led1 {l : Addr} {v1 v2 : Value} {n : Nat} {k : Int} {Q : Value → Shared → Prop} (N : News h₀ L hp news) (hm : (l, listOf ((#[].push v1).push v2) n) ∈ news) (hk : k = 1) (h : Q v2 ⟨hp, gn, dr, tk, os⟩)
    (hs : subscripted slice false (.ref l) (.int k u) = operate [.ref l, .int k u] (getItem (.ref l) (.int k u)) := by with_unfolding_all rfl) :
    wpAny (model prog w) A (subscriptTail value slice (.ref l) (.int k u)) Q E ⟨hp, gn, dr, tk, os⟩ := item_ledE 1 N hm hk (by decide) rfl h hs
theorem neAll_mem {d : Nat} {q : Addr × Obj} : ∀ {l : List (Addr × Obj)}, NeAll d l → q ∈ l → q.1 ≠ d
  | [], _, h => nomatch h
  | p :: r, n, h => by
    rcases List.mem_cons.mp h with rfl | h
    · exact n.1
    · exact neAll_mem n.2 h
theorem unrEnd_tail {I : Addr} {it : Obj} {rest : (Str → Option Value) → List (Addr × Obj) → Prop} {s₁ : Shared} {h' : Heap} {tk' : Nat} {m' : Str → Option Value} {news' : List (Addr × Obj)} (F : Fr h₀ L h' m') (N : News h₀ L h' ((I, it) :: news')) (off : NeAll I news') (r : rest m' news') : UnrEnd h₀ L s₁ I it rest { s₁ with heap := h', toks := tk' } :=
  UnrEnd.intro F N news' (fun _ h => h) (fun _ h => neAll_mem off h) r
theorem join_E {K a : Addr} {n : Nat} {Ft : Nat → Value → Prop} {Q : Value → Shared → Prop} {sep J : Str} (Fh : Fr h₀ L hp m) (N : News h₀ L hp news) (ptk : TokPos tk) (X : Gen prog w A K a n Ft ⟨hp, gn, dr, tk, os⟩) (hLK : L ≤ K) (hnK : ∀ p ∈ news, p.1 ≤ K) (tx : Nat → Str) (htx : ∀ j v, Ft j v → ∃ u, v = .str (tx j) u)
    (hok : JoinOk sep ((List.range n).map tx) = true) (he : Txt.join sep ((List.range n).map tx) = J) (hsz : n ≤ sizeLine)
    (hQ : ∀ h' g' k t', (AllBare gn → AllBare g') → Fr h₀ L h' m → News h₀ L h' news → TokPos k → Q (.str J t') ⟨h', g', dr, k, os⟩) : wpAny (model prog w) A (call (.builtin "str.join") [.str sep t, .ref a]) Q E ⟨hp, gn, dr, tk, os⟩ := by
  run_tac Mine.Sh.mark
  focus
    refine with_tp (s := ⟨hp, gn, dr, tk, os⟩) ptk ?_
    refine join_K (s := ⟨hp, gn, dr, tk, os⟩) Fh N X hLK hnK tx htx hok (fun s' t' F' N' e1 e2 bb pk => ?_) hsz
    obtain ⟨h', g', d', k', o'⟩ := s'
    dsimp only at F' N' e1 e2 bb pk
    subst e1 e2
    rw [he]
    exact hQ _ _ _ _ bb F' N' pk
  run_tac Mine.Sh.fin
theorem call_groupE {s : Shared} {text : Str} {t1 : Tok} {lim : Int} {mo tu : Addr} {Q : Value → Shared → Prop} (he : (⟨text.cps.extract 0 1⟩ : Str) = y) (hm : s.heap.get? mo = some (matchObj text t lim tu)) (ht : s.heap.get? tu = some spanObj)
   (h : ∀ t' k, Q (.str y t') { s with toks := k }) : wpAny (model prog w) A (call (.builtin "re.Match.group") [.ref mo, .int 1 t1]) Q E s := call_group hm ht (he ▸ h)
theorem truthyE {Q : Bool → Shared → Prop} {K : Nat} (hp1 : 1 ≤ x.length) (hl : x.length ≤ K) (hK : K ≤ 16777216) (h : ∀ k, Q true ⟨hp, gn, dr, k, os⟩) : wpAny (model prog w) A (PySem.truthy (.str x t)) Q E ⟨hp, gn, dr, tk, os⟩ := KXt.truthy_pos hp1 hl hK h
end
end

section -- G4
set_option autoImplicit true
noncomputable abbrev gElt : Expr := (PySem.Expr.Call
  (func := (PySem.Expr.Attribute
    (value := (PySem.Expr.Call
      (func := (PySem.Expr.Attribute (PySem.Expr.Name "s" ⟨57, 38, 57, 39⟩) "replace" ⟨57, 38, 57, 47⟩))
      (args := [
        (PySem.Expr.Constant (PySem.Const.str "\\") 0 ⟨57, 48, 57, 52⟩),
        (PySem.Expr.Constant (PySem.Const.str "\\\\") 0 ⟨57, 54, 57, 60⟩)])
      (keywords := [])
      (pos := ⟨57, 38, 57, 61⟩)))
    (attr := "replace")
    (pos := ⟨57, 38, 57, 69⟩)))
  (args := [
    (PySem.Expr.Constant (PySem.Const.str "-") 0 ⟨57, 70, 57, 73⟩),
    (PySem.Expr.Constant (PySem.Const.str "\\-") 0 ⟨57, 75, 57, 80⟩)])
  (keywords := [])
  (pos := ⟨57, 38, 57, 81⟩))
noncomputable abbrev gScope : Scope := { kind := PySem.ScopeKind.function, names := [(PySem.Str.ofString ".0", PySem.NameKind.local), (PySem.Str.ofString "s", PySem.NameKind.local)], isGenerator := true, isCoroutine := false, more := [] }
noncomputable abbrev posG : Pos := ⟨57, 37, 57, 98⟩
noncomputable abbrev posL : Pos := ⟨58, 39, 58, 76⟩
local macro_rules | `(tactic| walk_at "call builtin:str.replace") => Mine.Tx.line "(k_here; (refine replaceE (by with_reducible assumption) (by first | with_reducible assumption | exact TokPos.succ _) (by first | exact Nat.succ_ne_zero _ | exact TokPos.ne (by with_reducible assumption)) (by first | exact Nat.succ_ne_zero _ | exact TokPos.ne (by with_reducible assumption)) (by first | exact ne_succ _ | ((show @Ne Nat _ _); omega)) (by decide +kernel) (by first | omega | (show (1 : Nat) ≤ _; decide)) (by decide +kernel) ?_); intro t' k' ptk')"
theorem gen_elt (w : World) (loose : List Str) (mean : ExcName → Option Value) (mg mb : Str → Option Value) (A : Around) (E Q : Value → Shared → Prop) (hp : Heap) (C' : Addr) (cd : Value) (cl : List (Str × Addr)) (env : Env) (m : Str → Option Value)
   (h : Heap) (gn : Array GenState) (dr : Drawn) (tk : Nat) (os : OsState) (x y z : Str) (tx : Tok) (hx : x.length ≤ 5) (hy : y.length ≤ 5) (r1 : Txt.replace x (Str.ofString "\\") (Str.ofString "\\\\") = y) (r2 : Txt.replace y (Str.ofString "-") (Str.ofString "\\-") = z)
   (X : (Mine.hd.heap_39 w.params).In hp) (T : Top topProg loose mean mg mb hp) (F' : Fr hp C' h (fun y => if y = Str.ofString "s" then some (.str x tx) else m y)) (N' : News hp C' h [])
   (hh : A.handled = none) (hd : A.depth + 10 < recursionLimit) (hu : A.units + 80 < cLine) (ht : TokPos tk)
   (hq : ∀ t' k, Q (.str z t') ⟨h, gn, dr, k, os⟩) :
   wpAny (model prg w) A (eval gElt (genEnv gScope cl C' cd builtinsNs env)) Q E ⟨h, gn, dr, tk, os⟩ := by
  run_tac Mine.Sh.mark
  focus
    unfold genEnv
    k_with_none
    k_steps
    all_goals first | exact hq _ _ | exact (0 : Nat) | exact Str.ofString "" | exact Value.none
  run_tac Mine.Sh.fin
end

section -- Gp
structure SubHit (text : Str) (c : Nat) (K : Str) : Prop where
  h0 : (Sre.forSearch code35 text.cps 1 0 text.cps.size false).outcome = none
  hf : fate (Sre.forSearch code35 text.cps 1 0 text.cps.size false) = some true
  hm : isHit (drv 30 (Sre.forSearch code35 text.cps 1 0 text.cps.size false)) = true
  h0' : (Sre.forSearch code35 text.cps 1 1 text.cps.size false).outcome = none
  hf' : fate (Sre.forSearch code35 text.cps 1 1 text.cps.size false) = some false
  hd : 1 < text.cps.size
  hs : text.cps.size ≤ 20
  hx : (⟨text.cps.extract 0 1⟩ : Str) = S1 c
  hok : JoinOk "" [Str.ofString "\\" ++ S1 c, ⟨text.cps.extract 1 text.cps.size⟩] = true
  hj : Txt.join "" [Str.ofString "\\" ++ S1 c, ⟨text.cps.extract 1 text.cps.size⟩] = K
inductive SubTo (J : Str) : Str → Prop
  | hit {c : Nat} {K : Str} : SubHit J c K → SubTo J K
  | none : SubNone J → SubTo J J
inductive PieceAt (P : Str) (i : Int) : Str → Int → Prop
  | q : Txt.item P i = S1 63 → PieceAt P i (Str.ofString ".") (i + 1)
  | sign (c : Nat) : c < 256 → Txt.item P i = S1 c → (S1 c == Str.ofString "*") = false → (S1 c == Str.ofString "?") = false → (S1 c == Str.ofString "[") = false → PieceAt P i (escS c) (i + 1)
  | set (c : Nat) (hat : Bool) : Txt.item P i = S1 91 → Txt.item P (i + 1) = S1 c → Txt.item P (i + 1 + 1) = S1 93 → Txt.slice P (some (i + 1)) (some (i + 1 + 1)) = S1 c →
      (S1 c == Str.ofString "!") = false → (S1 c == Str.ofString "]") = false → (S1 c != Str.ofString "]") = true → ([Str.ofString "^", Str.ofString "["].any fun x => x == S1 c) = hat →
      (Builtin.Str.occurrences (S1 c) (Str.ofString "-") 0 (S1 c).length 1).isEmpty = true → Txt.replace (S1 c) (Str.ofString "\\") (Str.ofString "\\\\") = S1 c → Txt.item (S1 c) 0 = S1 c →
      SubNone (S1 c) →
      PieceAt P i (Str.empty ++ Str.ofString "[" ++ (bif hat then Str.ofString "\\" ++ S1 c else S1 c) ++ Str.ofString "]") (i + 1 + 1 + 1)
  | brk (B C : Str) : Txt.item P i = S1 91 → Txt.item P (i + 1) = S1 93 → Txt.item P (i + 1 + 1) = S1 92 → Txt.item P (i + 1 + 1 + 1) = S1 93 → Txt.slice P (some (i + 1)) (some (i + 1 + 1 + 1)) = B →
      B.length = 2 → C.length = 3 → (Builtin.Str.occurrences B (Str.ofString "-") 0 B.length 1).isEmpty = true → Txt.replace B (Str.ofString "\\") (Str.ofString "\\\\") = C → SubNone C → (C == Str.ofString "!") = false → Txt.item C 0 = S1 93 →
      PieceAt P i (Str.empty ++ Str.ofString "[" ++ C ++ Str.ofString "]") (i + 1 + 1 + 1 + 1)
  | rng (a b e : Nat) (hat : Bool) (X y z y2 z2 J K : Str) : Txt.item P i = S1 91 → Txt.item P (i + 1) = S1 a → Txt.item P (i + 1 + 1) = S1 45 → Txt.item P (i + 1 + 1 + 1) = S1 b → Txt.item P (i + 1 + 1 + 1 + 1) = S1 93 →
      (S1 a == Str.ofString "!") = false → (S1 a == Str.ofString "]") = false → (S1 a != Str.ofString "]") = true → (S1 b != Str.ofString "]") = true →
      Txt.slice P (some (i + 1)) (some (i + 1 + 1 + 1 + 1)) = X → X.length = 3 → (Builtin.Str.occurrences X (Str.ofString "-") 0 X.length 1).isEmpty = false →
      find4 P (Str.ofString "-") (i + 1 + 1) (i + 1 + 1 + 1 + 1) = i + 1 + 1 → find4 P (Str.ofString "-") (i + 1 + 1 + 3) (i + 1 + 1 + 1 + 1) = -1 →
      Txt.slice P (some (i + 1)) (some (i + 1 + 1)) = S1 a → Txt.slice P (some (i + 1 + 1 + 1)) (some (i + 1 + 1 + 1 + 1)) = S1 b → Txt.item (S1 a) (-1) = S1 a → Txt.item (S1 b) 0 = S1 b →
      decide ((S1 b).cps.toList < (S1 a).cps.toList) = false →
      Txt.replace (S1 a) (Str.ofString "\\") (Str.ofString "\\\\") = y → Txt.replace y (Str.ofString "-") (Str.ofString "\\-") = z → Txt.replace (S1 b) (Str.ofString "\\") (Str.ofString "\\\\") = y2 → Txt.replace y2 (Str.ofString "-") (Str.ofString "\\-") = z2 →
      y.length ≤ 5 → z.length ≤ 5 → y2.length ≤ 5 → z2.length ≤ 5 → Txt.join (Str.ofString "-") [z, z2] = J → JoinOk (Str.ofString "-") [z, z2] = true → J.length ≤ 12 → SubTo J K → 3 ≤ K.length → K.length ≤ 13 → (K == Str.ofString "!") = false → Txt.item K 0 = S1 e → (S1 e == Str.ofString "!") = false →
      ([Str.ofString "^", Str.ofString "["].any fun x => x == S1 e) = hat →
      PieceAt P i (Str.empty ++ Str.ofString "[" ++ (bif hat then Str.ofString "\\" ++ K else K) ++ Str.ofString "]") (i + 1 + 1 + 1 + 1 + 1)
inductive Pieces (P : Str) (n : Int) : Int → List Str → Prop
  | nil {i : Int} : i = n → Pieces P n i []
  | cons {i i' : Int} {r : Str} {rs : List Str} : PieceAt P i r i' → i < i' → i' ≤ n → Pieces P n i' rs → Pieces P n i (r :: rs)
inductive StrVals : List Value → List Str → Prop
  | nil : StrVals [] []
  | cons {x : Str} {t : Tok} {vs : List Value} {xs : List Str} : StrVals vs xs → StrVals (.str x t :: vs) (x :: xs)
theorem StrVals.length {vs : List Value} {xs : List Str} (h : StrVals vs xs) : vs.length = xs.length := by
  run_tac Mine.Sh.mark
  focus
    induction h with
    | nil => rfl
    | cons _ ih => simp [ih]
  run_tac Mine.Sh.fin
theorem StrVals.snoc {vs : List Value} {xs : List Str} (h : StrVals vs xs) (x : Str) (t : Tok) : StrVals (vs ++ [.str x t]) (xs ++ [x]) := by
  run_tac Mine.Sh.mark
  focus
    induction h with
    | nil => exact .cons .nil
    | cons _ ih => exact .cons ih
  run_tac Mine.Sh.fin
end

section -- Pf
noncomputable def Mid (P X : Str) (i : Nat) : Prop := ∃ a b : List Nat, P.cps.toList = a ++ (X.cps.toList ++ b) ∧ a.length = i
theorem Mid.le {P X : Str} {i : Nat} (h : Mid P X i) : i + X.length ≤ P.length := by
  run_tac Mine.Sh.mark
  focus
    obtain ⟨a, b, e, rfl⟩ := h
    have : P.length = P.cps.toList.length := rfl
    have h2 : X.length = X.cps.toList.length := rfl
    rw [this, h2, e]; simp
  run_tac Mine.Sh.fin
theorem Mid.get {P X : Str} {i k : Nat} (h : Mid P X i) (hk : k < X.length) : P.cps.toList[i + k]? = X.cps.toList[k]? := by
  obtain ⟨a, b, e, rfl⟩ := h
  rw [e, List.getElem?_append_right (by omega), Nat.add_sub_cancel_left, List.getElem?_append_left hk]
theorem item_get (x : Str) (j : Nat) (c : Nat) (h : x.cps.toList[j]? = some c) : Txt.item x (j : Int) = S1 c := by
  run_tac Mine.Sh.mark
  focus
    have hj : j < x.length := (List.getElem?_eq_some_iff.mp h).1
    unfold Txt.item Txt.charAt seqIndex?
    have h1 : ¬ ((j : Int) < 0) := by omega
    have h2 : ((0 : Int) ≤ (j : Int) && decide ((j : Int) < (x.length : Int))) = true := by simp; omega
    simp only [if_neg h1]
    rw [if_pos h2]
    have : x.cps[j]? = some c := by rw [← Array.getElem?_toList]; exact h
    simp [this]
  run_tac Mine.Sh.fin
theorem Mid.item {P X : Str} {i k c : Nat} (h : Mid P X i) (hx : X.cps.toList[k]? = some c) : Txt.item P ((i + k : Nat) : Int) = S1 c :=
  item_get P _ c (by rw [h.get (List.getElem?_eq_some_iff.mp hx).1]; exact hx)
theorem Mid.slice {P X : Str} {i k l : Nat} (h : Mid P X i) (hkl : k ≤ l) (hl : l ≤ X.length) (y : Str) (hy : y.cps.toList = (X.cps.toList.drop k).take (l - k)) : Txt.slice P (some ((i + k : Nat) : Int)) (some ((i + l : Nat) : Int)) = y := by
  run_tac Mine.Sh.mark
  focus
    have hle := h.le
    have e := eq_of_beq (slice_closes (x := P) (i := ((i + k : Nat) : Int)) (j := ((i + l : Nat) : Int)) ⟨by omega, by omega, by have : P.cps.toList.length = P.length := rfl; omega⟩)
    rw [e]
    obtain ⟨a, b, ea, rfl⟩ := h
    have : (P.cps.toList.drop (a.length + k)).take (l - k) = y.cps.toList := by
      have hX : X.length = X.cps.toList.length := rfl
      rw [ea, List.drop_append, List.drop_eq_nil_of_le (by omega), List.nil_append, Nat.add_sub_cancel_left, List.drop_append_of_le_length (by omega), List.take_append_of_le_length (by rw [List.length_drop]; omega)]
      exact hy.symm
    have e2 : (((a.length + l : Nat) : Int) - ((a.length + k : Nat) : Int)).toNat = l - k := by omega
    rw [Int.toNat_natCast, e2, this]
  run_tac Mine.Sh.fin
theorem occ_from_first {x y : Str} {lo hi : Nat} (h1 : lo + y.length ≤ hi) (h2 : Builtin.Str.subAt x y lo = true) : Builtin.Str.occurrences x y lo hi 1 = [lo] := by
  run_tac Mine.Sh.mark
  focus
    rw [StrLaws.occ_eq]
    have stay : ∀ (l : List Nat) (st : Array Nat × Nat), st.fst.size = 1 → (forIn l st (StrLaws.occBody x y hi 1)).run.fst = st.fst := by
      intro l
      induction l with
      | nil => intro st _; rfl
      | cons a l ih =>
        intro st hs
        rw [List.forIn_cons]
        unfold StrLaws.occBody
        rw [if_neg (by rw [hs]; omega)]
        exact ih _ hs
    have : hi + 1 - lo = (hi - lo) + 1 := by omega
    rw [this, List.range'_succ, List.forIn_cons]
    unfold StrLaws.occBody
    rw [if_pos ⟨⟨⟨by simp, Nat.le_refl _⟩, h1⟩, h2⟩]
    exact (congrArg Array.toList (stay (List.range' (lo + 1) (hi - lo)) (#[].push lo, lo + y.length) (by simp))).trans (by simp)
  run_tac Mine.Sh.fin
theorem occ_empty {x y : Str} {lo hi n : Nat} (h : hi < lo) : Builtin.Str.occurrences x y lo hi n = [] := by
  run_tac Mine.Sh.mark
  focus
    rw [StrLaws.occ_eq]
    have : hi + 1 - lo = 0 := by omega
    rw [this]
    simp
  run_tac Mine.Sh.fin
theorem fromIndex_nat (n j : Nat) : fromIndex n (j : Int) = j := by
  run_tac Mine.Sh.mark
  focus
    unfold fromIndex
    rw [if_neg (by omega)]
    omega
  run_tac Mine.Sh.fin
theorem Mid.find {P X : Str} {i k l : Nat} (h : Mid P X i) (hk : k < l) (hl : l ≤ X.length) (hx : X.cps.toList[k]? = some 45) : find4 P (Str.ofString "-") ((i + k : Nat) : Int) ((i + l : Nat) : Int) = ((i + k : Nat) : Int) := by
  run_tac Mine.Sh.mark
  focus
    have hle := h.le
    unfold find4
    rw [fromIndex_nat, fromIndex_nat, Nat.min_eq_left (by omega), occ_from_first (show i + k + 1 ≤ i + l by omega)]
    unfold Builtin.Str.subAt
    have hg : P.cps.toList[i + k]? = some 45 := by rw [h.get (by omega)]; exact hx
    have hlt : i + k < P.cps.size := by have : P.cps.size = P.length := rfl; omega
    have : P.cps[i + k] = 45 := by
      rw [← Array.getElem_toList]
      exact (List.getElem?_eq_some_iff.mp hg).2
    show (P.cps.extract (i + k) (i + k + 1) == #[45]) = true
    rw [show P.cps.extract (i + k) (i + k + 1) = #[45] from ?_]
    · rfl
    · apply Array.ext
      · simp; omega
      · intro m h1 h2
        have : m = 0 := by simp at h2; omega
        subst this
        simp [this]
  run_tac Mine.Sh.fin
theorem find_none {P : Str} {i j : Nat} (h : j < i) : find4 P (Str.ofString "-") (i : Int) (j : Int) = -1 := by
  unfold find4
  rw [fromIndex_nat, fromIndex_nat, occ_empty (by omega)]
end

section -- Pg
inductive CodesOk (P : Str) : List (Int × Int) → Prop
  | dot : (P == Str.ofString ".") = true → CodesOk P [(0, 255)]
  | plain (c : Nat) : P = S1 c → (S1 c == Str.ofString ".") = false → (Builtin.Str.occurrences (Str.ofString "^$*+?{}[]()|\\") (S1 c) 0 (Str.ofString "^$*+?{}[]()|\\").length 1).isEmpty = true → CodesOk P [((c : Int), (c : Int))]
  | esc (c : Nat) : P.length = 2 → (P == Str.ofString ".") = false → Txt.item P 0 = S1 92 → Txt.item P 1 = S1 c → Txt.isalnum (S1 c) = false → CodesOk P [((c : Int), (c : Int))]
  | one (a n k : Nat) (B : Str) : P.length = n → 3 ≤ n ∧ n ≤ 9 → Txt.item P 0 = S1 91 → (Txt.item P 1 == Str.ofString "^") = false → Txt.item P (-1) = S1 93 → (P == Str.ofString ".") = false → Txt.slice P (some 1) (some (-1)) = B → B.length = k → 0 < k ∧ k ≤ 9 →
      signAt B 0 = (S1 a, (k : Int)) → (Txt.slice B (some (k : Int)) (some ((k : Int) + 1)) == Str.ofString "-") = false → CodesOk P [((a : Int), (a : Int))]
  | two (a b n k : Nat) (q : Int) (B : Str) : P.length = n → 3 ≤ n ∧ n ≤ 9 → Txt.item P 0 = S1 91 → (Txt.item P 1 == Str.ofString "^") = false → Txt.item P (-1) = S1 93 → (P == Str.ofString ".") = false → Txt.slice P (some 1) (some (-1)) = B → B.length = k → 0 < k ∧ k ≤ 9 → 0 < q ∧ q < (k : Int) →
      signAt B 0 = (S1 a, q) → (Txt.slice B (some q) (some (q + 1)) == Str.ofString "-") = false → signAt B q = (S1 b, (k : Int)) → (Txt.slice B (some (k : Int)) (some ((k : Int) + 1)) == Str.ofString "-") = false → CodesOk P [((a : Int), (a : Int)), ((b : Int), (b : Int))]
  | range (a b n k : Nat) (q : Int) (B : Str) : P.length = n → 3 ≤ n ∧ n ≤ 9 → Txt.item P 0 = S1 91 → (Txt.item P 1 == Str.ofString "^") = false → Txt.item P (-1) = S1 93 → (P == Str.ofString ".") = false → Txt.slice P (some 1) (some (-1)) = B → B.length = k → 0 < k ∧ k ≤ 9 →
      signAt B 0 = (S1 a, q) → 0 < q ∧ q < 9 → (Txt.slice B (some q) (some (q + 1)) == Str.ofString "-") = true → signAt B (q + 1) = (S1 b, (k : Int)) → CodesOk P [((a : Int), (b : Int))]
noncomputable def chkNone (t : Str) : Bool := (Sre.forSearch code35 t.cps 1 0 t.cps.size false).outcome.isNone && (fate (Sre.forSearch code35 t.cps 1 0 t.cps.size false) == some false) && decide (0 < t.cps.size) && decide (t.cps.size ≤ 20) && JoinOk "" [t] && (Txt.join "" [t] == t)
theorem subNone_of {t : Str} (h : chkNone t = true) : SubNone t := by
  run_tac Mine.Sh.mark
  focus
    unfold chkNone at h
    simp only [Bool.and_eq_true, decide_eq_true_eq, beq_iff_eq, Option.isNone_iff_eq_none] at h
    obtain ⟨⟨⟨⟨⟨h1, h2⟩, h3⟩, h4⟩, h5⟩, h6⟩ := h
    exact ⟨h1, h2, h3, h4, h5, h6⟩
  run_tac Mine.Sh.fin
noncomputable def chkHit (t : Str) (c : Nat) (K : Str) : Bool := (Sre.forSearch code35 t.cps 1 0 t.cps.size false).outcome.isNone && (fate (Sre.forSearch code35 t.cps 1 0 t.cps.size false) == some true) && isHit (drv 30 (Sre.forSearch code35 t.cps 1 0 t.cps.size false)) &&
  (Sre.forSearch code35 t.cps 1 1 t.cps.size false).outcome.isNone && (fate (Sre.forSearch code35 t.cps 1 1 t.cps.size false) == some false) && decide (1 < t.cps.size) && decide (t.cps.size ≤ 20) && ((⟨t.cps.extract 0 1⟩ : Str) == S1 c) &&
  JoinOk "" [Str.ofString "\\" ++ S1 c, ⟨t.cps.extract 1 t.cps.size⟩] && (Txt.join "" [Str.ofString "\\" ++ S1 c, ⟨t.cps.extract 1 t.cps.size⟩] == K)
theorem subHit_of {t K : Str} {c : Nat} (h : chkHit t c K = true) : SubHit t c K := by
  run_tac Mine.Sh.mark
  focus
    unfold chkHit at h
    simp only [Bool.and_eq_true, decide_eq_true_eq, beq_iff_eq, Option.isNone_iff_eq_none] at h
    obtain ⟨⟨⟨⟨⟨⟨⟨⟨⟨h1, h2⟩, h3⟩, h4⟩, h5⟩, h6⟩, h7⟩, h8⟩, h9⟩, h10⟩ := h
    exact ⟨h1, h2, h3, h4, h5, h6, h7, h8, h9, h10⟩
  run_tac Mine.Sh.fin
noncomputable def hatOf (c : Nat) : Bool := [Str.ofString "^", Str.ofString "["].any fun x => x == S1 c
noncomputable def yOf (c : Nat) : Str := Txt.replace (S1 c) (Str.ofString "\\") (Str.ofString "\\\\")
noncomputable def zOf (c : Nat) : Str := Txt.replace (yOf c) (Str.ofString "-") (Str.ofString "\\-")
noncomputable def jOf (a b : Nat) : Str := Txt.join (Str.ofString "-") [zOf a, zOf b]
noncomputable def hitOf (a : Nat) : Bool := a == 38 || a == 124 || a == 126
noncomputable def kOf (a b : Nat) : Str := if hitOf a = true then Txt.join "" [Str.ofString "\\" ++ S1 a, ⟨(jOf a b).cps.extract 1 (jOf a b).cps.size⟩] else jOf a b
noncomputable def eOf (a b : Nat) : Nat := (kOf a b).cps.getD 0 0
noncomputable def rngOf (a b : Nat) : Str := Str.empty ++ Str.ofString "[" ++ (bif hatOf (eOf a b) then Str.ofString "\\" ++ kOf a b else kOf a b) ++ Str.ofString "]"
noncomputable def chkRng (a b : Nat) : Bool :=
  (S1 a == Str.ofString "!") == false && (S1 a == Str.ofString "]") == false && (S1 b == Str.ofString "]") == false &&
  (Builtin.Str.occurrences ⟨#[a, 45, b]⟩ (Str.ofString "-") 0 3 1).isEmpty == false && decide ((S1 b).cps.toList < (S1 a).cps.toList) == false &&
  decide ((yOf a).length ≤ 5) && decide ((zOf a).length ≤ 5) && decide ((yOf b).length ≤ 5) && decide ((zOf b).length ≤ 5) && JoinOk (Str.ofString "-") [zOf a, zOf b] && decide ((jOf a b).length ≤ 12) &&
  (bif hitOf a then chkHit (jOf a b) a (kOf a b) else chkNone (jOf a b)) && decide (3 ≤ (kOf a b).length) && decide ((kOf a b).length ≤ 13) && (kOf a b == Str.ofString "!") == false && (Txt.item (kOf a b) 0 == S1 (eOf a b)) && (S1 (eOf a b) == Str.ofString "!") == false
theorem piece_rng {P : Str} {i a b : Nat} (h : chkRng a b = true) (M : Mid P ⟨#[91, a, 45, b, 93]⟩ i) : PieceAt P (i : Int) (rngOf a b) ((i : Int) + 1 + 1 + 1 + 1 + 1) := by
  run_tac Mine.Sh.mark
  focus
    unfold chkRng at h
    simp only [Bool.and_eq_true, decide_eq_true_eq, beq_iff_eq] at h
    obtain ⟨⟨⟨⟨⟨⟨⟨⟨⟨⟨⟨⟨⟨⟨⟨⟨h1, h2⟩, h3⟩, h4⟩, h5⟩, h6⟩, h7⟩, h8⟩, h9⟩, h10⟩, h11⟩, h12⟩, h13⟩, h14⟩, h15⟩, h16⟩, h17⟩ := h
    have e1 : (i : Int) + 1 = ((i + 1 : Nat) : Int) := by omega
    have e2 : (i : Int) + 1 + 1 = ((i + 2 : Nat) : Int) := by omega
    have e3 : (i : Int) + 1 + 1 + 1 = ((i + 3 : Nat) : Int) := by omega
    have e4 : (i : Int) + 1 + 1 + 1 + 1 = ((i + 4 : Nat) : Int) := by omega
    have e5 : (i : Int) + 1 + 1 + 3 = ((i + 5 : Nat) : Int) := by omega
    have st : SubTo (jOf a b) (kOf a b) := by
      cases hh : hitOf a with
      | true => rw [hh] at h12; exact .hit (subHit_of h12)
      | false =>
        rw [hh] at h12
        have : kOf a b = jOf a b := by unfold kOf; rw [hh]; rfl
        rw [this]; exact .none (subNone_of h12)
    refine PieceAt.rng a b (eOf a b) (hatOf (eOf a b)) ⟨#[a, 45, b]⟩ (yOf a) (zOf a) (yOf b) (zOf b) (jOf a b) (kOf a b) ?_ ?_ ?_ ?_ ?_ h1 h2 (by show (!(S1 a == _)) = true; rw [h2]; rfl) (by show (!(S1 b == _)) = true; rw [h3]; rfl) ?_ rfl h4 ?_ ?_ ?_ ?_ rfl rfl h5 rfl rfl rfl rfl h6 h7 h8 h9 rfl h10 h11 st h13 h14 h15 h16 h17 rfl
    · exact M.item (k := 0) rfl
    · rw [e1]; exact M.item (k := 1) rfl
    · rw [e2]; exact M.item (k := 2) rfl
    · rw [e3]; exact M.item (k := 3) rfl
    · rw [e4]; exact M.item (k := 4) rfl
    · rw [e4, e1]; exact M.slice (k := 1) (l := 4) (by decide) (by show 4 ≤ 5; decide) _ rfl
    · rw [e4, e2]; exact M.find (k := 2) (l := 4) (by decide) (by show 4 ≤ 5; decide) rfl
    · rw [e5, e4]; exact find_none (by omega)
    · rw [e2, e1]; exact M.slice (k := 1) (l := 2) (by decide) (by show 2 ≤ 5; decide) _ rfl
    · rw [e4, e3]; exact M.slice (k := 3) (l := 4) (by decide) (by show 4 ≤ 5; decide) _ rfl
  run_tac Mine.Sh.fin
noncomputable def setOf (c : Nat) : Str := Str.empty ++ Str.ofString "[" ++ (bif hatOf c then Str.ofString "\\" ++ S1 c else S1 c) ++ Str.ofString "]"
noncomputable def chkSet (c : Nat) : Bool := (S1 c == Str.ofString "!") == false && (S1 c == Str.ofString "]") == false && (Builtin.Str.occurrences (S1 c) (Str.ofString "-") 0 (S1 c).length 1).isEmpty && (Txt.replace (S1 c) (Str.ofString "\\") (Str.ofString "\\\\") == S1 c) && chkNone (S1 c)
theorem piece_set {P : Str} {i c : Nat} (h : chkSet c = true) (M : Mid P ⟨#[91, c, 93]⟩ i) : PieceAt P (i : Int) (setOf c) ((i : Int) + 1 + 1 + 1) := by
  run_tac Mine.Sh.mark
  focus
    unfold chkSet at h
    simp only [Bool.and_eq_true, beq_iff_eq] at h
    obtain ⟨⟨⟨⟨h1, h2⟩, h3⟩, h4⟩, h5⟩ := h
    have e1 : (i : Int) + 1 = ((i + 1 : Nat) : Int) := by omega
    have e2 : (i : Int) + 1 + 1 = ((i + 2 : Nat) : Int) := by omega
    refine PieceAt.set c (hatOf c) ?_ ?_ ?_ ?_ h1 h2 (by show (!(S1 c == _)) = true; rw [h2]; rfl) rfl h3 h4 rfl (subNone_of h5)
    · exact M.item (k := 0) rfl
    · rw [e1]; exact M.item (k := 1) rfl
    · rw [e2]; exact M.item (k := 2) rfl
    · rw [e2, e1]; exact M.slice (k := 1) (l := 2) (by decide) (by show 2 ≤ 3; decide) _ rfl
  run_tac Mine.Sh.fin
noncomputable def brkB : Str := Str.ofString "]\\"
noncomputable def brkC : Str := Txt.replace brkB (Str.ofString "\\") (Str.ofString "\\\\")
noncomputable def brkOf : Str := Str.empty ++ Str.ofString "[" ++ brkC ++ Str.ofString "]"
theorem piece_brk {P : Str} {i : Nat} (M : Mid P ⟨#[91, 93, 92, 93]⟩ i) : PieceAt P (i : Int) brkOf ((i : Int) + 1 + 1 + 1 + 1) := by
  run_tac Mine.Sh.mark
  focus
    have e1 : (i : Int) + 1 = ((i + 1 : Nat) : Int) := by omega
    have e2 : (i : Int) + 1 + 1 = ((i + 2 : Nat) : Int) := by omega
    have e3 : (i : Int) + 1 + 1 + 1 = ((i + 3 : Nat) : Int) := by omega
    refine PieceAt.brk brkB brkC ?_ ?_ ?_ ?_ ?_ rfl (by decide +kernel) (by decide +kernel) rfl (subNone_of (by decide +kernel)) (by decide +kernel) (by decide +kernel)
    · exact M.item (k := 0) rfl
    · rw [e1]; exact M.item (k := 1) rfl
    · rw [e2]; exact M.item (k := 2) rfl
    · rw [e3]; exact M.item (k := 3) rfl
    · rw [e3, e1]; exact M.slice (k := 1) (l := 3) (by decide) (by show 3 ≤ 4; decide) _ rfl
  run_tac Mine.Sh.fin
end

section -- Ph
noncomputable def bodyOf (r : Str) : Str := Txt.slice r (some 1) (some (-1))
noncomputable def chkEnds (r : Str) : Bool := decide (3 ≤ r.length) && decide (r.length ≤ 9) && (Txt.item r 0 == S1 91) && (Txt.item r 1 == Str.ofString "^") == false && (Txt.item r (-1) == S1 93) && (r == Str.ofString ".") == false && decide (0 < (bodyOf r).length) && decide ((bodyOf r).length ≤ 9)
noncomputable def isDash (B : Str) (q : Int) : Bool := Txt.slice B (some q) (some (q + 1)) == Str.ofString "-"
noncomputable def chkCR (r : Str) (a b : Nat) (q : Int) : Bool := chkEnds r && (signAt (bodyOf r) 0 == (S1 a, q)) && decide (0 < q) && decide (q < 9) && isDash (bodyOf r) q && (signAt (bodyOf r) (q + 1) == (S1 b, ((bodyOf r).length : Int)))
noncomputable def chkC1 (r : Str) (a : Nat) : Bool := chkEnds r && (signAt (bodyOf r) 0 == (S1 a, ((bodyOf r).length : Int))) && isDash (bodyOf r) ((bodyOf r).length : Int) == false
noncomputable def chkC2 (r : Str) (a b : Nat) (q : Int) : Bool := chkEnds r && decide (0 < q) && decide (q < ((bodyOf r).length : Int)) && (signAt (bodyOf r) 0 == (S1 a, q)) && isDash (bodyOf r) q == false && (signAt (bodyOf r) q == (S1 b, ((bodyOf r).length : Int))) && isDash (bodyOf r) ((bodyOf r).length : Int) == false
theorem codes_cr {r : Str} {a b : Nat} {q : Int} (h : chkCR r a b q = true) : CodesOk r [((a : Int), (b : Int))] := by
  run_tac Mine.Sh.mark
  focus
    unfold chkCR chkEnds isDash at h
    simp only [Bool.and_eq_true, decide_eq_true_eq, beq_iff_eq] at h
    obtain ⟨⟨⟨⟨⟨⟨⟨⟨⟨⟨⟨⟨h1, h2⟩, h3⟩, h4⟩, h5⟩, h6⟩, h7⟩, h8⟩, g1⟩, g2⟩, g3⟩, g4⟩, g5⟩ := h
    exact .range a b _ _ q (bodyOf r) rfl ⟨h1, h2⟩ h3 h4 h5 h6 rfl rfl ⟨h7, h8⟩ g1 ⟨g2, g3⟩ (beq_iff_eq.mpr g4) g5
  run_tac Mine.Sh.fin
theorem codes_c1 {r : Str} {a : Nat} (h : chkC1 r a = true) : CodesOk r [((a : Int), (a : Int))] := by
  run_tac Mine.Sh.mark
  focus
    unfold chkC1 chkEnds isDash at h
    simp only [Bool.and_eq_true, decide_eq_true_eq, beq_iff_eq] at h
    obtain ⟨⟨⟨⟨⟨⟨⟨⟨⟨h1, h2⟩, h3⟩, h4⟩, h5⟩, h6⟩, h7⟩, h8⟩, g1⟩, g2⟩ := h
    exact .one a _ _ (bodyOf r) rfl ⟨h1, h2⟩ h3 h4 h5 h6 rfl rfl ⟨h7, h8⟩ g1 g2
  run_tac Mine.Sh.fin
theorem codes_c2 {r : Str} {a b : Nat} {q : Int} (h : chkC2 r a b q = true) : CodesOk r [((a : Int), (a : Int)), ((b : Int), (b : Int))] := by
  run_tac Mine.Sh.mark
  focus
    unfold chkC2 chkEnds isDash at h
    simp only [Bool.and_eq_true, decide_eq_true_eq, beq_iff_eq] at h
    obtain ⟨⟨⟨⟨⟨⟨⟨⟨⟨⟨⟨⟨⟨h1, h2⟩, h3⟩, h4⟩, h5⟩, h6⟩, h7⟩, h8⟩, g1⟩, g2⟩, g3⟩, g4⟩, g5⟩, g6⟩ := h
    exact .two a b _ _ q (bodyOf r) rfl ⟨h1, h2⟩ h3 h4 h5 h6 rfl rfl ⟨h7, h8⟩ ⟨g1, g2⟩ g3 g4 g5 g6
  run_tac Mine.Sh.fin
noncomputable def rngOk (e m : Nat) : Bool := (2 ^ e * m + 2 ^ e - 1 == 93) || (chkRng (2 ^ e * m) (2 ^ e * m + 2 ^ e - 1) && chkCR (rngOf (2 ^ e * m) (2 ^ e * m + 2 ^ e - 1)) (2 ^ e * m) (2 ^ e * m + 2 ^ e - 1) (signAt (bodyOf (rngOf (2 ^ e * m) (2 ^ e * m + 2 ^ e - 1))) 0).2)
noncomputable def rngAll (e : Nat) : Bool := (List.range (2 ^ (8 - e))).all (rngOk e)
theorem all7 : rngAll 7 = true := by decide +kernel
theorem all6 : rngAll 6 = true := by decide +kernel
theorem all5 : rngAll 5 = true := by decide +kernel
theorem all4 : rngAll 4 = true := by decide +kernel
theorem all3 : rngAll 3 = true := by decide +kernel
theorem all2 : rngAll 2 = true := by decide +kernel
theorem all1 : rngAll 1 = true := by decide +kernel
theorem rng_ok {e m : Nat} (h1 : 1 ≤ e) (h2 : e ≤ 7) (hm : m < 2 ^ (8 - e)) : rngOk e m = true := by
  run_tac Mine.Sh.mark
  focus
    have : ∀ e, rngAll e = true → m < 2 ^ (8 - e) → rngOk e m = true := fun e h hm => List.all_eq_true.mp h m (List.mem_range.mpr hm)
    have hc : e = 1 ∨ e = 2 ∨ e = 3 ∨ e = 4 ∨ e = 5 ∨ e = 6 ∨ e = 7 := by omega
    rcases hc with rfl | rfl | rfl | rfl | rfl | rfl | rfl
    · exact this _ all1 hm
    · exact this _ all2 hm
    · exact this _ all3 hm
    · exact this _ all4 hm
    · exact this _ all5 hm
    · exact this _ all6 hm
    · exact this _ all7 hm
  run_tac Mine.Sh.fin
noncomputable def starOf (c : Nat) : Bool := c == 42 || c == 63 || c == 91
noncomputable def fullOf (c : Nat) : Str := if starOf c = true then setOf c else escS c
noncomputable def chkFull (c : Nat) : Bool := if starOf c = true then chkSet c && chkC1 (setOf c) c else
  (S1 c == Str.ofString "*") == false && (S1 c == Str.ofString "?") == false && (S1 c == Str.ofString "[") == false &&
  (if isSp c = true then (escS c).length == 2 && (escS c == Str.ofString ".") == false && (Txt.item (escS c) 0 == S1 92) && (Txt.item (escS c) 1 == S1 c) && Txt.isalnum (S1 c) == false
   else (S1 c == Str.ofString ".") == false && (Builtin.Str.occurrences (Str.ofString "^$*+?{}[]()|\\") (S1 c) 0 (Str.ofString "^$*+?{}[]()|\\").length 1).isEmpty)
theorem full_all : (List.range 256).all chkFull = true := by decide +kernel
theorem full_ok {c : Nat} (h : c < 256) : chkFull c = true := List.all_eq_true.mp full_all c (List.mem_range.mpr h)
theorem codes_full {c : Nat} (h : c < 256) : CodesOk (fullOf c) [((c : Int), (c : Int))] := by
  run_tac Mine.Sh.mark
  focus
    have hk := full_ok h
    unfold chkFull at hk
    unfold fullOf
    cases hs : starOf c with
    | true =>
      rw [if_pos hs] at hk
      rw [if_pos rfl]
      simp only [Bool.and_eq_true] at hk
      exact codes_c1 hk.2
    | false =>
      rw [if_neg (by rw [hs]; decide)] at hk
      rw [if_neg (by decide)]
      simp only [Bool.and_eq_true, beq_iff_eq] at hk
      obtain ⟨⟨⟨h1, h2⟩, h3⟩, hk⟩ := hk
      cases hp : isSp c with
      | true =>
        rw [if_pos hp] at hk
        simp only [Bool.and_eq_true, beq_iff_eq] at hk
        obtain ⟨⟨⟨⟨g1, g2⟩, g3⟩, g4⟩, g5⟩ := hk
        exact .esc c g1 g2 g3 g4 g5
      | false =>
        rw [if_neg (by rw [hp]; decide)] at hk
        simp only [Bool.and_eq_true, beq_iff_eq] at hk
        exact .plain c (by unfold escS; rw [hp]; rfl) hk.1 hk.2
  run_tac Mine.Sh.fin
theorem piece_full {P : Str} {i c : Nat} (h : c < 256) (M : Mid P (if starOf c = true then ⟨#[91, c, 93]⟩ else S1 c) i) :
    PieceAt P (i : Int) (fullOf c) ((i : Int) + (((if starOf c = true then ⟨#[91, c, 93]⟩ else S1 c) : Str).length : Int)) := by
  run_tac Mine.Sh.mark
  focus
    have hk := full_ok h
    unfold chkFull at hk
    unfold fullOf
    cases hs : starOf c with
    | true =>
      rw [if_pos hs] at hk
      rw [hs] at M
      simp only [Bool.and_eq_true] at hk
      exact piece_set hk.1 M
    | false =>
      rw [if_neg (by rw [hs]; decide)] at hk
      rw [hs] at M
      simp only [Bool.and_eq_true, beq_iff_eq] at hk
      exact .sign c h (M.item (k := 0) rfl) hk.1.1.1 hk.1.1.2 hk.1.2
  run_tac Mine.Sh.fin
theorem brk_codes : CodesOk brkOf [(93, 93), (92, 92)] := codes_c2 (q := 1) (by decide +kernel)
end

section -- Pi
noncomputable def sameOct (b x t : Int) : Prop := if 8 ≤ b then t = x else if b ≤ 0 then True else t / 2 ^ (8 - b).toNat = x / 2 ^ (8 - b).toNat
noncomputable def Hit (ps : List (Int × Int)) (t : Int) : Prop := ∃ p ∈ ps, p.1 ≤ t ∧ t ≤ p.2
structure OctOk (b x : Int) (r : Str) (ps : List (Int × Int)) : Prop where
  piece : ∀ (P : Str) (i : Nat), Mid P (octPat b x) i → PieceAt P (i : Int) r ((i : Int) + ((octPat b x).length : Int))
  codes : CodesOk r ps
  hit : ∀ t, 0 ≤ t → t ≤ 255 → (Hit ps t ↔ sameOct b x t)
  len : 1 ≤ (octPat b x).length ∧ (octPat b x).length ≤ 5
theorem hit_one {a c t : Int} : Hit [(a, c)] t ↔ a ≤ t ∧ t ≤ c := by unfold Hit; simp
theorem star_occ : ∀ c : Fin 256, (Builtin.Str.occurrences (Str.ofString "*?[") ⟨#[c.val]⟩ 0 (Str.ofString "*?[").length 1).isEmpty = !starOf c.val := by decide +kernel
theorem oct_rng {b x : Int} {e : Nat} (h0 : 0 ≤ x) (h1 : x ≤ 255) (he1 : 1 ≤ e) (he : e ≤ 7) (hb : b = 8 - (e : Int)) (m a c : Nat) (hm : m < 2 ^ (8 - e)) (ha : a = 2 ^ e * m) (hc : c = 2 ^ e * m + 2 ^ e - 1) (hne : c ≠ 93) (hp : octPat b x = ⟨#[91, a, 45, c, 93]⟩)
   (hs : ∀ t : Int, 0 ≤ t → t ≤ 255 → (((a : Int) ≤ t ∧ t ≤ (c : Int)) ↔ sameOct b x t)) : OctOk b x (rngOf a c) [((a : Int), (c : Int))] := by
  run_tac Mine.Sh.mark
  focus
    have hk := rng_ok he1 he hm
    unfold rngOk at hk
    rw [← hc, ← ha, show (c == 93) = false from beq_eq_false_iff_ne.mpr hne, Bool.false_or, Bool.and_eq_true] at hk
    refine ⟨fun P i M => ?_, codes_cr hk.2, fun t t0 t1 => hit_one.trans (hs t t0 t1), ?_⟩
    · rw [hp] at M ⊢
      exact piece_rng hk.1 M
    · rw [hp]; exact ⟨by show 1 ≤ 5; decide, by show 5 ≤ 5; decide⟩
  run_tac Mine.Sh.fin
theorem no93 {m q : Nat} (h : m * q + m - 1 = 93) (h1 : 1 ≤ m) (h2 : ¬94 % m = 0) : False := by
  have e : m * (q + 1) = 94 := by rw [Nat.mul_add, Nat.mul_one]; omega
  exact h2 (by rw [← e]; exact Nat.mul_mod_right m (q + 1))
theorem oct_rng_or {b x : Int} {e : Nat} (h0 : 0 ≤ x) (h1 : x ≤ 255) (he1 : 1 ≤ e) (he : e ≤ 7) (hb : b = 8 - (e : Int)) : ∃ r ps, OctOk b x r ps := by
  run_tac Mine.Sh.mark
  focus
    have hb8 : (8 - b).toNat = e := by omega
    have hpow : (0 : Int) < 2 ^ e := Int.pow_pos (by decide)
    have hpn : 0 < 2 ^ e := Nat.two_pow_pos e
    have hf : x.fmod (2 ^ e) = x % 2 ^ e := Int.fmod_eq_emod_of_nonneg _ (by omega)
    obtain ⟨n, rfl⟩ := Int.eq_ofNat_of_zero_le h0
    have hcast : ((2 : Int) ^ e) = ((2 ^ e : Nat) : Int) := by rw [Int.natCast_pow]; rfl
    have hmod : ((n : Int) % 2 ^ e) = ((n % 2 ^ e : Nat) : Int) := by rw [hcast]; rfl
    have hdm := Nat.div_add_mod n (2 ^ e)
    have hml := Nat.mod_lt n hpn
    have hm : n / 2 ^ e < 2 ^ (8 - e) := by
      rw [Nat.div_lt_iff_lt_mul hpn, ← Nat.pow_add, show 8 - e + e = 8 by omega]
      show n < 256
      omega
    have hsame : ∀ t : Int, 0 ≤ t → t ≤ 255 → (((2 ^ e * (n / 2 ^ e) : Nat) : Int) ≤ t ∧ t ≤ ((2 ^ e * (n / 2 ^ e) + 2 ^ e - 1 : Nat) : Int) ↔ sameOct b (n : Int) t) := fun t t0 t1 => by
      obtain ⟨u, rfl⟩ := Int.eq_ofNat_of_zero_le t0
      unfold sameOct
      rw [if_neg (by omega), if_neg (by omega), hb8, hcast]
      have hd2 := Nat.div_add_mod u (2 ^ e)
      have hl2 := Nat.mod_lt u hpn
      show _ ↔ ((u / 2 ^ e : Nat) : Int) = ((n / 2 ^ e : Nat) : Int)
      constructor
      · rintro ⟨g1, g2⟩
        have g3 : 2 ^ e * (n / 2 ^ e) ≤ u := by omega
        have g4 : u < 2 ^ e * (n / 2 ^ e + 1) := by rw [Nat.mul_add, Nat.mul_one]; omega
        have k1 : n / 2 ^ e ≤ u / 2 ^ e := (Nat.le_div_iff_mul_le hpn).mpr (by rw [Nat.mul_comm]; exact g3)
        have k2 : u / 2 ^ e < n / 2 ^ e + 1 := (Nat.div_lt_iff_lt_mul hpn).mpr (by rw [Nat.mul_comm]; exact g4)
        omega
      · intro g
        have g : u / 2 ^ e = n / 2 ^ e := by omega
        rw [g] at hd2
        generalize 2 ^ e * (n / 2 ^ e) = q at *
        omega
    have hleast : (n : Int) - (n : Int).fmod (2 ^ e) = ((2 ^ e * (n / 2 ^ e) : Nat) : Int) := by rw [hf, hmod]; omega
    have hmost : (n : Int) - (n : Int).fmod (2 ^ e) + 2 ^ e - 1 = ((2 ^ e * (n / 2 ^ e) + 2 ^ e - 1 : Nat) : Int) := by rw [hleast, hcast]; omega
    by_cases h93 : 2 ^ e * (n / 2 ^ e) + 2 ^ e - 1 = 93
    · have hp : octPat b (n : Int) = ⟨#[91, 93, 92, 93]⟩ := by
        unfold octPat
        rw [if_neg (by omega), if_neg (by omega), hb8, hmost, if_pos (by omega)]
        rfl
      refine ⟨brkOf, _, ⟨fun P i M => ?_, brk_codes, fun t t0 t1 => ?_, ?_⟩⟩
      · rw [hp] at M ⊢
        exact piece_brk M
      · rw [← hsame t t0 t1]
        have he : e = 1 ∧ n / 2 ^ e = 46 := by
          have hc : e = 1 ∨ e = 2 ∨ e = 3 ∨ e = 4 ∨ e = 5 ∨ e = 6 ∨ e = 7 := by omega
          clear hsame hleast hmost hmod hcast hf hdm hml hm hb8 hb h0 h1 hpow hpn
          generalize hq : n / 2 ^ e = q at h93
          rcases hc with rfl | rfl | rfl | rfl | rfl | rfl | rfl <;> simp only [Nat.reducePow] at h93 <;> first | exact (no93 h93 (by decide) (by decide)).elim | exact ⟨rfl, by omega⟩
        obtain ⟨rfl, he⟩ := he
        rw [he]
        unfold Hit
        simp
        omega
      · rw [hp]; exact ⟨by show 1 ≤ 4; decide, by show 4 ≤ 5; decide⟩
    · refine ⟨_, _, oct_rng h0 h1 he1 he hb (n / 2 ^ e) _ _ hm rfl rfl h93 ?_ hsame⟩
      unfold octPat
      rw [if_neg (by omega), if_neg (by omega), hb8, hmost, if_neg (by omega), hleast]
      rfl
  run_tac Mine.Sh.fin
theorem oct_ok {b x : Int} (h0 : 0 ≤ x) (h1 : x ≤ 255) : ∃ r ps, OctOk b x r ps := by
  run_tac Mine.Sh.mark
  focus
    by_cases h8 : 8 ≤ b
    · obtain ⟨n, rfl⟩ := Int.eq_ofNat_of_zero_le h0
      have hn : n < 256 := by omega
      have hp : octPat b (n : Int) = (if starOf n = true then ⟨#[91, n, 93]⟩ else S1 n) := by
        unfold octPat
        rw [if_pos h8, Int.toNat_natCast, star_occ ⟨n, hn⟩]
        cases starOf n with
        | true => rfl
        | false => rfl
      refine ⟨_, _, ⟨fun P i M => ?_, codes_full hn, fun t t0 t1 => ?_, ?_⟩⟩
      · rw [hp] at M ⊢
        exact piece_full hn M
      · rw [hit_one]; unfold sameOct; rw [if_pos h8]; omega
      · rw [hp]; split
        · exact ⟨by show 1 ≤ 3; decide, by show 3 ≤ 5; decide⟩
        · exact ⟨by show 1 ≤ 1; decide, by show 1 ≤ 5; decide⟩
    · by_cases hb : b ≤ 0
      · have hp : octPat b x = S1 63 := by
          unfold octPat
          rw [if_neg h8, if_pos hb]; rfl
        refine ⟨Str.ofString ".", _, ⟨fun P i M => ?_, .dot (by decide +kernel), fun t t0 t1 => ?_, ?_⟩⟩
        · rw [hp] at M ⊢
          exact .q (M.item (k := 0) rfl)
        · rw [hit_one]; unfold sameOct; rw [if_neg h8, if_pos hb]; simp; omega
        · rw [hp]; exact ⟨by show 1 ≤ 1; decide, by show 1 ≤ 5; decide⟩
      · exact oct_rng_or (e := (8 - b).toNat) h0 h1 (by omega) (by omega) (by omega)
  run_tac Mine.Sh.fin
end

section -- Pj
theorem same_low {p m x y t u : Int} (hp : 0 < p) (hm : 0 < m) (e : p * m = 256) (l0 : 0 ≤ y) (l1 : y ≤ 255) (u0 : 0 ≤ u) (u1 : u ≤ 255) :
    (t = x ∧ u / p = y / p) ↔ (256 * t + u) / p = (256 * x + y) / p := by
  run_tac Mine.Sh.mark
  focus
    rw [div_two hp e, div_two hp e]
    constructor
    · rintro ⟨rfl, h⟩; rw [h]
    · intro h
      have a : t = x := by
        have q := congrArg (· / m) h
        simp only [Int.add_mul_ediv_left _ _ (Int.ne_of_gt hm)] at q
        rw [Int.ediv_eq_zero_of_lt (Int.ediv_nonneg u0 (Int.le_of_lt hp)) (div_lt hp e u1), Int.ediv_eq_zero_of_lt (Int.ediv_nonneg l0 (Int.le_of_lt hp)) (div_lt hp e l1), Int.zero_add, Int.zero_add] at q
        exact q
      subst a
      exact ⟨rfl, (Int.add_left_inj (m * t)).mp h⟩
  run_tac Mine.Sh.fin
theorem same_high {q x y t u : Int} (l0 : 0 ≤ y) (l1 : y ≤ 255) (u0 : 0 ≤ u) (u1 : u ≤ 255) :
    (256 * t + u) / (256 * q) = (256 * x + y) / (256 * q) ↔ t / q = x / q := by
  rw [← Int.ediv_ediv_of_nonneg (by decide), ← Int.ediv_ediv_of_nonneg (by decide), div_two (m := 1) (by decide) (by decide), div_two (m := 1) (by decide) (by decide),
    Int.ediv_eq_zero_of_lt u0 (Int.lt_of_le_of_lt u1 (by decide)), Int.ediv_eq_zero_of_lt l0 (Int.lt_of_le_of_lt l1 (by decide)), Int.zero_add, Int.zero_add, Int.one_mul, Int.one_mul]
theorem one16 {a b : Int} : a / 1 = b / 1 ↔ a = b := by rw [Int.ediv_one, Int.ediv_one]
theorem zero16 {t x : Int} (h0 : 0 ≤ x) (h1 : x ≤ 255) (t0 : 0 ≤ t) (t1 : t ≤ 255) : t / 256 = x / 256 := by
  rw [Int.ediv_eq_zero_of_lt t0 (Int.lt_of_le_of_lt t1 (by decide)), Int.ediv_eq_zero_of_lt h0 (Int.lt_of_le_of_lt h1 (by decide))]
theorem same16 {b hi lo t u : Int} (hb0 : 0 ≤ b) (hb : b ≤ 16) (h0 : 0 ≤ hi) (h1 : hi ≤ 255) (l0 : 0 ≤ lo) (l1 : lo ≤ 255) (t0 : 0 ≤ t) (t1 : t ≤ 255) (u0 : 0 ≤ u) (u1 : u ≤ 255) :
    (sameOct b hi t ∧ sameOct (b - 8) lo u) ↔ (256 * t + u) / 2 ^ (16 - b).toNat = (256 * hi + lo) / 2 ^ (16 - b).toNat := by
  run_tac Mine.Sh.mark
  focus
    have hc : b = 0 ∨ b = 1 ∨ b = 2 ∨ b = 3 ∨ b = 4 ∨ b = 5 ∨ b = 6 ∨ b = 7 ∨ b = 8 ∨ b = 9 ∨ b = 10 ∨ b = 11 ∨ b = 12 ∨ b = 13 ∨ b = 14 ∨ b = 15 ∨ b = 16 := by omega
    rcases hc with rfl | rfl | rfl | rfl | rfl | rfl | rfl | rfl | rfl | rfl | rfl | rfl | rfl | rfl | rfl | rfl | rfl
    · simp only [sameOct, Int.reduceSub, Int.reduceToNat, Int.reducePow, Int.reduceLE, if_true, if_false, and_true, true_iff]
      exact (same_high (q := 256) l0 l1 u0 u1).mpr (zero16 h0 h1 t0 t1)
    · simp only [sameOct, Int.reduceSub, Int.reduceToNat, Int.reducePow, Int.reduceLE, if_true, if_false, and_true]
      exact (same_high (q := 128) l0 l1 u0 u1).symm
    · simp only [sameOct, Int.reduceSub, Int.reduceToNat, Int.reducePow, Int.reduceLE, if_true, if_false, and_true]
      exact (same_high (q := 64) l0 l1 u0 u1).symm
    · simp only [sameOct, Int.reduceSub, Int.reduceToNat, Int.reducePow, Int.reduceLE, if_true, if_false, and_true]
      exact (same_high (q := 32) l0 l1 u0 u1).symm
    · simp only [sameOct, Int.reduceSub, Int.reduceToNat, Int.reducePow, Int.reduceLE, if_true, if_false, and_true]
      exact (same_high (q := 16) l0 l1 u0 u1).symm
    · simp only [sameOct, Int.reduceSub, Int.reduceToNat, Int.reducePow, Int.reduceLE, if_true, if_false, and_true]
      exact (same_high (q := 8) l0 l1 u0 u1).symm
    · simp only [sameOct, Int.reduceSub, Int.reduceToNat, Int.reducePow, Int.reduceLE, if_true, if_false, and_true]
      exact (same_high (q := 4) l0 l1 u0 u1).symm
    · simp only [sameOct, Int.reduceSub, Int.reduceToNat, Int.reducePow, Int.reduceLE, if_true, if_false, and_true]
      exact (same_high (q := 2) l0 l1 u0 u1).symm
    · simp only [sameOct, Int.reduceSub, Int.reduceToNat, Int.reducePow, Int.reduceLE, if_true, if_false, and_true]
      exact (one16.symm.trans (same_high (q := 1) l0 l1 u0 u1).symm)
    · simp only [sameOct, Int.reduceSub, Int.reduceToNat, Int.reducePow, Int.reduceLE, if_true, if_false]
      exact same_low (p := 128) (m := 2) (by decide) (by decide) (by decide) l0 l1 u0 u1
    · simp only [sameOct, Int.reduceSub, Int.reduceToNat, Int.reducePow, Int.reduceLE, if_true, if_false]
      exact same_low (p := 64) (m := 4) (by decide) (by decide) (by decide) l0 l1 u0 u1
    · simp only [sameOct, Int.reduceSub, Int.reduceToNat, Int.reducePow, Int.reduceLE, if_true, if_false]
      exact same_low (p := 32) (m := 8) (by decide) (by decide) (by decide) l0 l1 u0 u1
    · simp only [sameOct, Int.reduceSub, Int.reduceToNat, Int.reducePow, Int.reduceLE, if_true, if_false]
      exact same_low (p := 16) (m := 16) (by decide) (by decide) (by decide) l0 l1 u0 u1
    · simp only [sameOct, Int.reduceSub, Int.reduceToNat, Int.reducePow, Int.reduceLE, if_true, if_false]
      exact same_low (p := 8) (m := 32) (by decide) (by decide) (by decide) l0 l1 u0 u1
    · simp only [sameOct, Int.reduceSub, Int.reduceToNat, Int.reducePow, Int.reduceLE, if_true, if_false]
      exact same_low (p := 4) (m := 64) (by decide) (by decide) (by decide) l0 l1 u0 u1
    · simp only [sameOct, Int.reduceSub, Int.reduceToNat, Int.reducePow, Int.reduceLE, if_true, if_false]
      exact same_low (p := 2) (m := 128) (by decide) (by decide) (by decide) l0 l1 u0 u1
    · simp only [sameOct, Int.reduceSub, Int.reduceToNat, Int.reducePow, Int.reduceLE, if_true, if_false]
      exact (and_congr_right fun _ => one16.symm).trans (same_low (p := 1) (m := 256) (by decide) (by decide) (by decide) l0 l1 u0 u1)
  run_tac Mine.Sh.fin
theorem mid_left {A B : Str} : Mid (A ++ B) A 0 := ⟨[], B.cps.toList, by show (A.cps ++ B.cps).toList = _; simp, rfl⟩
theorem mid_right {A B : Str} : Mid (A ++ B) B A.length := ⟨A.cps.toList, [], by show (A.cps ++ B.cps).toList = _; simp, rfl⟩
theorem slen_app (a b : Str) : (a ++ b).length = a.length + b.length := by
  show (a.cps ++ b.cps).size = _
  rw [Array.size_append]; rfl
theorem pat_ok {b hi lo : Int} (hb0 : 0 ≤ b) (hb : b ≤ 16) (h0 : 0 ≤ hi) (h1 : hi ≤ 255) (l0 : 0 ≤ lo) (l1 : lo ≤ 255) :
    ∃ (r1 r2 : Str) (ps1 ps2 : List (Int × Int)) (n : Nat), (octPat b hi ++ octPat (b - 8) lo).length = n ∧ n ≤ 10 ∧ Pieces (octPat b hi ++ octPat (b - 8) lo) n 0 [r1, r2] ∧ CodesOk r1 ps1 ∧ CodesOk r2 ps2 ∧
      ∀ t u : Int, 0 ≤ t → t ≤ 255 → 0 ≤ u → u ≤ 255 → ((Hit ps1 t ∧ Hit ps2 u) ↔ (256 * t + u) / 2 ^ (16 - b).toNat = (256 * hi + lo) / 2 ^ (16 - b).toNat) := by
  run_tac Mine.Sh.mark
  focus
    obtain ⟨r1, ps1, o1⟩ := oct_ok (b := b) h0 h1
    obtain ⟨r2, ps2, o2⟩ := oct_ok (b := b - 8) l0 l1
    have hl := slen_app (octPat b hi) (octPat (b - 8) lo)
    have q1 := o1.len
    have q2 := o2.len
    refine ⟨r1, r2, ps1, ps2, _, rfl, by omega, ?_, o1.codes, o2.codes, fun t u t0 t1 u0 u1 => ?_⟩
    · have p1 := o1.piece _ 0 (mid_left (B := octPat (b - 8) lo))
      have p2 := o2.piece _ _ (mid_right (A := octPat b hi))
      rw [hl]
      refine .cons p1 (by omega) (by omega) (.cons (by simpa using p2) (by omega) (by omega) (.nil (by omega)))
    · rw [o1.hit t t0 t1, o2.hit u u0 u1, same16 hb0 hb h0 h1 l0 l1 t0 t1 u0 u1]
  run_tac Mine.Sh.fin
end

section -- D9
theorem law_codes (w : World) (loose : List Str) (mean : ExcName → Option Value) (mg mb : Str → Option Value)
   (dp un : Nat) (fr : Option (List Env)) (gd : Option (List Code)) (s : Shared) (Q E : Value → Shared → Prop)
   (P : Str) (tk : Tok) (ps : List (Int × Int)) (hc : CodesOk P ps)
   (X : (Mine.hd.heap_39 w.params).In s.heap) (T : Top topProg loose mean mg mb s.heap)
   (hd : dp + 20 < recursionLimit) (hu : un + 160 < cLine)
   (hret : ∀ (v : Value) (nw : List (Addr × Obj)) (h' : Heap) (tk' : Nat), Sub s.heap h' → Fresh s.heap h' nw → PairsIn nw v ps → Q v { s with heap := h', toks := tk' }) :
   wpAny (model prg w) (TP dp un fr gd) (call (.ref 120) [.str P tk]) Q E s := by
  run_tac Mine.Sh.mark
  focus
    cases hc with
    | dot h => exact codes_dot w loose mean mg mb dp un fr gd s Q E P tk h X T hd hu hret
    | plain c e h1 h2 => subst e; exact codes_plain w loose mean mg mb dp un fr gd s Q E c tk h1 h2 X T hd hu hret
    | esc c h1 h2 h3 h4 h5 => exact codes_esc w loose mean mg mb dp un fr gd s Q E P c tk h1 h2 h3 h4 h5 X T hd hu hret
    | one a n k B h1 h2 h3 h4 h5 h6 h7 h8 h9 g1 g2 => exact codes_one w loose mean mg mb dp un fr gd s Q E P B a n k tk h1 h2 h3 h4 h5 h6 h7 h8 h9 g1 g2 X T hd hu hret
    | two a b n k q B h1 h2 h3 h4 h5 h6 h7 h8 h9 g0 g1 g2 g3 g4 => exact codes_two w loose mean mg mb dp un fr gd s Q E P B a b n k q tk h1 h2 h3 h4 h5 h6 h7 h8 h9 g0 g1 g2 g3 g4 X T hd hu hret
    | range a b n k q B h1 h2 h3 h4 h5 h6 h7 h8 h9 g1 g2 g3 g4 => exact codes_range w loose mean mg mb dp un fr gd s Q E P B a b n k q tk h1 h2 h3 h4 h5 h6 h7 h8 h9 g1 g2 g3 g4 X T hd hu hret
  run_tac Mine.Sh.fin
end

section -- Fo
section
variable {prog : Program} {w : World} {A : Around} {E : Value → Shared → Prop} {s : Shared} {env : Env} {target iter : PySem.Expr} {it : Value} {body : List Stmt} {Q : Flow → Shared → Prop}
noncomputable def ForRest (prog : Program) (w : World) (A : Around) (E : Value → Shared → Prop) (env : Env) (target : PySem.Expr) (it : Value) (body : List Stmt) (Q : Flow → Shared → Prop) (s : Shared) : Prop :=
  codeAny (model prog w) A (.forLoop target it body [] env) (fun r s' => match r with | .ok f => Q f s' | .error e => cameBackBy (model prog w) A env E e s') s
noncomputable def ForPost (prog : Program) (w : World) (A : Around) (E : Value → Shared → Prop) (env : Env) (target : PySem.Expr) (it : Value) (body : List Stmt) (Q : Flow → Shared → Prop) (f : Flow) (s : Shared) : Prop :=
  match f with
  | .next => ForRest prog w A E env target it body Q s
  | .cont => ForRest prog w A E env target it body Q s
  | .brk => Q .next s
  | .ret v => Q (.ret v) s
noncomputable def ForNext (prog : Program) (w : World) (A : Around) (E : Value → Shared → Prop) (env : Env) (target : PySem.Expr) (it : Value) (body : List Stmt) (Q : Flow → Shared → Prop) (r : Option Value) (s : Shared) : Prop :=
  match r with
  | none => Q .next s
  | some v => wpAny (model prog w) A (letOwnedTupleGo target it v) (fun _ s₁ => wpAny (model prog w) A (assign target env v) (fun _ s₂ => wpAny (model prog w) A (execs body env) (ForPost prog w A E env target it body Q) E s₂) E s₁) E s
theorem for_turn (hE : PassesOwn (model prog w) A env E) (h : wpAny (model prog w) A (pyNext it) (ForNext prog w A E env target it body Q) E s) : ForRest prog w A E env target it body Q s := by
  run_tac Mine.Sh.mark
  focus
    refine codeAny_of_tree ?_
    show wpAny _ A ((forTurn target it body [] env).onRaise (fun x => do noteFrame x env; theTreesLotGoes x)) _ _ s
    refine wpAny_noted ?_
    simp only [forTurn]
    refine wpAny_bind (wpAny_standAt (wpAny_bind (wpAny_onRaise (wpAny_mono h (fun r s₁ h₁ => ?_) fun e s' h' => wpAny_standAt (hE e s' h')))))
    cases r with
    | none =>
      refine wpAny_pure ⟨rfl, codeAny_block (wpAny_execs_nil ?_)⟩
      exact h₁
    | some v =>
      have h₁ : wpAny (model prog w) A (letOwnedTupleGo target it v) (fun _ s₁ => wpAny (model prog w) A (assign target env v) (fun _ s₂ => wpAny (model prog w) A (execs body env) (ForPost prog w A E env target it body Q) E s₂) E s₁) E s₁ := h₁
      refine wpAny_bind (wpAny_mono h₁ (fun _ s₁' h₁' => ?_) hE)
      refine wpAny_bind (wpAny_mono h₁' (fun _ s₂ h₂ => wpAny_bind (wpAny_mono h₂ (fun f s₃ h₃ => ?_) hE)) hE)
      cases f with
      | next => exact wpAny_pure ⟨rfl, h₃⟩
      | cont => exact wpAny_pure ⟨rfl, h₃⟩
      | brk => exact wpAny_pure h₃
      | ret v => exact wpAny_pure h₃
  run_tac Mine.Sh.fin
theorem for_start {pos : Pos} (h : wpAny (model prog w) A (eval iter env) (fun x s₁ => wpAny (model prog w) A (pyIter x) (fun it s₂ => ForRest prog w A E env target it body Q s₂) E s₁) E s)
    (hs : ∀ x, foldedSetIterable iter env x = pure x := by intro _; rfl) : wpAny (model prog w) A (exec (.For target iter body [] pos) env) Q E s := wpAny_For h hs
theorem for_ind (n : Nat) (I : Nat → Shared → Prop) (h0 : ∀ s, I n s → ForRest prog w A E env target it body Q s)
   (hs : ∀ k s, k < n → I k s → (∀ s', I (k + 1) s' → ForRest prog w A E env target it body Q s') → ForRest prog w A E env target it body Q s) : ∀ k s, k ≤ n → I k s → ForRest prog w A E env target it body Q s := by
  run_tac Mine.Sh.mark
  focus
    have go : ∀ j k s, k + j = n → I k s → ForRest prog w A E env target it body Q s := by
      intro j
      induction j with
      | zero => intro k s hk h; subst hk; exact h0 s h
      | succ j ih => intro k s hk h; exact hs k s (by omega) h fun s' h' => ih (k + 1) s' (by omega) h'
    exact fun k s hk h => go (n - k) k s (by omega) h
  run_tac Mine.Sh.fin
end
structure LIt (o : Obj) (l : Addr) (i : Nat) : Prop where
  cls : o.cls = .type "list_iterator"
  data : o.data = .fields #[.ref l, .int i 0]
noncomputable abbrev rIt (x left c : Int) : Obj := { cls := .type "range_iterator", data := .fields #[rawInt x, rawInt left, rawInt c] }
section
variable {prog : Program} {w : World} {A : Around} {E : Value → Shared → Prop} {s : Shared} {h₀ : Heap} {L I l : Addr} {m : Str → Option Value} {news : List (Addr × Obj)} {items : Array Value} {n : Nat}
theorem fo_fr {h h' : Heap} {I : Addr} (F : Fr h₀ L h m) (hI : I ≠ L) (h0 : h₀.get? I = none) (hs : Heap.ExtBut I h h') : Fr h₀ L h' m :=
  ⟨F.ns.at fun o e => hs _ _ hI.symm e, fun b o e => hs _ _ (fun q => by rw [q, h0] at e; cases e) (F.keep b o e), F.above⟩
where
  go {I : Nat} {p : Addr × Obj} : ∀ {l : List (Addr × Obj)}, NeAll I l → p ∈ l → p.1 ≠ I
    | _ :: _, n, .head _ => n.1
    | _ :: _, n, .tail _ h => go n.2 h
theorem iter_list {Q : Value → Shared → Prop} (F : Fr h₀ L s.heap m) (N : News h₀ L s.heap news) (hl : s.heap.IsList l items)
   (h : ∀ I o h', LIt o l 0 → Fr h₀ L h' m → News h₀ L h' ((I, o) :: news) → NeAll I news → (∀ p ∈ news, p.1 < I) → Q (.ref I) { s with heap := h' }) : wpAny (model prog w) A (pyIter (.ref l)) Q E s :=
  wpAny_pyIter_list hl (h _ _ _ ⟨rfl, rfl⟩ (F.push _) (News.push F N _) (neAll_of fun p hp => Nat.ne_of_lt (Heap.lt_size (N p hp).1)) fun p hp => Heap.lt_size (N p hp).1)
theorem next_range {Q : Option Value → Shared → Prop} {x left c y k : Int} {g : Obj → List (Addr × Obj)} (F : Fr h₀ L s.heap m) (N : News h₀ L s.heap news) (U : UpdF I (rIt x left c) news g) (hleft : 0 < left) (hy : x + c = y) (hk : left - 1 = k)
   (h : ∀ h' t tk, Fr h₀ L h' m → News h₀ L h' (g (rIt y k c)) → Q (some (.int x t)) { s with heap := h', toks := tk }) : wpAny (model prog w) A (pyNext (.ref I)) Q E s := by
  run_tac Mine.Sh.mark
  focus
    obtain ⟨own, rest, rfl, hgr, h1, h2⟩ := U.split
    have z := N (I, rIt x left c) (List.mem_append_right _ (.head _))
    subst hy hk
    refine wpAny_pyNext_range_item z.1 hleft fun h' hit hs => ?_
    refine h h' _ _ (fo_fr F z.2.1 z.2.2 hs.extBut) ?_
    rw [hgr]
    exact news_set N h1 h2 hs hit
  run_tac Mine.Sh.fin
theorem iter_range {r : Addr} {a b c k : Int} {t u v : Tok} {Q : Value → Shared → Prop} (F : Fr h₀ L s.heap m) (N : News h₀ L s.heap news) (hr : IsRange s.heap r a b c t u v) (hsmall : Builtin.Range.small a b c = true) (hk : Builtin.Range.rangeSize a b c = k)
   (h : ∀ I h', Fr h₀ L h' m → News h₀ L h' ((I, rIt a k c) :: news) → (∀ p ∈ news, p.1 < I) → Q (.ref I) { s with heap := h' }) : wpAny (model prog w) A (pyIter (.ref r)) Q E s := by
  subst hk
  exact wpAny_pyIter_range hr hsmall (h _ _ (F.push _) (News.push F N _) fun p hp => Heap.lt_size (N p hp).1)
theorem range_end {x left c : Int} {Q : Option Value → Shared → Prop} (hh : A.handled = none) (hit : IsRangeIter s.heap I x left c) (hleft : left ≤ 0)
    (hQ : ∀ h', (∀ b o, s.heap.get? b = some o → h'.get? b = some o) → Q none { s with heap := h' }) : wpAny (model prog w) A (pyNext (.ref I)) Q E s := by
  run_tac Mine.Sh.mark
  focus
    have hT : s.TypeIs (.ref I) "range_iterator" := ⟨_, hit, rfl⟩
    unfold pyNext
    refine wpAny_bind (wpAny_attempt (wpAny_callSpecial?_slot (name := Str.ofString "__next__") hT F.slot_range_iterator_next (wpAny_call_entry F.slot_range_iterator_next hT F.entry_range_iterator_next ?_ (F.args_range_iterator_next_1 _))))
    show wpAny _ _ (do let a ← field (.ref I) 0; _) _ _ s
    refine wpAny_bind (wpAny_field hit rfl (x := rawInt x) rfl ?_)
    show wpAny _ _ (field (.ref I) 1 >>= _) _ _ s
    refine wpAny_bind (wpAny_field hit rfl (x := rawInt left) rfl ?_)
    show wpAny _ _ (field (.ref I) 2 >>= _) _ _ s
    refine wpAny_bind (wpAny_field hit rfl (x := rawInt c) rfl ?_)
    show wpAny _ _ (if left ≤ 0 then _ else _) _ _ s
    rw [if_pos hleft]
    refine wpAny_bind (wpAny_rule (wpAny_bind ?_))
    show wpAny _ _ (newExc (.type "StopIteration") [] >>= _) _ _ _
    refine wpAny_bind ?_
    simp only [newExc, newTuple]
    refine wpAny_bind (wpAny_newObj_type (wpAny_bind (m := firstArgMember _ _) (wpAny_of_eq (a := Value.none) (by first | rfl | (simp only [firstArgMember]; rfl)) (wpAny_newObj_type ?_ (by size_fits)))) (by size_fits))
    simp only [raiseNew]
    refine wpAny_bind (wpAny_handled ?_)
    first | rw [show A.in1.handled = none from hh] | rw [hh]
    refine wpAny_bind (wpAny_pure (wpAny_throw ?_))
    refine wpAny_bind (wpAny_isInstance (T := "StopIteration") (b := true) ⟨_, Heap.get?_push_size _ rfl, rfl⟩ isSubtype_stop ?_)
    exact wpAny_pure (hQ _ fun b o e => Heap.get?_push_of_some _ (Heap.get?_push_of_some _ e))
  run_tac Mine.Sh.fin
theorem end_range {Q : Option Value → Shared → Prop} {x left c : Int} (hh : A.handled = none) (F : Fr h₀ L s.heap m) (N : News h₀ L s.heap news) (U : (I, rIt x left c) ∈ news) (hleft : left ≤ 0)
   (h : ∀ h', Fr h₀ L h' m → News h₀ L h' news → Q none { s with heap := h' }) : wpAny (model prog w) A (pyNext (.ref I)) Q E s :=
  range_end hh (N _ U).1 hleft fun h' k => h h' (call_fr F ⟨k⟩) fun p hp => ⟨k _ _ (N p hp).1, (N p hp).2⟩
end
end

section -- Co
section
variable {prog : Program} {w : World} {A : Around} {h₀ : Heap} {L : Addr} {m : Str → Option Value} {env : Env} {ct elt : PySem.Expr} {x : Str} {scope : Scope} {cl : List (Str × Addr)} {s : Shared} {S : List (Addr × Obj) → Prop} {P : Nat → Value → Prop} {Fin : List Value → List (Addr × Obj) → Prop} {news : List (Addr × Obj)}
theorem compT_ind (n : Nat) (I : Nat → List Value → Prop) (fin : ∀ ys, I n ys → Fin ys news)
   (step : ∀ i ys, i < n → I i ys → ∀ (v : Value) (J : Addr) (oI : Obj) (C : Addr) (oC : Obj) (D : Addr) (m₂ : Str → Option Value) (h : Heap) (tk : Nat) (E' : Value → Shared → Prop), P i v → LCg.NsObj oC m₂ → m₂ x = some v → Fr h₀ L h m → News h₀ L h ((J, oI) :: (C, oC) :: (D, LCg.lst ys) :: news) → LCg.Off3 J C D news →
      wpAny (model prog w) A (isTrue ct (compEnvC scope cl C env) (eval ct (compEnvC scope cl C env))) (fun ok s' => if ok = true then
        wpAny (model prog w) A (eval elt (compEnvC scope cl C env)) (LCg.CompEnd h₀ L m { s with heap := h, toks := tk } J oI C oC D (LCg.lst ys) S (fun y news' => news' = news ∧ I (i + 1) (ys ++ [y]))) E' s'
        else LCg.CompEnd h₀ L m { s with heap := h, toks := tk } J oI C oC D (LCg.lst ys) S (fun _ news' => news' = news ∧ I (i + 1) ys) Value.none s') E' { s with heap := h, toks := tk }) (h0 : I 0 []) :
   LCt.CompRestT prog w A h₀ L m env ct elt x scope cl s S P Fin n 0 [] news := by
  run_tac Mine.Sh.mark
  focus
    have key : ∀ (j i : Nat) (ys : List Value), i + j = n → I i ys → LCt.CompRestT prog w A h₀ L m env ct elt x scope cl s S P Fin j i ys news := by
      intro j
      induction j with
      | zero =>
        intro i ys hi h
        have e : i = n := by omega
        subst e
        exact LCt.CompRestT.zero (fin ys h)
      | succ j ih =>
        intro i ys hi h
        refine LCt.CompRestT.succ fun v J oI C oC D m₂ hh tk E' hP hC hx F N off ne => ?_
        refine wpAny_mono (step i ys (by omega) h v J oI C oC D m₂ hh tk E' hP hC hx F N off) (fun ok s' hok => ?_) fun _ _ e => e
        cases ok with
        | true =>
          rw [if_pos rfl] at hok ⊢
          refine wpAny_mono hok (fun y s'' hy => ?_) fun _ _ e => e
          obtain ⟨h', tk', news', e, F', N', o', hS, rfl, hI⟩ := hy
          exact ⟨h', tk', _, e, F', N', o', hS, ih (i + 1) _ (by omega) hI⟩
        | false =>
          rw [if_neg (by decide)] at hok ⊢
          obtain ⟨h', tk', news', e, F', N', o', hS, rfl, hI⟩ := hok
          exact ⟨h', tk', _, e, F', N', o', hS, ih (i + 1) _ (by omega) hI⟩
    exact key n 0 [] (by omega) h0
  run_tac Mine.Sh.fin
end
end

section -- E2
section
variable {prog : Program} {w : World} {A : Around} {E : Value → Shared → Prop} {hp : Heap} {gn : Array GenState} {dr : Drawn} {tk : Nat} {os : OsState} {x : Str} {t : Tok}
theorem len_strE {n : Nat} {Q : Value → Shared → Prop} (he : x.length = n) (hn : n < 9223372036854775808) (h : ∀ t k, Q (.int (n : Int) t) ⟨hp, gn, dr, k, os⟩) : wpAny (model prog w) A (call (.builtin "len") [.str x t]) Q E ⟨hp, gn, dr, tk, os⟩ := by
  subst he
  exact SBL.len (by omega) (h _ _)
end
local macro_rules | `(tactic| walk_at $k) => Mine.Tx.look k.getString "call builtin:len ==> (k_here; (with_reducible show wpAny _ _ (call (Value.builtin \"len\") [Value.str _ _]) _ _ _); (refine len_strE (n := 2) (by rfl) (by decide) ?_); intro _ _)
exec For ==> (k_here; k_dflt (refine for_start ?_))
exec For Name Call cons nil ==> (k_here; k_dflt (refine for_start ?_))
exec For Name Name cons nil ==> (k_here; k_dflt (refine for_start ?_))
pyIter ref ==> ((with_reducible show wpAny _ _ (pyIter (Value.ref _)) (fun _ s₂ => ForRest _ _ _ _ _ _ _ _ _ s₂) _ _); k_here; (k_dflt (refine' iter_range ?F ?N ?hr ?hs ?hk ?_; (case F => k_asm); (case N => k_asm); (case hr => assumption); (case hs => rfl); (case hk => rfl))); intro I' h' F' N' l1; (try k_lt l1))
ForRest ==> (k_dflt (refine for_turn (by first | passes_own | with_unfolding_all passes_own) ?_))
ForPost ==> (dsimp only [ForPost])
ForNext ==> (dsimp only [ForNext])
letOwnedTupleGo ==> (refine wpAny_of_eq (a := ()) rfl ?_)
assign Name ==> (refine wpAny_assign_Name ?_)
pyNext ref ==> (k_here; (with_reducible show wpAny _ _ (pyNext (Value.ref _)) (fun r s₂ => ForNext _ _ _ _ _ _ _ _ _ r s₂) _ _); first | ((k_dflt (refine' next_range ?F ?N ?U ?hl ?hy ?hk ?_; (case F => k_asm); (case N => k_asm); (case U => k_updF); (case hl => omega); (case hy => rfl); (case hk => rfl))); intro h' t' tk' F' N') | ((k_dflt (refine' end_range ?hh ?F ?N ?U ?hl ?_; (case hh => rfl); (case F => k_asm); (case N => k_asm); (case U => k_mem); (case hl => omega))); intro h' F' N'))"
section
variable {prog : Program} {w : World} {A : Around} {E : Value → Shared → Prop} {h₀ hp : Heap} {gn : Array GenState} {dr : Drawn} {tk : Nat} {os : OsState} {L : Addr} {m : Str → Option Value} {u : Tok} {value slice : PySem.Expr}
theorem item_baseL {l : Addr} {its : Array Value} {k : Int} {w' : Value} {Q : Value → Shared → Prop} (j : Nat) (hl : h₀.IsList l its) (F : Fr h₀ L hp m) (hk : k = (j : Int)) (hlt : (j : Int) < 2 ^ 63) (hj : its[j]? = some w') (h : Q w' ⟨hp, gn, dr, tk, os⟩)
    (hs : subscripted slice false (.ref l) (.int k u) = operate [.ref l, .int k u] (getItem (.ref l) (.int k u)) := by with_unfolding_all rfl) :
    wpAny (model prog w) A (subscriptTail value slice (.ref l) (.int k u)) Q E ⟨hp, gn, dr, tk, os⟩ := by
  run_tac Mine.Sh.mark
  focus
    have hl : (⟨hp, gn, dr, tk, os⟩ : Shared).heap.IsList l its := let ⟨o, ho, r⟩ := hl; ⟨o, F.keep _ _ ho, r⟩
    refine tail_any hl.typeIs slot_list_getitem.lookup (wpAny_getItem_list hl (by omega) (by omega) ?_ h) hs
    subst hk
    simpa using hj
  run_tac Mine.Sh.fin
theorem item_baseT {t : Addr} {a b : Value} {k : Int} {w' : Value} {Q : Value → Shared → Prop} (j : Nat) (ht : h₀.get? t = some (tupO [a, b])) (F : Fr h₀ L hp m) (hk : seqIndex? k 2 = some j) (hlo : -(2 ^ 63) ≤ k) (hhi : k < 2 ^ 63) (hj : [a, b][j]? = some w') (h : Q w' ⟨hp, gn, dr, tk, os⟩)
    (hs : subscripted slice false (.ref t) (.int k u) = operate [.ref t, .int k u] (getItem (.ref t) (.int k u)) := by with_unfolding_all rfl) (hg : ∀ r, letTemporaryGo value (.ref t) r = pure () := by intro _; with_unfolding_all rfl) :
    wpAny (model prog w) A (subscriptTail value slice (.ref t) (.int k u)) Q E ⟨hp, gn, dr, tk, os⟩ := by
  have ht : IsTup (⟨hp, gn, dr, tk, os⟩ : Shared).heap t #[a, b] := ⟨_, F.keep _ _ ht, rfl, 0, rfl⟩
  exact item_tuple ht hlo hhi hk (by simpa using hj) h hs hg
theorem len_baseL {l : Addr} {its : Array Value} {n : Nat} {Q : Value → Shared → Prop} (hl : h₀.IsList l its) (F : Fr h₀ L hp m) (hn : its.size = n) (hlt : n < 2 ^ 62) (h : ∀ t k, Q (.int (n : Int) t) ⟨hp, gn, dr, k, os⟩) : wpAny (model prog w) A (call (.builtin "len") [.ref l]) Q E ⟨hp, gn, dr, tk, os⟩ := by
  run_tac Mine.Sh.mark
  focus
    have hl : (⟨hp, gn, dr, tk, os⟩ : Shared).heap.IsList l its := let ⟨o, ho, r⟩ := hl; ⟨o, F.keep _ _ ho, r⟩
    subst hn
    exact len_list hl (by omega) (h _ _)
  run_tac Mine.Sh.fin
end
noncomputable def Halt2 (p : Prop) : Prop := p
theorem halt2 {p : Prop} (h : Halt2 p) : p := h
local macro_rules | `(tactic| walk_at $k) => Mine.Tx.look k.getString "CompRestT ==> (refine halt2 ?_)
CompSrcT ==> (k_here; k_dflt (refine LCt.CompSrcT.base (by rfl) (by k_asm) (by k_asm) (by with_reducible assumption) (by assumption) ?_); intro g')
subscriptTail Name Name ref int ==> (k_here; k_dflt (refine item_baseL _ (by with_reducible assumption) (by with_reducible assumption) rfl (by with_reducible assumption) (by with_reducible assumption) ?_))
subscriptTail Name Constant ref int ==> ((try dsimp only); (with_reducible show wpAny _ _ (subscriptTail _ _ (Value.ref _) (Value.int _ _)) _ _ _); k_dflt (first | refine item_baseT 0 (by with_reducible assumption) (by with_reducible assumption) (by rfl) (by decide) (by decide) (by rfl) ?_ | refine item_baseT 1 (by with_reducible assumption) (by with_reducible assumption) (by rfl) (by decide) (by decide) (by rfl) ?_))
subscriptTail ==> (k_here; (with_reducible show wpAny _ _ (subscriptTail _ _ (Value.ref _) (Value.int _ _)) _ _ _); k_dflt (first | refine item_baseL 0 (by with_reducible assumption) (by with_reducible assumption) (by rfl) (by decide) (by rfl) ?_ | refine item_baseL 1 (by with_reducible assumption) (by with_reducible assumption) (by rfl) (by decide) (by rfl) ?_))
CompEnd ==> (k_dflt (refine LCg.CompEnd.intro (by with_reducible assumption) (by with_reducible assumption) _ (fun _ h => h) (by with_reducible assumption) ?hS ?_; (case hS => lcg_src)))
call builtin:len ==> (k_here; (with_reducible show wpAny _ _ (call (Value.builtin \"len\") [Value.ref _]) _ _ _); (k_dflt (refine len_baseL (n := 2) (by with_reducible assumption) (by with_reducible assumption) (by rfl) (by decide) ?_)); intro _ _)
compareOp Eq ref ref ==> (refine halt2 ?_)"
noncomputable abbrev S2 (c d : Nat) : Str := ⟨#[c, d]⟩
theorem mem5 {a b c d e : Addr × Obj} {l : List (Addr × Obj)} (ha : a ∈ l) (hb : b ∈ l) (hc : c ∈ l) (hd : d ∈ l) (he : e ∈ l) : ∀ p ∈ [a, b, c, d, e], p ∈ l := by
  run_tac Mine.Sh.mark
  focus
    intro p hp
    simp only [List.mem_cons, List.not_mem_nil, or_false] at hp
    rcases hp with rfl | rfl | rfl | rfl | rfl <;> assumption
  run_tac Mine.Sh.fin
theorem item20 (c d : Nat) : Txt.item (S2 c d) 0 = S1 c := rfl
theorem item21 (c d : Nat) : Txt.item (S2 c d) 1 = S1 d := rfl
local macro_rules | `(tactic| walk_at "subscriptTail Name Name str int") => Mine.Tx.line "(k_here; (k_dflt (refine item_strE (by with_reducible assumption) (by with_reducible assumption) (by with_reducible assumption) (by with_reducible assumption) ?_)); intro _ _ _)"
inductive PairB (h : Heap) : List Value → List (Int × Int) → Prop
  | nil : PairB h [] []
  | cons {t : Addr} {p q : Int} {t1 t2 : Tok} {vs : List Value} {ps : List (Int × Int)} : h.get? t = some (tupO [.int p t1, .int q t2]) → PairB h vs ps → PairB h (.ref t :: vs) ((p, q) :: ps)
theorem PairB.length {h : Heap} {vs : List Value} {ps : List (Int × Int)} (x : PairB h vs ps) : vs.length = ps.length := by
  run_tac Mine.Sh.mark
  focus
    induction x with
    | nil => rfl
    | cons _ _ ih => simp [ih]
  run_tac Mine.Sh.fin
theorem PairB.get {h : Heap} {vs : List Value} {ps : List (Int × Int)} (x : PairB h vs ps) : ∀ {i : Nat} {v : Value}, vs[i]? = some v → ∃ t p q t1 t2, v = .ref t ∧ h.get? t = some (tupO [.int p t1, .int q t2]) ∧ ps[i]? = some (p, q) := by
  run_tac Mine.Sh.mark
  focus
    induction x with
    | nil => intro i v e; cases e
    | cons ht _ ih =>
      intro i v e
      cases i with
      | zero => cases e; exact ⟨_, _, _, _, _, rfl, ht, rfl⟩
      | succ i => exact ih (by simpa using e)
  run_tac Mine.Sh.fin
theorem Hit.take_succ {ps : List (Int × Int)} {i : Nat} {p q t : Int} (h : ps[i]? = some (p, q)) : Hit (ps.take (i + 1)) t ↔ Hit (ps.take i) t ∨ (p ≤ t ∧ t ≤ q) := by
  run_tac Mine.Sh.mark
  focus
    have : ps.take (i + 1) = ps.take i ++ [(p, q)] := by
      rw [List.take_succ, h]; rfl
    unfold Hit
    rw [this]
    constructor
    · rintro ⟨x, hx, h1⟩
      rcases List.mem_append.mp hx with hx | hx
      · exact .inl ⟨x, hx, h1⟩
      · cases List.mem_singleton.mp hx; exact .inr h1
    · rintro (⟨x, hx, h1⟩ | h1)
      · exact ⟨x, List.mem_append_left _ hx, h1⟩
      · exact ⟨(p, q), List.mem_append_right _ (.head _), h1⟩
  run_tac Mine.Sh.fin
theorem Hit.not_nil {t : Int} : ¬ Hit [] t := by rintro ⟨_, h, _⟩; cases h

local macro_rules | `(tactic| walk_at "ForRest") => Mine.Tx.line "(refine halt2 ?_)"
theorem law_takes (w : World) (loose : List Str) (mean : ExcName → Option Value) (mg mb : Str → Option Value)
   (dp un : Nat) (fr : Option (List Env)) (gd : Option (List Code)) (s : Shared) (Q E : Value → Shared → Prop)
   (a a1 a2 : Addr) (vs1 vs2 : List Value) (tk : Tok) (c d : Nat) (hc : c < 256) (hdd : d < 256)
   (z1 : vs1.toArray.size ≤ sizeLine) (z2 : vs2.toArray.size ≤ sizeLine)
   (L0 : s.heap.IsList a [.ref a1, .ref a2].toArray) (L1 : s.heap.IsList a1 vs1.toArray) (L2 : s.heap.IsList a2 vs2.toArray)
   (ps1 ps2 : List (Int × Int)) (B1 : PairB s.heap vs1 ps1) (B2 : PairB s.heap vs2 ps2)
   (X : (Mine.hd.heap_39 w.params).In s.heap) (T : Top topProg loose mean mg mb s.heap)
   (hd : dp + 10 < recursionLimit) (hu : un + 80 < cLine)
   (hret : ∀ (b : Bool) (h' : Heap) (tk' : Nat), (b = true ↔ Hit ps1 c ∧ Hit ps2 d) → Sub s.heap h' → Q (.bool b) { s with heap := h', toks := tk' }) :
   wpAny (model prg w) (TP dp un fr gd) (call (.ref 125) [.ref a, .str (S2 c d) tk]) Q E s := by
  run_tac Mine.Sh.mark
  focus
    obtain ⟨hp, gn, dr, tk, os⟩ := s
    dsimp only at X T L0 L1 L2 B1 B2 hret ⊢
    tb_rel
    k_steps
    unfold Halt2
    rename Fr _ _ _ _ => Fo
    rename News _ _ _ _ => No
    rename_i L h1 tk1 F1 l1 o1 o2 d1 d2 N1 ta ka tb kb tc kc hr kr u1 u2 u3 R F2 N2 kp I h3 l3
    have hrs : Builtin.Range.rangeSize 0 ((2 : Nat) : Int) 1 = 2 := by decide
    rw [hrs] at No
    clear kp N2 F2 R N1 F1 u1 u2 u3 hrs
    let CL := fun (j : Nat) => if j = 0 then ps1 else ps2
    let TX := fun (j : Nat) => if j = 0 then c else d
    refine for_ind 2 (fun j s' => ∃ h tkk ok, s' = ⟨h, gn, dr, tkk, os⟩ ∧ Fr hp L h _ ∧ News hp L h [(I, rIt (j : Int) (2 - (j : Int)) 1), (L + 1 + 1, ok), (L + 1, o2)] ∧ (∃ v, ok.data = .cell v) ∧ ∀ i, i < j → Hit (CL i) (TX i : Int)) ?h0 ?hs 0 _ (by decide) ⟨h3, _, o1, rfl, Fo, No, ⟨_, d1⟩, fun i hi => absurd hi (Nat.not_lt_zero i)⟩
    case h0 =>
      rintro s' ⟨h, tkk, ok, rfl, F9, N9, ⟨vk, dk⟩, hall⟩
      clear Fo No
      refine for_turn (by first | passes_own | with_unfolding_all passes_own) ?_
      k_steps
      exact hret _ _ _ ⟨fun _ => ⟨hall 0 (by decide), hall 1 (by decide)⟩, fun _ => rfl⟩ (Sub.of (by assumption))
    case hs =>
      rintro j s' hj ⟨h, tkk, ok, rfl, F9, N9, ⟨vk, dk⟩, hall⟩ hrec
      clear Fo No
      have hjj : 0 < 2 - (j : Int) := by omega
      obtain ⟨aj, vj, pj, tj, hitem, hLj, hBj, hzj, htj, hCL, hTX, htx⟩ : ∃ aj vj pj tj, ([Value.ref a1, .ref a2].toArray)[j]? = some (Value.ref aj) ∧ hp.IsList aj vj.toArray ∧ PairB hp vj pj ∧ vj.toArray.size ≤ sizeLine ∧ tj < 256 ∧ CL j = pj ∧ TX j = tj ∧ Txt.item (S2 c d) (j : Int) = S1 tj := by
        rcases (show j = 0 ∨ j = 1 by omega) with rfl | rfl
        · exact ⟨a1, vs1, ps1, c, rfl, L1, B1, z1, hc, rfl, rfl, rfl⟩
        · exact ⟨a2, vs2, ps2, d, rfl, L2, B2, z2, hdd, rfl, rfl, rfl⟩
      have hno : Hit ps1 c ∧ Hit ps2 d → Hit pj tj := by
        intro e
        rcases (show j = 0 ∨ j = 1 by omega) with rfl | rfl
        · rw [← hCL, ← hTX]; exact e.1
        · rw [← hCL, ← hTX]; exact e.2
      have hf : fitsSsize (j : Int) = true := by rcases (show j = 0 ∨ j = 1 by omega) with rfl | rfl <;> rfl
      have hlo : -((S2 c d).length : Int) ≤ (j : Int) := by rw [show (S2 c d).length = 2 from rfl]; omega
      have hhi : (j : Int) < ((S2 c d).length : Int) := by rw [show (S2 c d).length = 2 from rfl]; omega
      have hj63 : (j : Int) < 2 ^ 63 := by omega
      clear L1 L2 B1 B2 z1 z2
      refine for_turn (by first | passes_own | with_unfolding_all passes_own) ?_
      k_steps
      unfold Halt2
      rename Fr _ _ _ _ => Fo
      rename News _ _ _ _ => No
      refine compT_ind _ (fun i ys => (ys = [] ↔ ¬ Hit (pj.take i) tj) ∧ ys.length ≤ i) (fun ys hI => ?_) (fun i ys hi hI v J oI C oC D m₂ h9 tk9 E9 hP hC hx F9 N9 off => ?_) ⟨by simp [Hit.not_nil], Nat.le_refl _⟩
      · have hh : pj.take vj.toArray.size = pj := by rw [List.size_toArray, hBj.length, List.take_length]
        rw [hh] at hI
        clear Fo No
        cases ys with
        | nil =>
          have nh := hI.1.mp rfl
          k_steps
          unfold Halt2
          k_here
          refine PySem.SeqAt.eq_listAt (e := fun _ => true) (hl := News.isList (by k_asm) (by k_mem)) (hb := News.isList (by k_asm) (by k_mem)) (hsz := rfl) (hu := ?hu) (he := fun j h => absurd h (Nat.not_lt_zero _)) ?_
          case hu => exact (show un + 3 < cLine from by omega)
          k_steps
          exact hret _ _ _ ⟨fun e => (nomatch e), fun e => absurd (hno e) nh⟩ (Sub.of (by assumption))
        | cons y0 yr =>
          have hy : Hit pj tj := Classical.byContradiction fun n => by cases hI.1.mpr n
          k_steps
          unfold Halt2
          k_here
          refine PySem.SeqAt.eq_list_lengthsAt (hl := News.isList (by k_asm) (by k_mem)) (hb := News.isList (by k_asm) (by k_mem)) (hsz := by rfl) (hu := ?hu) ?_
          case hu => exact (show un + 3 < cLine from by omega)
          k_steps
          unfold Halt2
          rename Fr _ _ _ _ => Fe
          rename News _ _ _ _ => Ne
          refine hrec _ ⟨_, _, _, rfl, Fe, ?_, ⟨_, by assumption⟩, fun i hi => ?_⟩
          · rw [show ((j + 1 : Nat) : Int) = (j : Int) + 1 from by omega, show (2 : Int) - ((j : Int) + 1) = 2 - (j : Int) - 1 from by omega]
            exact fun p hp => Ne p (.tail _ (.tail _ hp))
          · rcases Nat.lt_succ_iff_lt_or_eq.mp hi with hi | rfl
            · exact hall i hi
            · rw [hCL, hTX]; exact hy
      · clear Fo No
        obtain ⟨t, p, q, u1, u2, rfl, ht, hp9⟩ := hBj.get (by simpa using hP)
        have hs := Hit.take_succ (t := (tj : Int)) hp9
        k_steps
        all_goals first
          | exact ⟨fun e => absurd e (by simp), fun n => absurd (hs.mpr (.inr ⟨by assumption, by assumption⟩)) n⟩
          | (rw [hs, hI.1, or_iff_left (by omega)])
  run_tac Mine.Sh.fin
end

section -- R1
theorem entry_iter : entryFor table "iter" = some Builtin.«iter» := entryFor_of_tree (by kernel_rfl!)
theorem args_iter (x : Value) : argsOk "iter" ⟨[x], []⟩ := by unfold argsOk; kernel_rfl!
section
variable {prog : Program} {w : World} {A : Around} {E : Value → Shared → Prop} {s : Shared}
theorem call_iter {x : Value} {Q : Value → Shared → Prop} (h : wpAny (model prog w) A.in1 (pyIter x) Q (fun e s' => E e s') s) : wpAny (model prog w) A (call (.builtin "iter") [x]) Q E s := by
  run_tac Mine.Sh.mark
  focus
    refine call_function_entry (by decide +kernel) (by decide +kernel) entry_iter (args_iter x) ?_
    unfold Builtin.«iter»
    refine wpAny_bind (m := someArgs "iter" 1 2 _) (wpAny_of_eq (a := [x]) (by first | rfl | kernel_rfl!) ?_)
    show wpAny _ _ (pyIter x >>= _) _ _ _
    exact wpAny_bind (wpAny_mono h (fun v s' hq => wpAny_pure ⟨_, rfl, hq⟩) fun _ _ e => e)
  run_tac Mine.Sh.fin
end
noncomputable def Iters (w : World) (g : Heap) (seq : Value) (n : Nat) (P : Nat → Value → Prop) : Prop :=
  ∀ (A : Around) (s : Shared) (Q : Value → Shared → Prop) (E : Value → Shared → Prop), A.handled = none → (∀ b o, g.get? b = some o → s.heap.get? b = some o) →
    (∀ (I : Addr) (h' : Heap) (fp : List Addr) (St : Nat → Heap → Prop), (∀ A' : Around, A'.handled = none → Walks prg w A' I fp [I] n P St) → St 0 h' → (∀ b o, s.heap.get? b = some o → h'.get? b = some o) → s.heap.get? I = none → (∀ i h, St i h → ∃ o, h.get? I = some o) → (∀ b ∈ fp, b = I ∨ ∃ o, g.get? b = some o) → Q (.ref I) { s with heap := h' }) →
    wpAny (model prg w) A (pyIter seq) Q E s
theorem Iters.keeps {w : World} {g g' : Heap} {seq : Value} {n : Nat} {P : Nat → Value → Prop} (X : Iters w g seq n P) (k : ∀ b o, g.get? b = some o → g'.get? b = some o) : Iters w g' seq n P := fun A s Q E hh hk h =>
  X A s Q E hh (fun b o e => hk b o (k b o e)) fun I h' fp St W st up hn ho hf => h I h' fp St W st up hn ho fun b hb => (hf b hb).imp id fun ⟨o, e⟩ => ⟨o, k b o e⟩
inductive NotAt (K : Addr) (bl : List (Addr × Obj)) : Value → Prop
  | int (n : Int) (t : Tok) : NotAt K bl (.int n t)
  | obj (l : Addr) (o : Obj) : (l, o) ∈ bl → o.cls ≠ .type "tuple" → NotAt K bl (.ref l)
theorem is_notAt {M : Model} {A : Around} {E : Value → Shared → Prop} {g : Heap} {L : Addr} {s : Shared} {news bl : List (Addr × Obj)} {v : Value} {K : Addr} {oK : Obj} {Q : Value → Shared → Prop} (h : NotAt K bl v) (sub : ∀ p ∈ bl, p ∈ news) (N : News g L s.heap news) (k : ∀ b o, g.get? b = some o → s.heap.get? b = some o) (hK : g.get? K = some oK) (hq : Q (.bool false) s) :
    wpAny M A (compareOp .Is v (.ref K)) Q E s := by
  run_tac Mine.Sh.mark
  focus
    cases h with
    | int n t => exact wpAny_is_other (by rfl) (by intro e; cases e) hq
    | obj l o hm ho => exact wpAny_is_ref_other (fun e => by have := (N _ (sub _ hm)).2.2; rw [e, hK] at this; cases this) (N _ (sub _ hm)).1 (k _ _ hK) ho hq
  run_tac Mine.Sh.fin
theorem led_call {g h h' : Heap} {L I : Addr} {oI : Obj} {m : Str → Option Value} {bl bl' : List (Addr × Obj)} (F : Fr g L h m) (N : News g L h ((I, oI) :: bl)) (hne : ∀ p ∈ bl, p.1 ≠ I)
   (kp : ∀ b o, (∀ p ∈ bl, p.1 ≠ b) → h.get? b = some o → h'.get? b = some o) (nb : ∀ p ∈ bl', h'.get? p.1 = some p.2 ∧ ((∃ q ∈ bl, q.1 = p.1) ∨ h.get? p.1 = none)) :
   Fr g L h' m ∧ News g L h' ((I, oI) :: bl') ∧ ∀ p ∈ bl', p.1 ≠ I := by
  run_tac Mine.Sh.mark
  focus
    have hL : ∀ p ∈ bl, p.1 ≠ L := fun p hp => (N p (.tail _ hp)).2.1
    have hg : ∀ b o, g.get? b = some o → ∀ p ∈ bl, p.1 ≠ b := fun b o e p hp q => by have := (N p (.tail _ hp)).2.2; rw [q, e] at this; cases this
    refine ⟨⟨F.ns.at' fun o e => kp _ _ hL e, fun b o e => kp _ _ (hg b o e) (F.keep b o e), F.above⟩, fun p hp => ?_, fun p hp e => ?_⟩
    · rcases List.mem_cons.mp hp with rfl | hp
      · exact ⟨kp _ _ hne (N _ (.head _)).1, (N _ (.head _)).2⟩
      · refine ⟨(nb p hp).1, ?_⟩
        rcases (nb p hp).2 with ⟨q, hq, e⟩ | e
        · rw [← e]; exact (N q (.tail _ hq)).2
        · refine ⟨fun q => ?_, ?_⟩
          · obtain ⟨o, _, _, hL, _⟩ := F.ns
            rw [q, hL] at e; cases e
          · cases q : g.get? p.1 with
            | none => rfl
            | some o => have := F.keep _ _ q; rw [e] at this; cases this
    · rcases (nb p hp).2 with ⟨q, hq, e'⟩ | e'
      · exact hne q hq (e'.trans e)
      · have := (N _ (.head _)).1; rw [← e, e'] at this; cases this
  run_tac Mine.Sh.fin
noncomputable def HaltI (p : Prop) : Prop := p
theorem haltI {p : Prop} (h : HaltI p) : p := h
local macro_rules | `(tactic| walk_at $k) => Mine.Tx.look k.getString "call builtin:iter ==> (k_here; refine haltI ?_)
compareOp Is ==> (k_here; refine haltI ?_)
compareOp Is ref ref ==> (k_here; refine haltI ?_)
exec For Name Name cons nil ==> (k_here; refine haltI ?_)
pyIter ref ==> (k_here; refine haltI ?_)
call ref ==> (k_here; refine haltI ?_)
call ==> (k_here; refine haltI ?_)"
theorem fnAt_keep {f : Addr} {g h : Heap} (X : FnAt f g) (k : ∀ b o, g.get? b = some o → h.get? b = some o) : FnAt f h := let ⟨a, b, c, d, e⟩ := X; ⟨a, b, c, d, k _ _ e⟩
local macro_rules | `(tactic| walk_at $k) => Mine.Tx.look k.getString "callWith ref ==> (k_here; k_dflt (refine callWith_F (fnAt_keep (by assumption) (Fr.keep (by assumption))) ?_))
And ==> ((with_reducible show FnAt _ _ ∧ _); k_dflt (refine ⟨fnAt_keep (by assumption) (Fr.keep (by assumption)), ?_⟩); (try dsimp only [List.nil_append, List.cons_append]))
ForRest ==> (refine haltI ?_)
ForPost ==> (dsimp only [ForPost])
ForNext ==> (dsimp only [ForNext])
letOwnedTupleGo ==> (refine wpAny_of_eq (a := ()) rfl ?_)
assign Name ==> (refine wpAny_assign_Name ?_)"
theorem reduce_K (w : World) (loose : List Str) (mean : ExcName → Option Value) (mg mb : Str → Option Value)
   (dp un : Nat) (fr : Option (List Env)) (gd : Option (List Code)) (s : Shared) (Q E : Value → Shared → Prop) (h₀ : Heap)
   (bl0 : List (Addr × Obj)) (f : Addr) (seq v0 : Value) (Hf : FnAt f h₀) (n : Nat) (P : Nat → Value → Prop) (J : Nat → Value → List (Addr × Obj) → Prop)
   (J0 : J 0 v0 bl0) (hv0 : NotAt 63 bl0 v0) (It : Iters w h₀ seq n P)
   (St : Sub h₀ s.heap) (Bs : Beside h₀ s.heap bl0)
   (X : (Mine.hd.heap_39 w.params).In h₀) (T : Top topProg loose mean mg mb h₀)
   (hd : dp + 30 < recursionLimit) (hu : un + 200 < cLine)
   (hcall : ∀ (j : Nat) (v x : Value) (bl : List (Addr × Obj)) (dp' un' : Nat) (fr' : Option (List Env)) (gd' : Option (List Code)) (h : Heap) (tk : Nat) (Q' E' : Value → Shared → Prop), j < n → dp' ≤ dp + 2 → un' ≤ un + 10 → J j v bl → P j x → (∀ b o, h₀.get? b = some o → h.get? b = some o) → (∀ p ∈ bl, h.get? p.1 = some p.2) → (∀ p ∈ bl, h₀.get? p.1 = none) →
      (∀ v' bl' h' tk', (∀ b o, (∀ p ∈ bl, p.1 ≠ b) → h.get? b = some o → h'.get? b = some o) → (∀ p ∈ bl', h'.get? p.1 = some p.2 ∧ ((∃ q ∈ bl, q.1 = p.1) ∨ h.get? p.1 = none)) → J (j + 1) v' bl' → Q' v' { s with heap := h', toks := tk' }) →
      wpAny (model prg w) (TP dp' un' fr' gd') (call (.ref f) [v, x]) Q' E' { s with heap := h, toks := tk })
   (hret : ∀ (v : Value) (bl : List (Addr × Obj)) (h' : Heap) (tk' : Nat), J n v bl → (∀ b o, (∀ p ∈ bl0, p.1 ≠ b) → s.heap.get? b = some o → h'.get? b = some o) →
      (∀ p ∈ bl, h'.get? p.1 = some p.2 ∧ ((∃ q ∈ bl0, q.1 = p.1) ∨ s.heap.get? p.1 = none)) → Q v { s with heap := h', toks := tk' }) :
   wpAny (model prg w) (TP dp un fr gd) (call (.ref 71) [.ref f, seq, v0]) Q E s := by
  run_tac Mine.Sh.mark
  focus
    obtain ⟨hp, gn, dr, tk, os⟩ := s
    dsimp only at St Bs hret hcall ⊢
    obtain ⟨g, Sg, S, hle, Bs, Cv⟩ := hideUp St Bs
    have X := X.keeps Sg.stays
    have T := T.keeps Sg.stays
    have It := It.keeps Sg.stays
    have Hf := fnAt_keep Hf Sg.stays
    clear St
    refine wpAny_call ?_
    k_dflt (refine' enterG (binds := [(Str.ofString "function", .ref f), (Str.ofString "sequence", seq), (Str.ofString "initial", v0)]) ?k3 ?k5 ?kS ?kL ?kN ?k6 ?k7 ?k8 ?k9 ?kB ?_ ?c2 ?c3 ?c4 ?c5)
    case k3 => k_asm
    case k5 => k_asm
    case kS => assumption
    case kL => assumption
    case kN => assumption
    case k6 => k_is
    case k7 => k_is
    case k8 => exact (show dp < recursionLimit from by omega)
    case k9 => exact binds_K (X.keeps S.stays) rfl (by k_is) rfl rfl rfl
    case kB => exact locs rfl
    case c2 => exact rfl
    case c3 => exact rfl
    case c4 => exact rfl
    case c5 => decide
    intro L h F N l1
    (try dsimp only)
    (try k_fold)
    k_steps
    unfold HaltI
    refine call_iter (It _ _ _ _ rfl F.keep fun I h1 fp St W st up hI0 hIo hfp => ?_)
    have F1 := call_fr F ⟨up⟩
    have hIL : I ≠ L := fun e => by obtain ⟨o, _, _, hL, _⟩ := F.ns; rw [← e, hI0] at hL; cases hL
    have hIb : ∀ p ∈ bl0, p.1 ≠ I := fun p hp' e => by have := (N p hp').1; rw [e, hI0] at this; cases this
    have hIg : g.get? I = none := by
      cases q : g.get? I with
      | none => rfl
      | some o => have := F.keep _ _ q; rw [hI0] at this; cases this
    obtain ⟨oI, hoI⟩ := hIo _ _ st
    have N1 : News g L h1 ((I, oI) :: bl0) := fun p hp => by
      rcases List.mem_cons.mp hp with rfl | hp
      · exact ⟨hoI, hIL, hIg⟩
      · exact N.grown up p hp
    have kg : ∀ b o, g.get? b = some o → h1.get? b = some o := F1.keep
    clear F N
    k_steps
    unfold HaltI
    refine is_notAt hv0 (fun p hp => .tail _ hp) (by assumption) (Fr.keep (by assumption)) (X _ _ (by k_is)) ?_
    k_steps
    unfold HaltI
    rename Fr _ _ _ _ => Fo
    rename News _ _ _ _ => No
    have st0 := (W callerA rfl).frame _ _ _ st (fun b hb o e => by
      rcases hfp b hb with rfl | ⟨o', eg⟩
      · rw [hoI] at e; cases e; exact (No _ (.head _)).1
      · have e2 := kg b o' eg; rw [e2] at e; cases e; exact Fo.keep b _ eg)
    refine for_start ?_
    k_steps
    unfold HaltI
    refine (W _ rfl).self 0 _ _ _ st0 ?_
    refine for_ind n (fun j s' => ∃ (h : Heap) (tk : Nat) (v : Value) (bl : List (Addr × Obj)) (m1 : Str → Option Value) (oI : Obj), s' = ⟨h, gn, dr, tk, os⟩ ∧ Fr g L h (fun y => if y = Str.ofString "value" then some v else if y = Str.ofString "function" then some (.ref f) else m1 y) ∧ News g L h ((I, oI) :: bl) ∧ (∀ p ∈ bl, p.1 ≠ I) ∧ St j h ∧ J j v bl ∧ ∀ p ∈ bl, (∃ q ∈ bl0, q.1 = p.1) ∨ hp.get? p.1 = none) ?h0 ?hs 0 _ (Nat.zero_le _)
      ⟨_, _, v0, bl0, _, oI, rfl, Fr.wrap (Fr.wrap Fo (Str.ofString "function") (some (.ref f)) (by kernel_rfl!)) (Str.ofString "value") (some v0) (by kernel_rfl!), No, hIb, st0, J0, fun p hp => .inl ⟨p, hp, rfl⟩⟩
    case h0 =>
      rintro s' ⟨h, tk, v, bl, m1, oI, rfl, F9, N9, hne, hst, hJ, hor⟩
      clear Fo No
      refine for_turn (by first | passes_own | with_unfolding_all passes_own) ?_
      refine (W _ rfl).done _ _ _ hst fun h2 tk2 hk2 => ?_
      have F8 := LCg.fr_but F9 hk2 hIL.symm hIg
      have N8 : News g L h2 bl := LCg.news_but (fun p hp => N9 p (.tail _ hp)) hk2 hne
      clear F9 N9
      k_steps
      rename Fr _ _ _ _ => Fe
      rename News _ _ _ _ => Ne
      refine hret v bl _ _ hJ (fun b o hb e => ?_) fun p hp => ⟨(Ne p hp).1, hor p hp⟩
      rcases Cv b o e with e | e
      · exact Fe.keep _ _ e
      · exact absurd rfl (hb _ e)
    case hs =>
      rintro j s' hj ⟨h, tk, v, bl, m1, oI, rfl, F9, N9, hne, hst, hJ, hor⟩ hrec
      clear Fo No
      refine for_turn (by first | passes_own | with_unfolding_all passes_own) ?_
      refine (W _ rfl).item j _ _ _ hj hst fun x h2 tk2 hP hst2 hk2 => ?_
      obtain ⟨oJ, hoJ⟩ := hIo _ _ hst2
      have F8 := LCg.fr_but F9 hk2 hIL.symm hIg
      have N8 : News g L h2 ((I, oJ) :: bl) := fun p hp => by
        rcases List.mem_cons.mp hp with rfl | hp
        · exact ⟨hoJ, hIL, hIg⟩
        · exact LCg.news_but (fun p hp => N9 p (.tail _ hp)) hk2 hne p hp
      have k8 : ∀ b o, g.get? b = some o → h2.get? b = some o := F8.keep
      clear F9 N9
      k_steps
      unfold HaltI
      rename Fr _ _ _ _ => Fo
      rename News _ _ _ _ => No
      refine hcall j v x bl _ _ _ _ _ _ _ _ hj (show dp + 1 ≤ dp + 2 from by omega) (show un + 3 ≤ un + 10 from by omega) hJ hP (fun b o e => Fo.keep b o (Sg.stays b o e)) (fun p hp => (No p (.tail _ hp)).1) (fun p hp => ?_) fun v' bl' h' tk' kp nb hJ' => ?_
      · cases q : h₀.get? p.1 with
        | none => rfl
        | some o => have h1 := (No p (.tail _ hp)).2.2; have h2 := Sg.stays _ _ q; rw [h1] at h2; cases h2
      obtain ⟨F7, N7, hne7⟩ := led_call Fo No hne kp nb
      have hor' : ∀ p ∈ bl', (∃ q ∈ bl0, q.1 = p.1) ∨ hp.get? p.1 = none := fun p hp' => by
        rcases (nb p hp').2 with ⟨q, hq, e⟩ | e
        · rw [← e]; exact hor q hq
        · cases q : hp.get? p.1 with
          | none => exact .inr rfl
          | some o =>
            rcases Cv _ _ q with q | q
            · have := Fo.keep _ _ q; rw [e] at this; cases this
            · exact .inl ⟨_, q, rfl⟩
      clear Fo No
      k_steps
      unfold HaltI
      rename Fr _ _ _ _ => Fo
      rename News _ _ _ _ => No
      refine hrec _ ⟨_, _, v', bl', _, oJ, rfl, Fr.wrap (Fr.wrap Fo (Str.ofString "function") (some (.ref f)) (by kernel_rfl!)) (Str.ofString "value") (some v') (by kernel_rfl!), No, hne7, ?_, hJ', hor'⟩
      refine (W callerA rfl).frame _ _ _ hst2 fun b hb o e => ?_
      rcases hfp b hb with rfl | ⟨o', eg⟩
      · rw [hoJ] at e; cases e; exact (No _ (.head _)).1
      · have e2 := k8 b o' eg; rw [e2] at e; cases e; exact Fo.keep b _ eg
  run_tac Mine.Sh.fin
end

section -- R2
theorem iters_list {w : World} {g : Heap} {l : Addr} {its : Array Value} (hl : g.IsList l its) : Iters w g (.ref l) its.size (fun i v => its[i]? = some v) := by
  run_tac Mine.Sh.mark
  focus
    intro A s Q E hh hk h
    have hl' : s.heap.IsList l its := let ⟨o, e, r⟩ := hl; ⟨o, hk _ _ e, r⟩
    have hlt : l < s.heap.objs.size := by obtain ⟨_, e, _⟩ := hl'; exact Heap.lt_size e
    refine wpAny_pyIter_list hl' ?_
    refine h s.heap.objs.size _ [s.heap.objs.size, l] _ (fun A' hA => Walks.list hA _ l (Nat.ne_of_lt hlt) its) ⟨⟨_, Heap.get?_push_size _ rfl, rfl, rfl⟩, hl'.push _⟩ (fun b o e => Heap.get?_push_of_some _ e) (Heap.get?_none_of_le (Nat.le_refl _)) (fun i h st => by obtain ⟨o, e, _⟩ := st.1; exact ⟨o, e⟩) (fun b hb => ?_)
    rcases List.mem_cons.mp hb with rfl | hb
    · exact .inl rfl
    · rw [List.mem_singleton.mp hb]; obtain ⟨o, e, _⟩ := hl; exact .inr ⟨o, e⟩
  run_tac Mine.Sh.fin
theorem range_facts : ∀ n : Fin 64, Builtin.Range.rangeSize 0 ((n.1 : Nat) : Int) 1 = ((n.1 : Nat) : Int) ∧ Builtin.Range.small 0 ((n.1 : Nat) : Int) 1 = true := by decide +kernel
theorem iters_range {w : World} {g : Heap} {r : Addr} {n : Nat} {b : Int} {t u v : Tok} (hb : b = (n : Int)) (hr : IsRange g r 0 b 1 t u v) (hn : n < 64) : Iters w g (.ref r) n (fun i v => ∃ t, v = .int (0 + (i : Int)) t) := by
  run_tac Mine.Sh.mark
  focus
    subst hb
    intro A s Q E hh hk h
    have hr' : IsRange s.heap r 0 (n : Int) 1 t u v := hk _ _ hr
    have hs : Builtin.Range.rangeSize 0 (n : Int) 1 = (n : Int) := (range_facts ⟨n, hn⟩).1
    refine wpAny_pyIter_range hr' (range_facts ⟨n, hn⟩).2 ?_
    rw [hs]
    refine h s.heap.objs.size _ [s.heap.objs.size] (fun i h => IsRangeIter h s.heap.objs.size (0 + (i : Nat) * 1) ((n : Int) - (i : Nat)) 1) (fun A' hA => LCg.range_walks hA 0 n) (by show IsRangeIter _ _ _ _ _; simpa using Heap.get?_push_size _ rfl) (fun b o e => Heap.get?_push_of_some _ e) (Heap.get?_none_of_le (Nat.le_refl _)) (fun i h st => ⟨_, st⟩) (fun b hb => ?_)
    exact .inl (List.mem_singleton.mp hb)
  run_tac Mine.Sh.fin
theorem iters_str {w : World} {g : Heap} (x : Str) (t : Tok) : Iters w g (.str x t) x.cps.size (SignAt x) := by
  run_tac Mine.Sh.mark
  focus
    intro A s Q E hh hk h
    have fin : ∀ (ty : String) (o : Obj), o.isFreed = false → (∀ A' : Around, A'.handled = none → Walks prg w A' s.heap.objs.size [s.heap.objs.size] [s.heap.objs.size] x.cps.size (SignAt x) (fun i h => h.IsStrIter s.heap.objs.size ty x t i)) → (s.heap.push o).IsStrIter s.heap.objs.size ty x t 0 → Q (.ref s.heap.objs.size) { s with heap := s.heap.push o } := fun ty o hf W st =>
      h s.heap.objs.size _ [s.heap.objs.size] (fun i h => h.IsStrIter s.heap.objs.size ty x t i) W st (fun b o e => Heap.get?_push_of_some _ e) (Heap.get?_none_of_le (Nat.le_refl _)) (fun i h st => by obtain ⟨o, e, _⟩ := st; exact ⟨o, e⟩) fun b hb => .inl (List.mem_singleton.mp hb)
    cases ha : x.cps.all (· < 128)
    · exact wpAny_pyIter_wide ha (fin "str_iterator" _ rfl (fun A' hA => Walks.strWide hA _ x t) ⟨_, Heap.get?_push_size _ rfl, rfl, rfl⟩)
    · exact wpAny_pyIter_ascii ha (fin "str_ascii_iterator" _ rfl (fun A' hA => Walks.strAscii hA _ x t) ⟨_, Heap.get?_push_size _ rfl, rfl, rfl⟩)
  run_tac Mine.Sh.fin
noncomputable abbrev rangeO (n : Int) (t u v : Tok) : Obj := { cls := .type "range", data := .fields #[.int 0 t, .int n u, .int 1 v] }
theorem range_led {prog : Program} {w : World} {A : Around} {E : Value → Shared → Prop} {s : Shared} {h₀ : Heap} {L : Addr} {m : Str → Option Value} {news : List (Addr × Obj)} {n : Int} {t : Tok} {Q : Value → Shared → Prop} (F : Fr h₀ L s.heap m) (N : News h₀ L s.heap news) 
   (h : ∀ (r : Addr) (h' : Heap) (tk' : Nat) (t u v : Tok), Fr h₀ L h' m → News h₀ L h' ((r, rangeO n t u v) :: news) → (∀ p ∈ news, p.1 < r) → Q (.ref r) { s with heap := h', toks := tk' }) : wpAny (model prog w) A (call (.type "range") [.int n t]) Q E s := by
  exact call_range_1 (h _ _ _ _ _ _ (F.push _) (News.push F N _) fun p hp => Heap.lt_size (N p hp).1)
end

section -- T3
open PySem PySem.W PySem.Calls PySem.Spec PyProof.Rows Builtin Builtin.ObjectAttr

theorem store_function : StoreFacts "function" [.type "function", .type "object"] "object.__setattr__" "object" where
  mro := by kernel_rfl!
  slot := .of (owner := "object") (n := "__setattr__") (by rw [typeLookup_type, builtinLookup_eq_fast]; kernel_rfl!) (by decide +kernel) (by decide +kernel) (by decide +kernel)
    (by first | exact .inl (by decide +kernel) | exact .inr (by decide +kernel)) (by rw [isSubtype_type]; kernel_rfl!)
  entry := F.entry_object_sa
  kind := by decide +kernel
  split := by decide +kernel
  hasOwner := by decide +kernel
  args := fun a b c => by unfold argsOk; kernel_rfl!
  passes := fun self => by kernel_rfl!
theorem fn_read : typeLookup (.type "function") (Str.ofString "read") = pure none := by rw [typeLookup_type, builtinLookup_eq_fast]; kernel_rfl!
theorem fn_place : typeLookup (.type "function") (Str.ofString "place") = pure none := by rw [typeLookup_type, builtinLookup_eq_fast]; kernel_rfl!
theorem fn_tells (f : Addr) : ownStreamTells (.ref f) (.type "function") = pure () := by kernel_rfl!
section
variable {prog : Program} {w : World} {A : Around} {E : Value → Shared → Prop} {s : Shared}
theorem setattr_open {f : Addr} {name : Str} {v : Value} {Q : Unit → Shared → Prop} {od : Option Addr} {fd : FuncData} {sl : Array (Option Value)} (hf : s.heap.get? f = some ⟨.type "function", od, .func fd, sl⟩) (hn : typeLookup (.type "function") name = pure none)
   (h : wpAny (model prog w) A.in1 (storeInOwnDict (.ref f) (.type "function") (.str name s.toks) name v false) (fun fin s' => match fin with | .done (.ret _) => Q () s' | _ => False) (fun e s' => E e s') { s with toks := s.toks + 1 }) :
   wpAny (model prog w) A (setAttr (.ref f) name v) Q E s := by
  run_tac Mine.Sh.mark
  focus
    obtain ⟨hp, gn, dr, tk, os⟩ := s
    have hT : ∀ k, (⟨hp, gn, dr, k, os⟩ : Shared).TypeIs (.ref f) "function" := fun _ => ⟨_, hf, rfl⟩
    unfold setAttr
    refine wpAny_bind (wpAny_mkText (wpAny_bind ?_))
    refine wpAny_callSpecial?_slot (hT _) store_function.slot ?_
    refine wpAny_call_entry store_function.slot (hT _) store_function.entry ?_ (store_function.args _ _ _)
    rw [osa_eq, refuse_eq]
    dsimp only at h ⊢
    refine wpAny_bind (wpAny_bind (wpAny_typeOf (hT _) (wpAny_bind ?_)))
    refine wpAny_of_eq store_function.mro ?_
    rw [store_function.passes]
    refine wpAny_pure (wpAny_bind (wpAny_typeOf (hT _) (wpAny_bind ?_)))
    refine wpAny_of_eq hn ?_
    refine wpAny_bind (wpAny_pure ?_)
    refine wpAny_mono h (fun fin s' z => ?_) fun _ _ z => z
    rcases fin with (_ | _ | _ | _) | _ <;> first | exact z.elim | skip
    exact ⟨_, rfl, wpAny_pure z⟩
  run_tac Mine.Sh.fin
theorem nsSet_at {d : Addr} {name : Str} {v : Value} {es : List DictEntry} {n : Nat} {Q : Unit → Shared → Prop} (D : s.heap.get? d = some (dictOf es n)) (hl : (getL name es).isSome = true)
   (h : ∀ (h' : Heap) (hsh : Int), Heap.SameBut d s.heap h' → h'.get? d = some (dictOf (putL name hsh (.str name s.toks) v es) (putN name es n)) → Q () { s with heap := h', toks := s.toks + 1 }) : wpAny (model prog w) A (nsSet d name v) Q E s := by
  run_tac Mine.Sh.mark
  focus
    obtain ⟨hp, gn, dr, tk, os⟩ := s
    unfold nsSet
    refine wpAny_bind (wpAny_bind (wpAny_askSetting (wpAny_pure (wpAny_bind (wpAny_mkText (wpAny_bind (wpAny_loadPart D ?_)))))))
    dsimp only
    have hl' : (lookIn name (dictOf es n)).isSome = true := hl
    have c : (!(es.toArray).any (·.key.isStr name) && (es.toArray).any (·.refKey)) = false := by
      rw [← Array.any_toList, ← Array.any_toList]
      unfold getL at hl
      split at hl
      · rename_i en he
        rw [List.any_eq_true.mpr ⟨en, List.mem_of_find?_eq_some he, List.find?_some he⟩]; rfl
      · split at hl
        · cases hl
        · rename_i z; rw [Bool.not_eq_true] at z; rw [z, Bool.and_false]
    rw [aRefKeyMayBeTheName_at, c]
    exact wpAny_updatePart D (h _ _ (Heap.SameBut.update ..) (by rw [Heap.get?_update_self _ D (by rw [putName_dict]; rfl), putName_dict]))
  run_tac Mine.Sh.fin
theorem storeDict_at {d : Addr} {name : Str} {v : Value} {es : List DictEntry} {n : Nat} {nt : Tok} {P : PySem.Fin → Shared → Prop} (D : s.heap.get? d = some (dictOf es n)) (hl : (getL name es).isSome = true) (hz : es.length < 1000)
   (h : ∀ (h' : Heap) (hsh : Int), Heap.SameBut d s.heap h' → h'.get? d = some (dictOf (putL name hsh (.str name s.toks) v es) (putN name es n)) → P (.done (.ret .none)) { s with heap := h', toks := s.toks + 1 }) : wpAny (model prog w) A (storeInDict d (.str name nt) name v) P E s := by
  unfold storeInDict
  refine wpAny_bind (wpAny_pure (wpAny_bind (nsSet_at D hl fun h' hsh hs D' => ?_)))
  refine wpAny_bind (wpAny_lookBehind D' (by
    have : (putL name hsh (.str name s.toks) v es).length ≤ es.length + 1 := putL_len name hsh _ v es
    exact pastItsLine_dict (by rw [List.size_toArray, sizeLine_eq]; omega)) (wpAny_pure (h h' hsh hs D')))
where
  putL_len (name : Str) (hsh : Int) (key v : Value) : ∀ es : List DictEntry, (putL name hsh key v es).length ≤ es.length + 1
    | [] => Nat.le_refl _
    | e :: r => by
      unfold putL
      split
      · exact Nat.le_succ _
      · exact Nat.succ_le_succ (putL_len name hsh key v r)
theorem setattr_fn0 {f : Addr} {name : Str} {v : Value} {Q : Unit → Shared → Prop} {fd : FuncData} {sl : Array (Option Value)} (hf : s.heap.get? f = some ⟨.type "function", none, .func fd, sl⟩) (hn : typeLookup (.type "function") name = pure none)
   (h : ∀ (d : Addr) (h' : Heap) (hsh : Int) (tk' : Nat) (t' : Tok), s.heap.get? d = none → s.heap.objs.size ≤ d → d ≠ f → Kp [f] s.heap h' → h'.get? f = some ⟨.type "function", some d, .func fd, sl⟩ → h'.get? d = some (dictOf [⟨hsh, .str name t', v⟩] 1) → Q () { s with heap := h', toks := tk' }) :
   wpAny (model prog w) A (setAttr (.ref f) name v) Q E s := by
  run_tac Mine.Sh.mark
  focus
    refine setattr_open hf hn ?_
    obtain ⟨hp, gn, dr, tk, os⟩ := s
    dsimp only at hf h ⊢
    have hlt := Heap.lt_size hf
    unfold storeInOwnDict
    rw [fn_tells]
    refine wpAny_bind (wpAny_pure ?_)
    rw [if_neg (by decide)]
    refine wpAny_bind ?_
    show wpAny _ _ (instanceDict f true) _ _ _
    unfold instanceDict
    refine wpAny_bind (wpAny_loadPart hf ?_)
    dsimp only
    rw [if_neg (by decide +kernel)]
    refine wpAny_bind (wpAny_alloc ?_)
    dsimp only
    have e1 : (hp.push { cls := .type "dict", data := .dict #[] }).get? f = some ⟨.type "function", none, .func fd, sl⟩ := Heap.get?_push_of_some _ hf
    refine wpAny_bind (wpAny_update e1 ?_)
    refine wpAny_bind (wpAny_pure ?_)
    refine wpAny_pure ?_
    dsimp only
    have s1 := Heap.SameBut.update (hp.push { cls := .type "dict", data := .dict #[] }) f (fun o => { o with dict := some hp.objs.size })
    have e2 : ((hp.push { cls := .type "dict", data := .dict #[] }).update f (fun o => { o with dict := some hp.objs.size })).get? hp.objs.size = some (dictOf [] 0) := (s1.2 _ (Nat.ne_of_gt hlt)).trans (Heap.get?_push_size _ rfl)
    have e3 : ((hp.push { cls := .type "dict", data := .dict #[] }).update f (fun o => { o with dict := some hp.objs.size })).get? f = some ⟨.type "function", some hp.objs.size, .func fd, sl⟩ := Heap.get?_update_self _ e1 rfl
    refine storeDict_at e2 rfl (by decide) fun h' hsh hs D' => ?_
    refine h hp.objs.size h' hsh _ _ (Heap.get?_none_of_le (Nat.le_refl _)) (Nat.le_refl _) (Nat.ne_of_gt hlt) (fun b o hb e => ?_) ((hs.2 _ (Nat.ne_of_lt hlt)).trans e3) D'
    have hbf : b ≠ f := fun q => hb (by rw [q]; exact List.mem_singleton.mpr rfl)
    exact (hs.2 _ (Nat.ne_of_lt (Heap.lt_size e))).trans ((s1.2 _ hbf).trans (Heap.get?_push_of_some _ e))
  run_tac Mine.Sh.fin
theorem setattr_fn1 {f d : Addr} {name : Str} {v : Value} {es : List DictEntry} {n : Nat} {Q : Unit → Shared → Prop} {fd : FuncData} {sl : Array (Option Value)} (hf : s.heap.get? f = some ⟨.type "function", some d, .func fd, sl⟩) (D : s.heap.get? d = some (dictOf es n)) (hn : typeLookup (.type "function") name = pure none)
   (hl : (getL name es).isSome = true) (hz : es.length < 1000)
   (h : ∀ (h' : Heap) (hsh : Int) (tk' : Nat) (t' : Tok), Heap.SameBut d s.heap h' → h'.get? d = some (dictOf (putL name hsh (.str name t') v es) (putN name es n)) → Q () { s with heap := h', toks := tk' }) :
   wpAny (model prog w) A (setAttr (.ref f) name v) Q E s := by
  run_tac Mine.Sh.mark
  focus
    refine setattr_open hf hn ?_
    obtain ⟨hp, gn, dr, tk, os⟩ := s
    dsimp only at hf D h ⊢
    unfold storeInOwnDict
    rw [fn_tells]
    refine wpAny_bind (wpAny_pure ?_)
    rw [if_neg (by decide)]
    refine wpAny_bind ?_
    show wpAny _ _ (instanceDict f true) _ _ _
    unfold instanceDict
    refine wpAny_bind (wpAny_loadPart hf ?_)
    dsimp only
    refine wpAny_pure ?_
    exact storeDict_at D hl hz fun h' hsh hs D' => h h' hsh _ _ hs D'
  run_tac Mine.Sh.fin
section
variable {h₀ : Heap} {L : Addr} {m : Str → Option Value} {news : List (Addr × Obj)} {gg : Obj → List (Addr × Obj)}
theorem setattr_led0 {f : Addr} {name : Str} {v : Value} {Q : Unit → Shared → Prop} {fd : FuncData} {sl : Array (Option Value)} (F : Fr h₀ L s.heap m) (N : News h₀ L s.heap news) (U : UpdF f ⟨.type "function", none, .func fd, sl⟩ news gg) (hn : typeLookup (.type "function") name = pure none)
   (h : ∀ (d : Addr) (h' : Heap) (hsh : Int) (tk' : Nat) (t' : Tok), Fr h₀ L h' m → News h₀ L h' ((d, dictOf [⟨hsh, .str name t', v⟩] 1) :: gg ⟨.type "function", some d, .func fd, sl⟩) → (∀ p ∈ news, p.1 < d) → Q () { s with heap := h', toks := tk' }) :
   wpAny (model prog w) A (setAttr (.ref f) name v) Q E s := by
  run_tac Mine.Sh.mark
  focus
    obtain ⟨own, rest, rfl, hg, h1, h2⟩ := U.split
    have z := N (f, _) (List.mem_append_right _ (.head _))
    refine setattr_fn0 z.1 hn fun d h' hsh tk' t' hd hge hdf kp e1 e2 => ?_
    have hlt : ∀ p ∈ own ++ (f, _) :: rest, p.1 ≠ d := fun p hp q => by have := (N p hp).1; rw [q, hd] at this; cases this
    have hLf : L ≠ f := fun q => z.2.1 q.symm
    have hfb : ∀ b o, h₀.get? b = some o → b ∉ [f] := fun b o e hm => by rw [List.mem_singleton.mp hm, z.2.2] at e; cases e
    have keepL : L ∉ [f] := fun hm => hLf (List.mem_singleton.mp hm)
    have F' : Fr h₀ L h' m := ⟨F.ns.at' fun o e => kp _ _ keepL e, fun b o e => kp _ _ (hfb b o e) (F.keep b o e), F.above⟩
    refine h d h' hsh tk' t' F' (fun p hp => ?_) (fun p hp => ?_)
    · rcases List.mem_cons.mp hp with rfl | hp
      · refine ⟨e2, fun q => ?_, ?_⟩
        · obtain ⟨o, _, _, hL, _⟩ := F.ns
          rw [show d = L from q, hL] at hd; cases hd
        · cases q : h₀.get? d with
          | none => rfl
          | some o => have := F.keep _ _ q; rw [hd] at this; cases this
      · rw [hg] at hp
        rcases List.mem_append.mp hp with hp | hp
        · exact ⟨kp _ _ (fun hm => h1 p hp (List.mem_singleton.mp hm)) (N p (List.mem_append_left _ hp)).1, (N p (List.mem_append_left _ hp)).2⟩
        · rcases List.mem_cons.mp hp with rfl | hp
          · exact ⟨e1, z.2⟩
          · exact ⟨kp _ _ (fun hm => h2 p hp (List.mem_singleton.mp hm)) (N p (List.mem_append_right _ (.tail _ hp))).1, (N p (List.mem_append_right _ (.tail _ hp))).2⟩
    · exact Nat.lt_of_lt_of_le (Heap.lt_size (N p hp).1) hge
  run_tac Mine.Sh.fin
theorem setattr_led1 {f d : Addr} {name : Str} {v : Value} {es : List DictEntry} {n : Nat} {Q : Unit → Shared → Prop} {fd : FuncData} {sl : Array (Option Value)} (F : Fr h₀ L s.heap m) (N : News h₀ L s.heap news) (hf : (f, (⟨.type "function", some d, .func fd, sl⟩ : Obj)) ∈ news) (U : UpdF d (dictOf es n) news gg) (hn : typeLookup (.type "function") name = pure none)
   (hl : (getL name es).isSome = true) (hz : es.length < 1000)
   (h : ∀ (h' : Heap) (hsh : Int) (tk' : Nat) (t' : Tok), Fr h₀ L h' m → News h₀ L h' (gg (dictOf (putL name hsh (.str name t') v es) (putN name es n))) → Q () { s with heap := h', toks := tk' }) :
   wpAny (model prog w) A (setAttr (.ref f) name v) Q E s := by
  run_tac Mine.Sh.mark
  focus
    have zf := (N _ hf).1
    obtain ⟨own, rest, rfl, hg, h1, h2⟩ := U.split
    have z := N (d, _) (List.mem_append_right _ (.head _))
    refine setattr_fn1 zf z.1 hn hl hz fun h' hsh tk' t' hs D' => ?_
    refine h h' hsh tk' t' (F.change hs z.2.1 z.2.2) ?_
    rw [hg]
    exact news_set N h1 h2 hs D'
  run_tac Mine.Sh.fin
end
end
end

section -- T2
section
variable {M : Model} {A : Around} {E : Value → Shared → Prop} {s : Shared} {h₀ : Heap} {L a c : Addr} {m : Str → Option Value} {cn : Str} {cs : Scope} {ccd : Value} {cl : List (Str × Addr)} {x : Str} {pos : Pos} {v : Value} {Q : Value → Shared → Prop} {o : Obj}
theorem nameX_base (F : Fr h₀ L s.heap m) (hc : cl.lookup x = some c) (hv : h₀.get? c = some o) (hd : o.data = .cell (some v)) (h : Q v s)
    (hk : cs.kind = .function := by rfl) (hx : (envX cn cs L a ccd cl).kindOf x = some .free := by rfl) (hb : (x == ("__debug__" : Str)) = false := by decide) (hn : (x == ("__classdict__" : Str)) = false := by decide) :
    wpAny M A (eval (.Name x pos) (envX cn cs L a ccd cl)) Q E s := wpAny_Name (wpAny_loadName_free hk hx hc ⟨_, F.keep _ _ hv, hd⟩ h hn) hb
end
theorem pick_eq (ks : List Int) (p c : Nat) (hp : p ≤ ks.length) : (ks.drop (clipAt ks.length (p : Int))).take (clipAt ks.length ((min ks.length (p + c) : Nat) : Int) - clipAt ks.length (p : Int)) = (ks.drop p).take c := by
  run_tac Mine.Sh.mark
  focus
    rw [clipAt_nat, clipAt_nat, Nat.min_eq_left hp, Nat.min_eq_left (Nat.min_le_left _ _)]
    rcases Nat.le_total (p + c) ks.length with h | h
    · rw [Nat.min_eq_right h, Nat.add_sub_cancel_left]
    · rw [Nat.min_eq_left h, List.take_of_length_le (by rw [List.length_drop]; omega), List.take_of_length_le (by rw [List.length_drop]; omega)]
  run_tac Mine.Sh.fin
theorem hide_qual {g : Heap} {f : Addr} {n q : Str} {ps : Arguments} {b : List Stmt} {sc : Scope} {cl : List (Str × Addr)} {doc pm ct : Value} {c : Addr} {vs : Array Value} {t : Tok} (h : g.get? f = some (fnMade n q ps b sc cl doc pm c ct)) (e : vs[1]? = some (.str q t)) :
   ∃ q' pm' doc' ct', g.get? f = some (fnMade n q' ps b sc cl doc' pm' c ct') ∧ vs[1]? = some (.str q' t) := ⟨q, pm, doc, ct, h, e⟩
local macro_rules | `(tactic| walk_at "setAttr ref") => Mine.Tx.line "(k_here; first | ((k_dflt (refine' setattr_led0 ?F ?N ?U fn_read ?_; (case F => k_asm); (case N => k_asm); (case U => k_updF))); intro d' h' hsh' tk' t' F' N' l1; (try k_lt l1); (try k_sweep)) | ((k_dflt (refine' setattr_led1 ?F ?N ?M ?U fn_place ?hl ?hz ?_; (case F => k_asm); (case N => k_asm); (case M => k_mem); (case U => k_updF); (case hl => rfl); (case hz => exact Nat.le_of_ble_eq_true rfl))); intro h' hsh' tk' t' F' N'; (try k_sweep)))"
noncomputable def TakeSpec (w : World) (h : Heap) (tk pl : Addr) (ks : List Int) : Prop :=
  ∀ (dp un : Nat) (fr : Option (List Env)) (gd : Option (List Code)) (s : Shared) (Q E : Value → Shared → Prop) (p c : Nat) (n : Nat) (tp tc : Tok), (∀ b o, b ≠ pl → h.get? b = some o → s.heap.get? b = some o) → s.heap.get? pl = some (listOf #[.int (p : Int) tp] n) →
    p ≤ ks.length → c < 1000 → dp + 10 < recursionLimit → un + 50 < cLine →
    (∀ (t' tp' : Tok) (n' : Nat) (b' : Array UInt8) (h' : Heap) (tk' : Nat), (∀ b o, b ≠ pl → s.heap.get? b = some o → h'.get? b = some o) → h'.get? pl = some (listOf #[.int ((min ks.length (p + c) : Nat) : Int) tp'] n') →
      KBw.bInts b' = (ks.drop p).take c → Q (.bytes b' t') { s with heap := h', toks := tk' }) →
    wpAny (model prg w) (TP dp un fr gd) (call (.ref tk) [.int (c : Int) tc]) Q E s
local macro_rules | `(tactic| walk_at "eval Name") => Mine.Tx.line "(k_here; kc_free; (k_dflt (refine nameX_base (by with_reducible assumption) (by rfl) (by with_reducible assumption) (by with_reducible assumption) ?_)))"
theorem law_tape (w : World) (loose : List Str) (mean : ExcName → Option Value) (mg mb : Str → Option Value)
   (dp un : Nat) (fr : Option (List Env)) (gd : Option (List Code)) (s : Shared) (Q E : Value → Shared → Prop) (h₀ : Heap)
   (bs : Array UInt8) (ks : List Int) (hks : KBw.bInts bs = ks) (t1 t2 : Tok)
   (St : Sub h₀ s.heap) (Bs : Beside h₀ s.heap [(87, tabObj #[])]) (CH : CodeHd h₀ 91 87)
   (X : (Mine.hd.heap_39 w.params).In h₀) (T : Top topProg loose mean mg mb h₀)
   (hd : dp + 30 < recursionLimit) (hu : un + 200 < cLine) (hbs : ks.length < 100)
   (hret : ∀ (tp tkf pl d : Addr) (fd : FuncData) (es : List DictEntry) (n : Nat) (ps : Array Value) (h' : Heap) (tk' : Nat) (t' : Tok), (∀ b o, b ≠ 87 → s.heap.get? b = some o → h'.get? b = some o) →
      h'.get? tp = some ⟨.type "function", some d, .func fd, #[]⟩ → h'.get? d = some (dictOf es n) → getL (Str.ofString "read") es = some (some (.ref tkf)) → getL (Str.ofString "place") es = some (some (.ref pl)) → FnAt tkf h' →
      h'.get? pl = some (listOf #[.int 0 t'] 0) → (∀ b ∈ [tp, d, pl, tkf], s.heap.get? b = none) → (∃ hb : Heap, (∀ b o, hb.get? b = some o → h'.get? b = some o) ∧ (∀ b o, hb.get? b = some o → h₀.get? b = some o ∨ s.heap.get? b = none) ∧ TakeSpec w hb tkf pl ks) → h'.get? 87 = some (tabObj ps) → Q (.ref tp) { s with heap := h', toks := tk' }) :
   wpAny (model prg w) (TP dp un fr gd) (call (.ref 92) [.bytes bs t1, .int 0 t2]) Q E s := by
  run_tac Mine.Sh.mark
  focus
    obtain ⟨hp, gn, dr, tk, os⟩ := s
    dsimp only at St Bs hret ⊢
    obtain ⟨g, Sg, S, hle, Bs, Cv⟩ := hideUp St Bs
    have X0 := X
    have T0 := T
    have gs := Sg.stays
    have X := X.keeps Sg.stays
    have T := T.keeps Sg.stays
    have CH := CH.keeps Sg.stays
    clear Sg St
    tb_rel
    k_steps
    rename Fr _ _ _ _ => Fo
    rename News _ _ _ _ => No
    rename_i L h1 tk1 l1 o1 o2 d1 d2 l h2 l2 h3 o3 d3 f1 c1 oc1 vs1 tt1 ct1 dc1 h4 tk4 e1 e2 l3 l4 h5 f2 c2 oc2 vs2 tt2 ct2 h6 tk6 e3 e4 l5 l6 h7 dd h8 hs1 tk8 tt3 l7 h9 hs2 tk9 tt4
    refine hret f2 f1 l dd _ _ _ _ _ _ _ (fun b o hb e => ?_) (No (f2, _) (by k_mem)).1 (No (dd, _) (by k_mem)).1 rfl rfl ⟨_, _, _, _, (No (f1, _) (by k_mem)).1⟩ (No (l, _) (by k_mem)).1 ?_ ?_ (No (87, tabObj _) (by k_mem)).1
    · rcases Cv b o e with e | e
      · exact Fo.keep _ _ e
      · cases List.mem_singleton.mp e; exact absurd rfl hb
    · have wn : ∀ b, g.get? b = none → @Ne Nat b 87 → hp.get? b = none := fun b e n => by
        cases q : hp.get? b with
        | none => rfl
        | some o =>
          rcases Cv _ _ q with q | q
          · rw [e] at q; cases q
          · cases List.mem_singleton.mp q; exact absurd rfl n
      have w1 : hp.get? f2 = none := wn _ (No (f2, _) (by k_mem)).2.2 (by omega)
      have w2 : hp.get? dd = none := wn _ (No (dd, _) (by k_mem)).2.2 (by omega)
      have w3 : hp.get? l = none := wn _ (No (l, _) (by k_mem)).2.2 (by omega)
      have w4 : hp.get? f1 = none := wn _ (No (f1, _) (by k_mem)).2.2 (by omega)
      intro b hb
      simp only [List.mem_cons, List.not_mem_nil, or_false] at hb
      rcases hb with rfl | rfl | rfl | rfl
      · exact w1
      · exact w2
      · exact w3
      · exact w4
    · have d2' : o2.data = .cell (some (.bytes bs t1)) := d2
      have nf := (No (f1, _) (by k_mem)).1
      have nc := (No (c1, oc1) (by k_mem)).1
      have n3 := (No (L + 1 + 1, o3) (by k_mem)).1
      have n2 := (No (L + 1, o2) (by k_mem)).1
      have nlg := (No (l, _) (by k_mem)).2.2
      have kf := Fo.keep
      have q1 : @Ne Nat (f1) l := by omega
      have q2 : @Ne Nat (c1) l := by omega
      have q3 : @Ne Nat (L + 1 + 1) l := by omega
      have q4 : @Ne Nat (L + 1) l := by omega
      have wn : ∀ b, g.get? b = none → @Ne Nat b 87 → hp.get? b = none := fun b e n => by
        cases q : hp.get? b with
        | none => rfl
        | some o =>
          rcases Cv _ _ q with q | q
          · rw [e] at q; cases q
          · cases List.mem_singleton.mp q; exact absurd rfl n
      have w1 : hp.get? f1 = none := wn _ (No (f1, _) (by k_mem)).2.2 (by omega)
      have w2 : hp.get? c1 = none := wn _ (No (c1, oc1) (by k_mem)).2.2 (by omega)
      have w3 : hp.get? (L + 1 + 1) = none := wn _ (No (L + 1 + 1, o3) (by k_mem)).2.2 (by omega)
      have w4 : hp.get? (L + 1) = none := wn _ (No (L + 1, o2) (by k_mem)).2.2 (by omega)
      clear No Fo
      obtain ⟨nl, hnl⟩ : ∃ nl : List Addr, ∀ b, b ∈ nl ↔ (∃ o, hp.get? b = some o) ∧ h₀.get? b = none := ⟨(List.range hp.objs.size).filter fun b => (hp.get? b).isSome && (h₀.get? b).isNone, fun b => by
        rw [List.mem_filter, List.mem_range, Bool.and_eq_true, Option.isNone_iff_eq_none, Option.isSome_iff_exists]
        exact ⟨fun x => x.2, fun x => ⟨let ⟨o, e⟩ := x.1; Heap.lt_size e, x⟩⟩⟩
      have hi : ∀ b o, hp.get? b = none → h9.get? b = some o → (hideAll h9 nl).get? b = some o := fun b o hb e => hideAll_get _ e fun hm => by
        obtain ⟨⟨o', e'⟩, _⟩ := (hnl b).mp hm
        rw [hb] at e'; cases e'
      have lo : ∀ b o, h₀.get? b = some o → (hideAll h9 nl).get? b = some o := fun b o e => hideAll_get _ (kf b o (gs b o e)) fun hm => by rw [((hnl b).mp hm).2] at e; cases e
      refine ⟨hideAll h9 nl, fun b o e => of_hideAll _ e, fun b o e => ?_, ?_⟩
      · cases hb : hp.get? b with
        | none => exact .inr rfl
        | some o2 =>
          cases q : h₀.get? b with
          | none => rw [hideAll_none _ ((hnl b).mpr ⟨⟨_, hb⟩, q⟩)] at e; cases e
          | some o' => rw [lo b o' q] at e; exact .inl e
      have nf := hi _ _ w1 nf
      have nc := hi _ _ w2 nc
      have n3 := hi _ _ w3 n3
      have n2 := hi _ _ w4 n2
      have nlg : h₀.get? l = none := by
        cases q : h₀.get? l with
        | none => rfl
        | some o => rw [gs _ _ q] at nlg; cases nlg
      clear hi hnl w1 w2 w3 w4 wn kf gs X T
      generalize hideAll h9 nl = h9 at nf nc n3 n2 lo
      have kf := lo
      have X := X0
      have T := T0
      intro dp un fr gd s Q E p c n tp tc keep hpl hp1 hc1 hd hu hq
      obtain ⟨hp2, gn2, dr2, tk2, os2⟩ := s
      dsimp only at keep hpl hq ⊢
      have St2 : Sub (hideAll h9 [l]) hp2 := ⟨fun b o e => keep b o (fun q => by rw [q, hideAll_none _ (.head _)] at e; cases e) (of_hideAll _ e)⟩
      have Bs2 : Beside (hideAll h9 [l]) hp2 [(l, listOf #[.int (p : Int) tp] n)] := fun q hq => by
        cases List.mem_singleton.mp hq
        exact ⟨hpl, hideAll_none _ (.head _)⟩
      clear Bs S Cv hle
      obtain ⟨g2, Sg, S, hle, Bs, Cv⟩ := hideUp St2 Bs2
      have up : ∀ b o, b ≠ l → h9.get? b = some o → g2.get? b = some o := fun b o hb e => Sg.stays _ _ (hideAll_get _ e fun hm => hb (List.mem_singleton.mp hm))
      have upg : ∀ b o, h₀.get? b = some o → g2.get? b = some o := fun b o e => up b o (fun q => by rw [q, nlg] at e; cases e) (kf b o e)
      have X := X.keeps upg
      have T := T.keeps upg
      have nf := up _ _ q1 nf
      have nc := up _ _ q2 nc
      have n3 := up _ _ q3 n3
      have n2 := up _ _ q4 n2
      clear Sg St2 up upg keep hpl kf nlg lo X0 T0
      dsimp only at nc n3 n2
      obtain ⟨qq, pm, dc, ct, nf, e2⟩ := hide_qual nf e2
      have d3' : o3.data = .cell (some (.ref l)) := d3
      clear d3 d1 d2
      refine wpAny_call ?_
      refine enterGX (binds := [(Str.ofString "count", .int (c : Int) tc)]) T S hle Bs (S.stays _ _ nf) rfl ⟨c1, oc1, vs1, tt1, rfl, S.stays _ _ nc, e1, e2⟩ (show dp < recursionLimit from by omega) (BindsTo.of_eq rfl) (locs rfl) ?_ rfl rfl rfl (by decide)
      intro L' h' F' N' l1'
      (try k_lt l1')
      (try dsimp only)
      (try k_fold)
      have hsz : bs.size = ks.length := by rw [← hks, KBw.ints_length]
      k_steps
      rename Fr _ _ _ _ => Fz
      rename News _ _ _ _ => Nz
      rename KBw.bInts _ = _ => kbcK
      have z := (Nz (l, _) (.head _)).1
      have e9 : (if (p : Int) + (c : Int) < (ks.length : Int) then (p : Int) + (c : Int) else (ks.length : Int)) = ((min ks.length (p + c) : Nat) : Int) := by split <;> omega
      refine hq _ _ n _ _ _ (fun b o hb e => ?_) (z.trans (congrArg (fun x => some (listOf #[.int x _] n)) e9)) (kbcK.trans ?_)
      · rcases Cv b o e with e | e
        · exact Fz.keep _ _ e
        · cases List.mem_singleton.mp e; exact absurd rfl hb
      · exact (congrArg (fun x => List.take (clipAt ks.length x - clipAt ks.length (p : Int)) (List.drop (clipAt ks.length (p : Int)) ks)) e9).trans (pick_eq ks p c hp1)
  run_tac Mine.Sh.fin
end

section -- T5
open PySem PySem.W PySem.Calls PySem.Spec PyProof.Rows Builtin Builtin.ObjectAttr

theorem sfga : Slot "function" "__getattribute__" "object.__getattribute__" :=
  .of (owner := "object") (n := "__getattribute__") (by rw [typeLookup_type, builtinLookup_eq_fast]; kernel_rfl!) (by decide +kernel) (by decide +kernel) (by decide +kernel)
    (by first | exact .inl (by decide +kernel) | exact .inr (by decide +kernel)) (by rw [isSubtype_type]; kernel_rfl!)
theorem oga_entry : entryFor table "object.__getattribute__" = some Builtin.«object.__getattribute__» := entryFor_of_tree (by kernel_rfl!)
theorem oga_args (a b : Value) : argsOk "object.__getattribute__" ⟨[a, b], []⟩ := by unfold argsOk; kernel_rfl!
theorem fn_getattr : typeLookup (.type "function") (Str.ofString "__getattr__") = pure none := by rw [typeLookup_type, builtinLookup_eq_fast]; kernel_rfl!
theorem ga_fn (f d : Addr) (name : Str) (v : Value) (u : Tok) (fd : FuncData) (sl : Array (Option Value)) (es : List DictEntry) (n : Nat) (hv : handedOut v = pure v) (hn : typeLookup (.type "function") name = pure none) (hl : getL name es = some (some v)) :
    Meets (Builtin.«object.__getattribute__» ⟨[.ref f, .str name u], []⟩) (fun A R s => s.heap.get? f = some ⟨.type "function", some d, .func fd, sl⟩ ∧ s.heap.get? d = some (dictOf es n) ∧ R (.ok (.ret v)) s) :=
  Meets.of_wp fun prog w A R s hs => by
    obtain ⟨hp, g, dr, tk, os⟩ := s
    obtain ⟨hx, hd, hs⟩ := hs
    have hT : (⟨hp, g, dr, tk, os⟩ : Shared).TypeIs (.ref f) "function" := ⟨_, hx, rfl⟩
    have hlk : nsLook name (dictOf es n) = pure (some v) := nsLook_of hl
    unfold Builtin.«object.__getattribute__»
    repeat (any_goals (first | assumption | wp_step))
    exact ⟨_, rfl, hs⟩
section
variable {prog : Program} {w : World} {A : Around} {E : Value → Shared → Prop} {s : Shared}
theorem getattr_fn {f d : Addr} {name : Str} {v : Value} {fd : FuncData} {sl : Array (Option Value)} {es : List DictEntry} {n : Nat} {ex : Bool} {Q : Value → Shared → Prop} (hx : s.heap.get? f = some ⟨.type "function", some d, .func fd, sl⟩) (hd : s.heap.get? d = some (dictOf es n)) (hv : handedOut v = pure v)
   (hn : typeLookup (.type "function") name = pure none) (hl : getL name es = some (some v)) (h : ∀ tk', Q v { s with toks := tk' }) : wpAny (model prog w) A (getAttr (.ref f) name ex) Q E s := by
  run_tac Mine.Sh.mark
  focus
    obtain ⟨hp, g, dr, tk, os⟩ := s
    have hT : ∀ tk', (⟨hp, g, dr, tk', os⟩ : Shared).TypeIs (.ref f) "function" := fun _ => ⟨_, hx, rfl⟩
    have f3 := sfga.lookup
    have f4 := sfga.bind (.ref f)
    have f5 := fn_getattr
    unfold getAttr getAttrBy
    repeat (any_goals (first | assumption | exact hT _ | ((with_reducible show wpAny _ _ (call (Value.builtin "object.__getattribute__") _ _) _ _ _); refine call_meets sfga (hT _) oga_entry (oga_args _ _) (ga_fn f d name v _ fd sl es n hv hn hl) ⟨hx, hd, ?_⟩) | wp_step))
    rw [show (ex && onTheHeap (Value.builtin "object.__getattribute__")) = false from by rw [show onTheHeap (Value.builtin "object.__getattribute__") = false from rfl, Bool.and_false], if_neg (by decide)]
    repeat (any_goals (first | assumption | exact hT _ | ((with_reducible show wpAny _ _ (call (Value.builtin "object.__getattribute__") _ _) _ _ _); refine call_meets sfga (hT _) oga_entry (oga_args _ _) (ga_fn f d name v _ fd sl es n hv hn hl) ⟨hx, hd, ?_⟩) | wp_step))
    exact h _
  run_tac Mine.Sh.fin
theorem getmeth_fn {f d : Addr} {name : Str} {v : Value} {fd : FuncData} {sl : Array (Option Value)} {es : List DictEntry} {n : Nat} {pl : Sem Bool} {Q : Value × List Value → Shared → Prop} (hx : s.heap.get? f = some ⟨.type "function", some d, .func fd, sl⟩) (hd : s.heap.get? d = some (dictOf es n)) (hv : handedOut v = pure v)
   (hn : typeLookup (.type "function") name = pure none) (hl : getL name es = some (some v)) (h : ∀ tk', Q (v, []) { s with toks := tk' }) : wpAny (model prog w) A (getMethod (.ref f) name pl) Q E s := by
  run_tac Mine.Sh.mark
  focus
    have hT : s.TypeIs (.ref f) "function" := ⟨_, hx, rfl⟩
    unfold getMethod
    refine wpAny_bind (wpAny_specialOf hT sfga.lookup ?_)
    dsimp only
    rw [if_neg (by decide +kernel)]
    refine wpAny_bind (wpAny_specialOf hT fn_getattr ?_)
    rw [if_neg (by decide)]
    refine wpAny_bind (wpAny_specialOf hT hn ?_)
    dsimp only
    exact wpAny_bind (getattr_fn hx hd hv hn hl fun tk' => wpAny_pure (h tk'))
  run_tac Mine.Sh.fin
end
theorem take_one (ks : List Int) (p : Nat) (hp : p < ks.length) : (ks.drop p).take 1 = [ks.getD p 0] := by
  run_tac Mine.Sh.mark
  focus
    rw [List.drop_eq_getElem_cons hp, List.take_succ_cons, List.take_zero]
    congr 1
    simp [hp]
  run_tac Mine.Sh.fin
theorem fr_pl {g h h' : Heap} {L pl : Addr} {m : Str → Option Value} {o : Obj} {news : List (Addr × Obj)} (F : Fr g L h m) (N : News g L h ((pl, o) :: news)) (k : ∀ b o, b ≠ pl → h.get? b = some o → h'.get? b = some o) : Fr g L h' m :=
  have z := N (pl, o) (.head _)
  ⟨F.ns.at' fun o e => k _ _ (fun q => z.2.1 q.symm) e, fun b o e => k _ _ (fun q => by have := z.2.2; rw [← q, e] at this; cases this) (F.keep b o e), F.above⟩
theorem news_pl {g h h' : Heap} {L pl : Addr} {o o' : Obj} {news : List (Addr × Obj)} (N : News g L h ((pl, o) :: news)) (ne : ∀ p ∈ news, p.1 ≠ pl) (k : ∀ b o, b ≠ pl → h.get? b = some o → h'.get? b = some o) (e : h'.get? pl = some o') : News g L h' ((pl, o') :: news) := fun p hp => by
  rcases List.mem_cons.mp hp with rfl | hp
  · exact ⟨e, (N (pl, o) (.head _)).2⟩
  · exact ⟨k _ _ (ne p hp) (N p (.tail _ hp)).1, (N p (.tail _ hp)).2⟩
local macro_rules | `(tactic| walk_at $k) => Mine.Tx.look k.getString "callWith ref ==> (k_here; k_dflt (refine callWith_F (fnAt_keep (by assumption) (Fr.keep (by assumption))) ?_))
And ==> ((with_reducible show FnAt _ _ ∧ _); k_dflt (refine ⟨fnAt_keep (by assumption) (Fr.keep (by assumption)), ?_⟩); (try dsimp only [List.nil_append, List.cons_append]))
getMethod ref ==> (k_here; k_dflt (refine getmeth_fn (Fr.keep (by assumption) _ _ (by assumption)) (Fr.keep (by assumption) _ _ (by assumption)) rfl fn_read (by assumption) ?_); intro _)
call ref ==> (k_here; refine haltI ?_)"
theorem read_uint1 (w : World) (loose : List Str) (mean : ExcName → Option Value) (mg mb : Str → Option Value)
   (dp un : Nat) (fr : Option (List Env)) (gd : Option (List Code)) (s : Shared) (Q E : Value → Shared → Prop) (h₀ h1 : Heap)
   (tp d tkf pl : Addr) (fd : FuncData) (es : List DictEntry) (n0 n p : Nat) (ks : List Int) (tpk : Tok)
   (Hf : h₀.get? tp = some ⟨.type "function", some d, .func fd, #[]⟩) (Hd : h₀.get? d = some (dictOf es n0)) (Hr : getL (Str.ofString "read") es = some (some (.ref tkf))) (Ht : FnAt tkf h₀) (Sp : TakeSpec w h1 tkf pl ks) (H1 : ∀ b o, b ≠ pl → h1.get? b = some o → h₀.get? b = some o)
   (St : Sub h₀ s.heap) (Bs : Beside h₀ s.heap [(pl, listOf #[.int (p : Int) tpk] n)]) (hp9 : p < ks.length)
   (X : (Mine.hd.heap_39 w.params).In h₀) (T : Top topProg loose mean mg mb h₀)
   (hd : dp + 20 < recursionLimit) (hu : un + 80 < cLine)
   (hret : ∀ (t' tp' : Tok) (n' : Nat) (h' : Heap) (tk' : Nat), (∀ b o, b ≠ pl → s.heap.get? b = some o → h'.get? b = some o) → h'.get? pl = some (listOf #[.int ((p + 1 : Nat) : Int) tp'] n') → Q (.int (ks.getD p 0) t') { s with heap := h', toks := tk' }) :
   wpAny (model prg w) (TP dp un fr gd) (call (.ref 78) [.ref tp]) Q E s := by
  run_tac Mine.Sh.mark
  focus
    obtain ⟨hp, gn, dr, tk, os⟩ := s
    dsimp only at St Bs hret ⊢
    obtain ⟨g, Sg, S, hle, Bs, Cv⟩ := hideUp St Bs
    have X := X.keeps Sg.stays
    have T := T.keeps Sg.stays
    have Hf := Sg.stays _ _ Hf
    have Hd := Sg.stays _ _ Hd
    have Ht := fnAt_keep Ht Sg.stays
    have H1 : ∀ b o, b ≠ pl → h1.get? b = some o → g.get? b = some o := fun b o n e => Sg.stays _ _ (H1 b o n e)
    clear Sg St
    tb_start
    k_steps
    unfold HaltI
    rename Fr _ _ _ _ => Fo
    rename News _ _ _ _ => No
    refine Sp _ _ _ _ _ _ _ p 1 n tpk _ (fun b o hb e => Fo.keep _ _ (H1 b o hb e)) (No (pl, _) (.head _)).1 (Nat.le_of_lt hp9) (by decide) (show dp + 1 + 10 < recursionLimit from by omega) (show un + 3 + 50 < cLine from by omega) fun t' tp' n' b' h' tk' kp e1 hb => ?_
    have F' := fr_pl Fo No kp
    have N' := news_pl No (fun _ h => nomatch h) kp e1
    rw [take_one ks p hp9] at hb
    clear Fo No
    k_steps
    · rename Fr _ _ _ _ => Fo
      rename News _ _ _ _ => No
      refine hret _ tp' n' _ _ (fun b o hb e => ?_) ((No (pl, _) (.head _)).1.trans (by rw [Nat.min_eq_right hp9]))
      rcases Cv b o e with e | e
      · exact Fo.keep _ _ e
      · cases List.mem_singleton.mp e; exact absurd rfl hb
    · exfalso
      rename ¬ 0 < List.length _ => hz9
      exact hz9 Nat.zero_lt_one
  run_tac Mine.Sh.fin
end

section -- D10
open PySem PySem.W PySem.Calls PySem.Spec PyProof.Rows Builtin

noncomputable abbrev latinS : Str := Str.ofString "latin-1"
theorem latin_run (id : String) (c e : UInt8) : _codecs.runDecoder id _codecs.latin1Decoder none true #[c, e] 0 [] = pure (#[c.toNat, e.toNat], 2) := by kernel_rfl!
theorem latin_road (id : String) (b : Array UInt8) : _codecs.decodeRoad id b latinS none [] = (_codecs.runDecoder id _codecs.latin1Decoder none true b 0 [] >>= fun r => mkStr ⟨r.1⟩) := by kernel_rfl!
theorem latin_text {c e : UInt8} {t t1 t2 : Tok} {d : PySem.Str} :
    Meets («_codecs.decode.text» ⟨[.bytes #[c, e] t, .str latinS t1, .none, .str d t2], []⟩) (fun _ R s => R (.ok (.ret (.str ⟨#[c.toNat, e.toNat]⟩ s.toks))) { s with toks := s.toks + 1 }) := by
  run_tac Mine.Sh.mark
  focus
    refine .of_wp fun prog w A R s h => ?_
    show wpAny _ _ (Bytes.bytesLike _ (.bytes _ t) >>= fun r => _) _ _ s
    refine wpAny_bind (wpAny_of_eq KBd.like_eq ?_)
    refine wpAny_bind (wpAny_of_eq KBd.held_eq ?_)
    show wpAny _ _ (_codecs.decodeRoad _ _ latinS none [] >>= fun v => _) _ _ s
    rw [latin_road, latin_run]
    refine wpAny_bind (wpAny_bind (wpAny_pure ?_))
    exact wpAny_mkStr (wpAny_pure ⟨_, rfl, h⟩) (by show 2 ≤ sizeLine; rw [sizeLine_eq]; decide)
  run_tac Mine.Sh.fin
theorem latin_entry {c e : UInt8} {t u : Tok} : «bytes.decode» ⟨[.bytes #[c, e] t, .str latinS u], []⟩ = (mkStr (PySem.Str.ofString "utf-8") >>= fun _ => mkStr latinS >>= fun e' => mkStr (PySem.Str.ofString "bytes.decode") >>= fun d =>
    call (.builtin "_codecs.decode.text") [.bytes #[c, e] t, e', .none, d] >>= fun v => ret v) := by kernel_rfl!
theorem latin_args (a b : Value) : argsOk "bytes.decode" ⟨[a, b], []⟩ := by unfold argsOk; kernel_rfl!
theorem latin_meets {c e : UInt8} {t u : Tok} :
    Meets («bytes.decode» ⟨[.bytes #[c, e] t, .str latinS u], []⟩) (fun _ R s => ∀ t' k, R (.ok (.ret (.str ⟨#[c.toNat, e.toNat]⟩ t'))) { s with toks := k }) := by
  run_tac Mine.Sh.mark
  focus
    refine .of_wp fun prog w A R s h => ?_
    rw [latin_entry]
    refine wpAny_bind (wpAny_mkStr ?_ (by decide))
    refine wpAny_bind (wpAny_mkStr ?_ (by decide))
    refine wpAny_bind (wpAny_mkStr ?_ (by decide))
    exact wpAny_bind (call_function_meets KBd.kind_text KBd.plain_text KBd.entry_text (KBd.args_text _ _ _ _) latin_text (wpAny_pure ⟨_, rfl, h _ _⟩))
  run_tac Mine.Sh.fin
theorem latin_decode {prog : Program} {w : World} {A : Around} {E : Value → Shared → Prop} {s : Shared} {b : Array UInt8} {x y : Int} {t u : Tok} {Q : Value → Shared → Prop} (hb : KBw.bInts b = [x, y]) (h : ∀ t' k, Q (.str ⟨#[x.toNat, y.toNat]⟩ t') { s with toks := k }) :
    wpAny (model prog w) A (call (.builtin "bytes.decode") [.bytes b t, .str latinS u]) Q E s := by
  run_tac Mine.Sh.mark
  focus
    obtain ⟨l⟩ := b
    match l, hb with
    | [c, e], hb =>
      simp only [KBw.bInts, List.map_cons, List.map_nil, List.cons.injEq, and_true] at hb
      obtain ⟨rfl, rfl⟩ := hb
      exact call_meets FB.slot_bytes_decode (typeIs_bytes _ _ _) FB.entry_bytes_decode (latin_args _ _) latin_meets h
    | [], hb => simp [KBw.bInts] at hb
    | [_], hb => simp [KBw.bInts] at hb
    | _ :: _ :: _ :: _, hb => simp [KBw.bInts] at hb
  run_tac Mine.Sh.fin
end

section -- T6
open PySem PySem.W PySem.Calls PySem.Spec PyProof.Rows Builtin Builtin.ObjectAttr

local macro_rules | `(tactic| walk_at $k) => Mine.Tx.look k.getString "callWith ref ==> (k_here; k_dflt (refine callWith_F (fnAt_keep (by assumption) (Fr.keep (by assumption))) ?_))
And ==> ((with_reducible show FnAt _ _ ∧ _); k_dflt (refine ⟨fnAt_keep (by assumption) (Fr.keep (by assumption)), ?_⟩); (try dsimp only [List.nil_append, List.cons_append]))
getMethod ref ==> (k_here; k_dflt (refine getmeth_fn (Fr.keep (by assumption) _ _ (by assumption)) (Fr.keep (by assumption) _ _ (by assumption)) rfl fn_read (by assumption) ?_); intro _)
call ref ==> (k_here; refine haltI ?_)"
theorem three_of {ks : List Int} {p : Nat} {x a b : Int} (hk : (ks.drop p).take 3 = [x, a, b]) : ks.getD p 0 = x ∧ (ks.drop (p + 1)).take 2 = [a, b] := by
  run_tac Mine.Sh.mark
  focus
    rw [show ks.drop (p + 1) = (ks.drop p).drop 1 from by rw [List.drop_drop], show ks.getD p 0 = (ks.drop p).getD 0 0 from by simp]
    generalize ks.drop p = l at hk ⊢
    match l, hk with
    | x' :: a' :: b' :: r, hk => simp at hk; obtain ⟨rfl, rfl, rfl⟩ := hk; simp
    | [], hk => simp at hk
    | [_], hk => simp at hk
    | [_, _], hk => simp at hk
  run_tac Mine.Sh.fin
local macro_rules | `(tactic| walk_at "call builtin:bytes.decode") => Mine.Tx.line "(k_here; k_dflt (refine latin_decode (by assumption) ?_); intro _ _)"
theorem read_string1 (w : World) (loose : List Str) (mean : ExcName → Option Value) (mg mb : Str → Option Value)
   (dp un : Nat) (fr : Option (List Env)) (gd : Option (List Code)) (s : Shared) (Q E : Value → Shared → Prop) (h₀ h1 : Heap)
   (tp d tkf pl : Addr) (fd : FuncData) (es : List DictEntry) (n0 n p : Nat) (ks : List Int) (tpk : Tok) (a b : Int)
   (Hf : h₀.get? tp = some ⟨.type "function", some d, .func fd, #[]⟩) (Hd : h₀.get? d = some (dictOf es n0)) (Hr : getL (Str.ofString "read") es = some (some (.ref tkf))) (Ht : FnAt tkf h₀) (Sp : TakeSpec w h1 tkf pl ks) (H1 : ∀ b o, b ≠ pl → h1.get? b = some o → h₀.get? b = some o)
   (St : Sub h₀ s.heap) (Bs : Beside h₀ s.heap [(pl, listOf #[.int (p : Int) tpk] n)]) (hp9 : p + 3 ≤ ks.length) (hk : (ks.drop p).take 3 = [2, a, b])
   (X : (Mine.hd.heap_39 w.params).In h₀) (T : Top topProg loose mean mg mb h₀)
   (hd : dp + 30 < recursionLimit) (hu : un + 100 < cLine)
   (hret : ∀ (t' tp' : Tok) (n' : Nat) (h' : Heap) (tk' : Nat), (∀ b o, b ≠ pl → s.heap.get? b = some o → h'.get? b = some o) → h'.get? pl = some (listOf #[.int ((p + 3 : Nat) : Int) tp'] n') → Q (.str ⟨#[a.toNat, b.toNat]⟩ t') { s with heap := h', toks := tk' }) :
   wpAny (model prg w) (TP dp un fr gd) (call (.ref 85) [.ref tp]) Q E s := by
  run_tac Mine.Sh.mark
  focus
    obtain ⟨hp, gn, dr, tk, os⟩ := s
    dsimp only at St Bs hret ⊢
    obtain ⟨g, Sg, S, hle, Bs, Cv⟩ := hideUp St Bs
    have X := X.keeps Sg.stays
    have T := T.keeps Sg.stays
    have Hf := Sg.stays _ _ Hf
    have Hd := Sg.stays _ _ Hd
    have Ht := fnAt_keep Ht Sg.stays
    have H1 : ∀ b o, b ≠ pl → h1.get? b = some o → g.get? b = some o := fun b o n e => Sg.stays _ _ (H1 b o n e)
    clear Sg St
    tb_start
    k_steps
    unfold HaltI
    rename Fr _ _ _ _ => Fo
    rename News _ _ _ _ => No
    obtain ⟨hk1, hk2⟩ := three_of hk
    refine read_uint1 w loose mean mg mb _ _ _ _ _ _ _ g h1 tp d tkf pl fd es n0 n p ks tpk Hf Hd Hr Ht Sp H1 ⟨Fo.keep⟩ (fun q hq => ⟨(No q hq).1, (No q hq).2.2⟩) (by omega) X T (show dp + 1 + 20 < recursionLimit from by omega) (show un + 3 + 80 < cLine from by omega) fun t' tp' n' h' tk' kp e1 => ?_
    rw [hk1]
    have F' := fr_pl Fo No kp
    have N' := news_pl No (fun _ h => nomatch h) kp e1
    clear Fo No
    k_steps
    unfold HaltI
    rename Fr _ _ _ _ => Fo
    rename News _ _ _ _ => No
    refine Sp _ _ _ _ _ _ _ (p + 1) 2 n' tp' _ (fun b o hb e => Fo.keep _ _ (H1 b o hb e)) (No (pl, _) (.head _)).1 (by omega) (by decide) (show dp + 1 + 10 < recursionLimit from by omega) (show un + 3 + 50 < cLine from by omega) fun t' tp' n' b' h' tk' kp e1 hb => ?_
    have F' := fr_pl Fo No kp
    have N' := news_pl No (fun _ h => nomatch h) kp e1
    rw [hk2] at hb
    clear Fo No
    k_steps
    · rename Fr _ _ _ _ => Fo
      rename News _ _ _ _ => No
      refine hret _ tp' n' _ _ (fun b o hb e => ?_) ((No (pl, _) (.head _)).1.trans (by rw [Nat.min_eq_right hp9]))
      rcases Cv b o e with e | e
      · exact Fo.keep _ _ e
      · cases List.mem_singleton.mp e; exact absurd rfl hb
    · exfalso
      rename (List.length _ : Int) ≠ 2 => hz9
      exact hz9 rfl
  run_tac Mine.Sh.fin
end

section -- T7
open PySem PySem.W PySem.Calls PySem.Spec PyProof.Rows Builtin Builtin.ObjectAttr

noncomputable def RowIn (tl : List (Addr × Obj)) (v : Value) (r : Rule) : Prop := ∃ a t1 t2, v = .ref a ∧ (a, tupO [.int r.b t1, .str ⟨#[r.h.toNat, r.l.toNat]⟩ t2]) ∈ tl
noncomputable def RowsIn (tl : List (Addr × Obj)) (vs : List Value) (rs : List Rule) : Prop := vs.length = rs.length ∧ ∀ (i : Nat) (v : Value) (r : Rule), vs[i]? = some v → rs[i]? = some r → RowIn tl v r
theorem rows_snoc {tl : List (Addr × Obj)} {vs : List Value} {rs : List Rule} {r : Rule} {a : Addr} {t1 t2 : Tok} (h : RowsIn tl vs rs) : RowsIn ((a, tupO [.int r.b t1, .str ⟨#[r.h.toNat, r.l.toNat]⟩ t2]) :: tl) (vs ++ [.ref a]) (rs ++ [r]) := by
  run_tac Mine.Sh.mark
  focus
    refine ⟨by simp [h.1], fun i v r' h1 h2 => ?_⟩
    rcases Nat.lt_trichotomy i vs.length with q | q | q
    · rw [List.getElem?_append_left q] at h1
      rw [List.getElem?_append_left (h.1 ▸ q)] at h2
      obtain ⟨a, t1, t2, e, hm⟩ := h.2 i v r' h1 h2
      exact ⟨a, t1, t2, e, .tail _ hm⟩
    · subst q
      rw [List.getElem?_append_right (Nat.le_refl _), Nat.sub_self] at h1
      rw [h.1, List.getElem?_append_right (Nat.le_refl _), Nat.sub_self] at h2
      cases h1; cases h2
      exact ⟨a, t1, t2, rfl, .head _⟩
    · rw [List.getElem?_eq_none (by rw [List.length_append, List.length_singleton]; omega)] at h1
      cases h1
  run_tac Mine.Sh.fin
noncomputable def TabJ (pl : Addr) (rs : List Rule) (i : Nat) (v : Value) (bl : List (Addr × Obj)) : Prop :=
  ∃ (D : Addr) (vs : List Value) (k k' : Nat) (tpk : Tok) (tl : List (Addr × Obj)), v = .ref D ∧ bl = (pl, listOf #[.int ((1 + 4 * i : Nat) : Int) tpk] k') :: (D, listOf vs.toArray k) :: tl ∧ RowsIn tl vs (rs.take i) ∧ @Ne Nat pl D ∧ (∀ p ∈ tl, p.1 ≠ pl)
theorem allLt_mem {d : Nat} {q : Addr × Obj} : ∀ {l : List (Addr × Obj)}, AllLt d l → q ∈ l → @LT.lt Nat _ q.1 d
  | [], _, h => nomatch h
  | p :: r, n, h => by
    rcases List.mem_cons.mp h with rfl | h
    · exact n.1
    · exact allLt_mem n.2 h
theorem cov_none {g hp : Heap} {nl : List (Addr × Obj)} {d : Addr} (Cv : Covers g hp nl) (hg : g.get? d = none) (hn : ∀ p ∈ nl, @LT.lt Nat _ p.1 d) : hp.get? d = none := by
  run_tac Mine.Sh.mark
  focus
    cases q : hp.get? d with
    | none => rfl
    | some o =>
      rcases Cv _ _ q with e | e
      · rw [hg] at e; cases e
      · exact absurd (hn _ e) (Nat.lt_irrefl _)
  run_tac Mine.Sh.fin
theorem hideL {g h : Heap} {L : Addr} {l : List (Addr × Obj)} {f : Addr} {n q : Str} {ps : Arguments} {b : PySem.Expr} {sc : Scope} {cl : List (Str × Addr)} {pm ct : Value} {c : Addr} {vs : Array Value} {t : Tok} (N : News g L h ((f, kla_obj n q ps b sc cl pm c ct) :: l)) (e : vs[1]? = some (.str q t)) :
   ∃ q' pm' ct', News g L h ((f, kla_obj n q' ps b sc cl pm' c ct') :: l) ∧ vs[1]? = some (.str q' t) := ⟨q, pm, ct, N, e⟩
theorem newsSub {g h : Heap} {L : Addr} {a b : List (Addr × Obj)} (N : News g L h a) (hs : ∀ p ∈ b, p ∈ a) : News g L h b := fun p hp => N p (hs p hp)
theorem mem5T {a b c d e : Addr × Obj} {l : List (Addr × Obj)} (ha : a ∈ l) (hb : b ∈ l) (hc : c ∈ l) (hd : d ∈ l) (he : e ∈ l) : ∀ p ∈ [a, b, c, d, e], p ∈ l := by
  run_tac Mine.Sh.mark
  focus
    intro p hp
    simp only [List.mem_cons, List.not_mem_nil, or_false] at hp
    rcases hp with rfl | rfl | rfl | rfl | rfl <;> assumption
  run_tac Mine.Sh.fin
noncomputable def tapeInts (rs : List Rule) : List Int := (rs.length : Int) :: (rs.flatMap fun r => [r.b, 2, r.h, r.l]) ++ [1, 7]
theorem flat_drop (f : Rule → List Int) (hf : ∀ r, (f r).length = 4) : ∀ (rs : List Rule) (i : Nat) (r : Rule), rs[i]? = some r → (rs.flatMap f).drop (4 * i) = f r ++ (rs.drop (i + 1)).flatMap f
  | [], _, _, h => by cases h
  | r0 :: rs, 0, r, h => by
    cases h
    simp
  | r0 :: rs, i + 1, r, h => by
    have ih := flat_drop f hf rs i r (by simpa using h)
    rw [List.flatMap_cons, show 4 * (i + 1) = (f r0).length + 4 * i from by rw [hf]; omega, List.drop_append, List.drop_succ_cons, Nat.add_sub_cancel_left]
    rw [List.drop_eq_nil_of_le (by omega), List.nil_append]
    exact ih
theorem tape_at {rs : List Rule} {i : Nat} {r : Rule} (h : rs[i]? = some r) : ((tapeInts rs).drop (1 + 4 * i)).take 4 = [r.b, 2, r.h, r.l] := by
  run_tac Mine.Sh.mark
  focus
    have hi : i < rs.length := by
      rcases Nat.lt_or_ge i rs.length with q | q
      · exact q
      · rw [List.getElem?_eq_none q] at h; cases h
    unfold tapeInts
    rw [Nat.add_comm 1, List.cons_append, List.drop_succ_cons, List.drop_append, flat_drop _ (fun _ => rfl) rs i r h]
    simp
  run_tac Mine.Sh.fin
theorem tape_len (rs : List Rule) : (tapeInts rs).length = 4 * rs.length + 3 := by
  run_tac Mine.Sh.mark
  focus
    unfold tapeInts
    have : (rs.flatMap fun r => [r.b, 2, r.h, r.l]).length = 4 * rs.length := by
      induction rs with
      | nil => rfl
      | cons r rs ih => rw [List.flatMap_cons, List.length_append, ih]; simp; omega
    simp [this]
  run_tac Mine.Sh.fin
theorem four_of {ks : List Int} {p : Nat} {x a b c : Int} (hk : (ks.drop p).take 4 = [x, a, b, c]) : ks.getD p 0 = x ∧ (ks.drop (p + 1)).take 3 = [a, b, c] := by
  run_tac Mine.Sh.mark
  focus
    rw [show ks.drop (p + 1) = (ks.drop p).drop 1 from by rw [List.drop_drop], show ks.getD p 0 = (ks.drop p).getD 0 0 from by simp]
    generalize ks.drop p = l at hk ⊢
    match l, hk with
    | x' :: a' :: b' :: c' :: r, hk => simp at hk; obtain ⟨rfl, rfl, rfl, rfl⟩ := hk; simp
    | [], hk => simp at hk
    | [_], hk => simp at hk
    | [_, _], hk => simp at hk
    | [_, _, _], hk => simp at hk
  run_tac Mine.Sh.fin
local macro_rules | `(tactic| walk_at $k) => Mine.Tx.look k.getString "call ref ==> (k_here; refine haltI ?_)
call type:range ==> (k_here; (k_dflt (refine' range_led ?F ?N ?_; (case F => k_asm); (case N => k_asm))); intro r' h' tk' t' u' v' F' N' l1; (try k_lt l1); (try k_sweep))
eval Name ==> (k_here; kc_free; (k_dflt (refine nameX_base (by with_reducible assumption) (by rfl) (by with_reducible assumption) (by with_reducible assumption) ?_)))"
theorem law_table (w : World) (loose : List Str) (mean : ExcName → Option Value) (mg mb : Str → Option Value)
   (dp un : Nat) (fr : Option (List Env)) (gd : Option (List Code)) (s : Shared) (Q E : Value → Shared → Prop) (h₀ h1 : Heap)
   (tp d tkf pl : Addr) (fd : FuncData) (es : List DictEntry) (n0 n : Nat) (rs : List Rule) (tpk : Tok)
   (Hf : h₀.get? tp = some ⟨.type "function", some d, .func fd, #[]⟩) (Hd : h₀.get? d = some (dictOf es n0)) (Hr : getL (Str.ofString "read") es = some (some (.ref tkf))) (Ht : FnAt tkf h₀) (Sp : TakeSpec w h1 tkf pl (tapeInts rs)) (H1 : ∀ b o, b ≠ pl → h1.get? b = some o → h₀.get? b = some o)
   (St : Sub h₀ s.heap) (Bs : Beside h₀ s.heap [(pl, listOf #[.int 0 tpk] n), (134, tabObj #[])]) (CH : CodeHd h₀ 138 134) (hrs : rs.length ≤ 9) (hpl : @Ne Nat pl 134)
   (X : (Mine.hd.heap_39 w.params).In h₀) (T : Top topProg loose mean mg mb h₀)
   (hd : dp + 60 < recursionLimit) (hu : un + 300 < cLine)
   (hret : ∀ (D : Addr) (vs : List Value) (k k' : Nat) (tpk : Tok) (tl : List (Addr × Obj)) (h' : Heap) (tk' : Nat), (∀ b o, b ≠ pl → b ≠ 134 → s.heap.get? b = some o → h'.get? b = some o) → h'.get? D = some (listOf vs.toArray k) → RowsIn tl vs rs → (∀ p ∈ tl, h'.get? p.1 = some p.2 ∧ p.1 ≠ pl ∧ (@Eq Nat p.1 134 ∨ s.heap.get? p.1 = none)) → @Ne Nat D pl → (@Eq Nat D 134 ∨ s.heap.get? D = none) →
      h'.get? pl = some (listOf #[.int ((1 + 4 * rs.length : Nat) : Int) tpk] k') → (∃ ps, h'.get? 134 = some (tabObj ps)) → Q (.ref D) { s with heap := h', toks := tk' }) :
   wpAny (model prg w) (TP dp un fr gd) (call (.ref 139) [.ref tp]) Q E s := by
  run_tac Mine.Sh.mark
  focus
    obtain ⟨hp, gn, dr, tk, os⟩ := s
    dsimp only at St Bs hret ⊢
    obtain ⟨g, Sg, S, hle, Bs, Cv⟩ := hideUp St Bs
    have X := X.keeps Sg.stays
    have T := T.keeps Sg.stays
    have CH := CH.keeps Sg.stays
    have Hf := Sg.stays _ _ Hf
    have Hd := Sg.stays _ _ Hd
    have Ht := fnAt_keep Ht Sg.stays
    have H1 : ∀ b o, b ≠ pl → h1.get? b = some o → g.get? b = some o := fun b o n e => Sg.stays _ _ (H1 b o n e)
    clear Sg St
    tb_rel
    k_steps
    unfold HaltI
    rename Fr _ _ _ _ => Fo
    rename News _ _ _ _ => No
    rename_i L hh tkk Fa l1 o1 d1 Na f1 c1 oc1 vs1 tt1 ct1 h2 tk2 ec1 e2 l2 l3
    clear Fa Na
    have d1' : o1.data = .cell (some (.ref tp)) := d1
    have hlen : (tapeInts rs).length = 4 * rs.length + 3 := tape_len rs
    obtain ⟨qq, pm, ctv, No, e3⟩ := hideL No e2
    clear e2
    have N1 := newsSub No (mem5T (a := (pl, listOf #[.int 0 tpk] n)) (b := (f1, _)) (c := (c1, oc1)) (d := (L + 1, o1)) (e := (134, tabObj _)) (by k_mem) (by k_mem) (by k_mem) (by k_mem) (by k_mem))
    clear d1
    clear No
    refine read_uint1 w loose mean mg mb _ _ _ _ _ _ _ g h1 tp d tkf pl fd es n0 n 0 (tapeInts rs) tpk Hf Hd Hr Ht Sp H1 ⟨Fo.keep⟩ (fun q hq => by cases List.mem_singleton.mp hq; exact ⟨(N1 _ (.head _)).1, (N1 _ (.head _)).2.2⟩) (by omega) X T (show dp + 1 + 20 < recursionLimit from by omega) (show un + 3 + 80 < cLine from by omega) fun t' tp' n' h' tk' kp e1 => ?_
    have F' := fr_pl Fo N1 kp
    have N' := news_pl N1 (by
      intro q hq
      simp only [List.mem_cons, List.not_mem_nil, or_false] at hq
      rcases hq with rfl | rfl | rfl | rfl
      · exact (show @Ne Nat f1 pl by omega)
      · exact (show @Ne Nat c1 pl by omega)
      · exact (show @Ne Nat (L + 1) pl by omega)
      · exact (show @Ne Nat 134 pl by omega)) kp e1
    rw [show (tapeInts rs).getD 0 0 = (rs.length : Int) from rfl]
    clear Fo N1
    k_steps
    unfold HaltI
    rename Fr _ _ _ _ => Fo
    rename News _ _ _ _ => No
    rename_i r hr2 tkr tr ur vr lr D hD lD
    have hx : ∀ b o, b ∉ [pl, D] → hD.get? b = some o → (hideAll hD [pl, D]).get? b = some o := fun b o hb e => hideAll_get _ e hb
    have hgp : g.get? pl = none := (No (pl, _) (by k_mem)).2.2
    have hgD : g.get? D = none := (No (D, _) (by k_mem)).2.2
    have hxg : ∀ b o, g.get? b = some o → (hideAll hD [pl, D]).get? b = some o := fun b o e => hx b o (fun hm => by
      rcases List.mem_cons.mp hm with rfl | hm
      · rw [hgp] at e; cases e
      · rw [List.mem_singleton.mp hm, hgD] at e; cases e) (Fo.keep b o e)
    have nm : ∀ b : Addr, @Ne Nat b pl → @Ne Nat b D → b ∉ [pl, D] := fun b h1 h2 hm => by
      rcases List.mem_cons.mp hm with q | hm
      · exact h1 q
      · exact h2 (List.mem_singleton.mp hm)
    have nf := hx f1 _ (nm _ (by omega) (by omega)) (No (f1, _) (by k_mem)).1
    have nc := hx c1 _ (nm _ (by omega) (by omega)) (No (c1, oc1) (by k_mem)).1
    have no1 := hx (L + 1) _ (nm _ (by omega) (by omega)) (No (L + 1, o1) (by k_mem)).1
    have nr := hx r _ (nm _ (by omega) (by omega)) (No (r, _) (by k_mem)).1
    refine reduce_K w loose mean mg mb _ _ _ _ _ _ _ (hideAll hD [pl, D]) [(pl, listOf #[.int ((0 + 1 : Nat) : Int) tp'] n'), (D, listOf #[] 0)] f1 (.ref r) (.ref D) ⟨_, _, _, _, nf⟩ rs.length (fun i v => ∃ t, v = .int (0 + (i : Int)) t) (TabJ pl rs) ?J0
      (.obj D _ (.tail _ (.head _)) (fun e => absurd (Value.type.inj e) (by decide))) (iters_range rfl nr (by omega)) ⟨fun b o e => of_hideAll _ e⟩ (fun q hq => ?Bs) (X.keeps hxg) (T.keeps hxg) (show dp + 1 + 30 < recursionLimit from by omega) (show un + 3 + 200 < cLine from by omega) ?hcall ?hret
    case J0 => exact ⟨D, [], 0, n', tp', [], rfl, rfl, ⟨rfl, fun i v r e => nil_at e⟩, by omega, fun _ h => nomatch h⟩
    case Bs =>
      rcases List.mem_cons.mp hq with rfl | hq
      · exact ⟨(No _ (by k_mem)).1, hideAll_none _ (.head _)⟩
      · cases List.mem_singleton.mp hq
        exact ⟨(No _ (by k_mem)).1, hideAll_none _ (.tail _ (.head _))⟩
    case hret =>
      intro v bl h' tk' hJ hkp hbl
      obtain ⟨D2, vs, k, k', tq, tl, rfl, rfl, hR, hne, hnt⟩ := hJ
      rw [List.take_length] at hR
      have hpl9 := (No (pl, _) (by k_mem)).1
      have hD9 : @Ne Nat D pl ∧ @Ne Nat D 134 := ⟨by omega, by omega⟩
      have new : ∀ b : Addr, @Ne Nat b pl → ((∃ q ∈ [(pl, listOf #[.int ((0 + 1 : Nat) : Int) tp'] n'), (D, listOf #[] 0)], q.1 = b) ∨ hD.get? b = none) → @Eq Nat b 134 ∨ hp.get? b = none := fun b hb hz => by
        cases q : hp.get? b with
        | none => exact .inr rfl
        | some o =>
          rcases Cv b o q with e | e
          · rcases hz with ⟨x, hx, rfl⟩ | hz
            · rcases List.mem_cons.mp hx with rfl | hx
              · exact absurd rfl hb
              · cases List.mem_singleton.mp hx
                rw [show (D, listOf #[] 0).1 = D from rfl, hgD] at e; cases e
            · rw [Fo.keep _ _ e] at hz; cases hz
          · rcases List.mem_cons.mp e with e | e
            · cases e; exact absurd rfl hb
            · cases List.mem_singleton.mp e; exact .inl rfl
      refine hret D2 vs k k' tq tl h' tk' (fun b o h1 h2 e => ?_) (hbl (D2, _) (.tail _ (.head _))).1 hR (fun p hp => ⟨(hbl p (.tail _ (.tail _ hp))).1, hnt p hp, new _ (hnt p hp) (hbl p (.tail _ (.tail _ hp))).2⟩) ?_ (new _ hne.symm (hbl (D2, _) (.tail _ (.head _))).2) (hbl (pl, _) (.head _)).1 ⟨_, hkp 134 _ (fun p hp q => ?t134) (No (134, tabObj _) (by k_mem)).1⟩
      · rcases Cv b o e with e | e
        · refine hkp b o (fun p hp q => ?_) (Fo.keep _ _ e)
          rcases List.mem_cons.mp hp with rfl | hp
          · exact h1 q.symm
          · cases List.mem_singleton.mp hp
            rw [← q, show (D, listOf #[] 0).1 = D from rfl, hgD] at e; cases e
        · rcases List.mem_cons.mp e with q | e
          · cases q; exact absurd rfl h1
          · cases List.mem_singleton.mp e; exact absurd rfl h2
      · exact hne.symm
      case t134 =>
        rcases List.mem_cons.mp hp with rfl | hp
        · exact hpl q
        · cases List.mem_singleton.mp hp; exact hD9.2 q
    case hcall =>
      clear No Fo hx hgp hgD
      intro j v x bl dp' un' fr' gd' h tk Q' E' hj hdp hun hJ hP hk hbl hnone hq
      have hdp : dp' ≤ dp + 1 + 2 := hdp
      have hun : un' ≤ un + 3 + 10 := hun
      obtain ⟨D2, vs, k, k', tq, tl, rfl, rfl, hR, hne, hnt⟩ := hJ
      obtain ⟨tx, rfl⟩ := hP
      obtain ⟨g3, Sg3, S3, hle3, Bs3, Cv3⟩ := hideUp (h₀ := hideAll hD [pl, D]) ⟨hk⟩ (fun p hp => ⟨hbl p hp, hnone p hp⟩)
      have X := X.keeps fun b o e => Sg3.stays _ _ (hxg b o e)
      have T := T.keeps fun b o e => Sg3.stays _ _ (hxg b o e)
      have Hf := Sg3.stays _ _ (hxg _ _ Hf)
      have Hd := Sg3.stays _ _ (hxg _ _ Hd)
      have Ht := fnAt_keep Ht fun b o e => Sg3.stays _ _ (hxg b o e)
      have H1 : ∀ b o, b ≠ pl → h1.get? b = some o → g3.get? b = some o := fun b o n e => Sg3.stays _ _ (hxg _ _ (H1 b o n e))
      have nf := Sg3.stays _ _ nf
      have nc := Sg3.stays _ _ nc
      have no1 := Sg3.stays _ _ no1
      clear hxg Sg3 hk hbl hnone nr
      refine wpAny_call ?_
      refine enterGL (binds := [(Str.ofString "rows", .ref D2), (Str.ofString "turn", .int (0 + (j : Int)) tx)]) T S3 hle3 Bs3 (S3.stays _ _ nf) rfl ⟨c1, oc1, vs1, tt1, rfl, S3.stays _ _ nc, ec1, e3⟩ (show dp' < recursionLimit from by omega) (BindsTo.of_eq rfl) (locs rfl) ?_ rfl rfl rfl (by decide)
      intro L3 h3 F3 N3 l3
      have d1' := d1'
      k_steps
      unfold HaltI
      rename Fr _ _ _ _ => Fo
      rename News _ _ _ _ => No
      obtain ⟨rj, hrj⟩ : ∃ r, rs[j]? = some r := ⟨rs[j], by simp [hj]⟩
      obtain ⟨hk1, hk2⟩ := four_of (tape_at hrj)
      have hne' : ∀ p ∈ (D2, listOf vs.toArray k) :: tl, p.1 ≠ pl := fun p hp => by
        rcases List.mem_cons.mp hp with rfl | hp
        · exact fun e => hne e.symm
        · exact hnt p hp
      refine read_uint1 w loose mean mg mb _ _ _ _ _ _ _ g3 h1 tp d tkf pl fd es n0 k' (1 + 4 * j) (tapeInts rs) tq Hf Hd Hr Ht Sp H1 ⟨Fo.keep⟩ (fun q hq => by cases List.mem_singleton.mp hq; exact ⟨(No _ (.head _)).1, (No _ (.head _)).2.2⟩) (by omega) X T (show dp' + 1 + 20 < recursionLimit from by omega) (show un' + 3 + 80 < cLine from by omega) fun t5 tp5 n5 h5 tk5 kp5 e5 => ?_
      have F' := fr_pl Fo No kp5
      have N' := news_pl No hne' kp5 e5
      rw [hk1]
      clear Fo No
      k_steps
      unfold HaltI
      rename Fr _ _ _ _ => Fo
      rename News _ _ _ _ => No
      refine read_string1 w loose mean mg mb _ _ _ _ _ _ _ g3 h1 tp d tkf pl fd es n0 n5 (1 + 4 * j + 1) (tapeInts rs) tp5 rj.h rj.l Hf Hd Hr Ht Sp H1 ⟨Fo.keep⟩ (fun q hq => by cases List.mem_singleton.mp hq; exact ⟨(No _ (.head _)).1, (No _ (.head _)).2.2⟩) (by omega) hk2 X T (show dp' + 1 + 30 < recursionLimit from by omega) (show un' + 3 + 100 < cLine from by omega) fun t6 tp6 n6 h6 tk6 kp6 e6 => ?_
      rw [show 1 + 4 * j + 1 + 3 = 1 + 4 * (j + 1) from by omega] at e6
      have F' := fr_pl Fo No kp6
      have N' := news_pl No hne' kp6 e6
      clear Fo No
      k_steps
      rename Fr _ _ _ _ => Fo
      rename News _ _ _ _ => No
      rename_i Dt ht lt Dl hl ll
      refine add_arrays (its := vs.toArray) (its2 := #[.ref Dt]) Fo No (News.isList No (by k_mem)) (News.isList No (List.Mem.head _)) (fun h7 F7 N7 => ?_) ?hsz
      case hsz => rw [List.size_toArray, hR.1, List.length_take, sizeLine_eq]; show min j rs.length + 1 ≤ _; omega
      have hup : ∀ b, (∃ o, hl.get? b = some o) → @LT.lt Nat _ b hl.objs.size := fun b ⟨o, e⟩ => Heap.lt_size e
      dsimp only at N7 ⊢
      have u1 := hup pl ⟨_, (No (pl, _) (by k_mem)).1⟩
      have u2 := hup D2 ⟨_, (No (D2, _) (by k_mem)).1⟩
      have u3 : ∀ p ∈ tl, @LT.lt Nat _ p.1 hl.objs.size := fun p hp => hup p.1 ⟨_, (No p (.tail _ (.tail _ (.tail _ (.tail _ hp))))).1⟩
      have v1 := (N7 (hl.objs.size, _) (.head _))
      have v2 := (N7 (Dt, _) (by k_mem))
      refine hq _ ((pl, _) :: (hl.objs.size, listOf (vs ++ [Value.ref Dt]).toArray 0) :: (Dt, tupO [.int rj.b t5, .str ⟨#[rj.h.toNat, rj.l.toNat]⟩ t6]) :: tl) h7 _ (fun b o hb e => ?_) (fun p hp => ?_) ⟨hl.objs.size, vs ++ [Value.ref Dt], 0, n6, tp6, (Dt, tupO [.int rj.b t5, .str ⟨#[rj.h.toNat, rj.l.toNat]⟩ t6]) :: tl, rfl, rfl, ?_, ?_, ?_⟩
      · rcases Cv3 b o e with e | e
        · exact F7.keep _ _ e
        · exact absurd rfl (hb _ e)
      · rcases List.mem_cons.mp hp with rfl | hp
        · exact ⟨(N7 (pl, _) (by k_mem)).1, .inl ⟨_, .head _, rfl⟩⟩
        · rcases List.mem_cons.mp hp with rfl | hp
          · refine ⟨v1.1, .inr (cov_none Cv3 v1.2.2 fun q hq => ?_)⟩
            rcases List.mem_cons.mp hq with rfl | hq
            · exact u1
            · rcases List.mem_cons.mp hq with rfl | hq
              · exact u2
              · exact u3 _ hq
          · rcases List.mem_cons.mp hp with rfl | hp
            · refine ⟨v2.1, .inr (cov_none Cv3 v2.2.2 fun q hq => ?_)⟩
              rcases List.mem_cons.mp hq with rfl | hq
              · exact lt.1
              · rcases List.mem_cons.mp hq with rfl | hq
                · exact lt.2.1
                · exact allLt_mem lt.2.2 hq
            · exact ⟨(N7 p (.tail _ (.tail _ (.tail _ (.tail _ (.tail _ hp)))))).1, .inl ⟨p, .tail _ (.tail _ hp), rfl⟩⟩
      · rw [List.take_succ, hrj]
        exact rows_snoc hR
      · exact Nat.ne_of_lt u1
      · intro p hp
        rcases List.mem_cons.mp hp with rfl | hp
        · exact Nat.ne_of_gt lt.1
        · exact hnt p hp
  run_tac Mine.Sh.fin
end

section -- K1
section
variable {M : Model} {A : Around} {E : Value → Shared → Prop} {s : Shared}
theorem wpAny_classCodeX {env : Env} {c P : Addr} {ps : Array Value} {pos : Pos} {firstLine : Nat} {name qualname : Str} {scope : Scope}
    {Q : Value → Shared → Prop} (hc : env.code = .ref c) (hok : s.heap.IsCode c P ps) (htab : s.heap.TableAt c P ps) (hnf : codeAmong pos ps.toList = none)
    (hQ : ∀ c' h' tk P', Heap.ExtBut P s.heap h' → s.heap.objs.size ≤ c' → c' < h'.objs.size → h'.TableAt c P (ps ++ #[rawInt pos.line, rawInt pos.col, .ref c']) → h'.CodeRec (.ref c') qualname →
      s.heap.objs.size ≤ P' → h'.IsCode c' P' #[] → h'.TableAt c' P' #[] → Q (.ref c') { s with heap := h', toks := tk }) :
    wpAny M A (classCode env pos firstLine name qualname scope) Q E s := by
  run_tac Mine.Sh.mark
  focus
    obtain ⟨o, vs, file, tf, flags, tg, inF, text, tt, op, ho, hd, h11, h2, h7, h9, h10, hop, hpd, htr, hne⟩ := id hok
    unfold classCode codeAt
    rw [hc, if_neg (show ¬ ((Value.ref c == Value.none) = true) from Bool.false_ne_true)]
    refine wpAny_bind (wpAny_fieldsOf ho hd ?_)
    rw [h11]
    refine wpAny_bind (wpAny_fieldsOf hop hpd ?_)
    rw [hnf, h2, h7, h9, h10]
    refine wpAny_bind (wpAny_newCodeX fun c' P' h' tk hk hc' hP' hcode' htab' hrec' => ?_)
    have hop' := hk _ _ hop
    refine wpAny_bind (wpAny_updateFieldsOfTheText hop' hpd ?_)
    have hnew : (Obj.mapFields (fun vs => if (codeAmong pos vs.toList).isSome = true then vs else vs ++ #[rawInt pos.line, rawInt pos.col, .ref c']) op).data =
        .fields (ps ++ #[rawInt pos.line, rawInt pos.col, .ref c']) := by
      rw [Obj.data_mapFields hpd, hnf]; rfl
    have hget := Heap.get?_update_self (h := h') (fun o => Obj.mapFields (fun vs => if (codeAmong pos vs.toList).isSome = true then vs else
      vs ++ #[rawInt pos.line, rawInt pos.col, .ref c']) o) hop' (Obj.isFreed_of_fields hnew)
    refine wpAny_bind (wpAny_fieldsOf hget hnew ?_)
    have hl : (ps ++ #[rawInt pos.line, rawInt pos.col, Value.ref c']).toList = ps.toList ++ [rawInt pos.line, rawInt pos.col, .ref c'] := by simp
    rw [hl, codeAmong_snoc _ htr hnf]
    have hcP : c' ≠ P := Nat.ne_of_gt (Nat.lt_of_lt_of_le (Heap.lt_size hop) hc')
    have hP'P : P' ≠ P := Nat.ne_of_gt (Nat.lt_of_lt_of_le (Heap.lt_size hop) hP')
    refine wpAny_pure (hQ _ _ _ P' (fun b o' hb e => ((Heap.SameBut.update ..).extBut b o' hb (hk b o' e))) hc' (by rw [Heap.size_after_update]; exact hcode'.lt.1) ?_ ?_ hP' (hcode'.extBut (Heap.SameBut.update ..).extBut hcP hP'P) ?_)
    · obtain ⟨⟨oc, vc, hoc, hcc, hdc, h11c⟩, htP⟩ := htab
      have e1 : op = { cls := .none, data := .fields ps } := Option.some.inj (hop.symm.trans htP)
      refine ⟨⟨oc, vc, (Heap.SameBut.update ..).extBut _ _ hne (hk _ _ hoc), hcc, hdc, h11c⟩, ?_⟩
      rw [hget, e1]
      simp only [Obj.mapFields, hnf]
      rfl
    · obtain ⟨c₂, o₂, vs₂, t₂, e₂, g₂, r₂⟩ := hrec'
      cases e₂
      exact ⟨_, o₂, vs₂, t₂, rfl, (Heap.SameBut.update ..).extBut _ _ hcP g₂, r₂⟩
    · obtain ⟨⟨oc, vc, hoc, hcc, hdc, h11c⟩, htP⟩ := htab'
      exact ⟨⟨oc, vc, (Heap.SameBut.update ..).extBut _ _ hcP hoc, hcc, hdc, h11c⟩, (Heap.SameBut.update ..).extBut _ _ hP'P htP⟩
  run_tac Mine.Sh.fin
end
end

section -- K4
open PySem PySem.W PySem.Calls PySem.Spec PyProof.Rows Builtin

noncomputable abbrev boundO (id : String) (c : Value) : Obj := { cls := .type "builtin_function_or_method", data := .fields #[.builtin id, c] }
section
variable {prog : Program} {w : World} {A : Around} {E : Value → Shared → Prop} {s : Shared} {K : Frag} {c mc : Value} {name : Str}
theorem cls_openQ {r : CFound} {Q : Option Value → Shared → Prop} {hook : Option Value} (X : K.In s.heap) (ho : Looks (model prog w) s.heap (opaqueClassAbove c) none) (ht : Looks (model prog w) s.heap (typeOf c) mc)
    (hga : findIn K mc "__getattribute__" = some (some (.builtin "type.__getattribute__"))) (hb : Looks (model prog w) s.heap (hookBefore mc) hook) (hi : subIn K mc (.type "type") = some true) (e : findCls K c mc name = some r)
    (h : wpAny (model prog w) A.in1 r.run (fun fin s' => match fin with | .done (.ret v) => wpAny (model prog w) A (handedOut v) (fun v => Q (some v)) (fun _ _ => False) s' | _ => False) (fun _ _ => False) { s with toks := s.toks + 1 }) :
    wpAny (model prog w) A (getAttr? c name) Q E s := by
  run_tac Mine.Sh.mark
  focus
    unfold getAttr? getAttrBy?
    refine wpAny_bind (wpAny_mkText (wpAny_bind (wpAny_attempt (wpAny_holding (wpAny_bind (ht _ _ _ _ (fun _ _ e => e) (wpAny_bind (looks_findIn X hga _ _ _ _ (fun _ _ e => e) ?_))))))))
    dsimp only
    rw [show (onTheHeap mc && Value.builtin "type.__getattribute__" == Value.builtin "object.__getattribute__") = false from by rw [show (Value.builtin "type.__getattribute__" == Value.builtin "object.__getattribute__") = false from by decide +kernel, Bool.and_false], if_neg (by decide)]
    refine wpAny_bind (hb _ _ _ _ (fun _ _ e => e) (wpAny_bind (wpAny_attempt (wpAny_holding ?_))))
    unfold callGetattribute
    rw [show (false && onTheHeap (Value.builtin "type.__getattribute__")) = false from rfl, if_neg (by decide)]
    unfold boundAndCalled
    rw [KF.slot_tga.bind]
    refine wpAny_bind (wpAny_pure ?_)
    show wpAny _ _ (call (.builtin "type.__getattribute__") [c, .str name s.toks]) _ _ _
    refine wpAny_call ?_
    refine codeAny_call_builtin KF.slot_tga.plain KF.entry_tga ?_
    refine @check_slot (model prog w) _ _ { s with toks := s.toks + 1 } "type.__getattribute__" "type" "__getattribute__" c [.str name s.toks] [] _ (by decide +kernel) (by decide +kernel) (ht.andThen (looks_subIn X hi)) (KF.args_tga c (.str name s.toks)) ?_
    refine tga_run (s := { s with toks := s.toks + 1 }) X ho ht e (wpAny_mono h (fun fin s' z => ?_) fun _ _ z => z.elim)
    rcases fin with (_ | _ | _ | _) | _ <;> first | exact z.elim | skip
    exact wpAny_mono z (fun v s' q => wpAny_pure q) fun _ _ e => e.elim
  run_tac Mine.Sh.fin
theorem slot_cmd : Slot "classmethod_descriptor" "__get__" "classmethod_descriptor.__get__" :=
  .of (owner := "classmethod_descriptor") (n := "__get__") (by rw [typeLookup_type, builtinLookup_eq_fast]; kernel_rfl!) (by decide +kernel) (by decide +kernel) (by decide +kernel)
    (by first | exact .inl (by decide +kernel) | exact .inr (by decide +kernel)) (by rw [isSubtype_type]; kernel_rfl!)
theorem entry_cmd : entryFor table "classmethod_descriptor.__get__" = some Builtin.«classmethod_descriptor.__get__» := entryFor_of_tree (by kernel_rfl!)
theorem args_cmd (a b c : Value) : argsOk "classmethod_descriptor.__get__" ⟨[a, b, c], []⟩ := by unfold argsOk; kernel_rfl!
theorem type_prep : typeOf (.builtin "type.__prepare__") = pure (.type "classmethod_descriptor") := by show builtinType _ = _; rw [builtinType_eq_fast]; kernel_rfl!
theorem prep_get {Q : Value → Shared → Prop} (h : Q (.ref s.heap.objs.size) { s with heap := s.heap.push (boundO "type.__prepare__" (.type "type")) }) :
    wpAny (model prog w) A (call (.builtin "classmethod_descriptor.__get__") [.builtin "type.__prepare__", .none, .type "type"]) Q E s := by
  run_tac Mine.Sh.mark
  focus
    refine wpAny_call (codeAny_call_builtin slot_cmd.plain entry_cmd (slot_cmd.check _ _ _ _ _ _ _ _ type_prep (args_cmd _ _ _) ?_))
    unfold Builtin.«classmethod_descriptor.__get__»
    refine wpAny_bind (wpAny_of_eq (a := (.builtin "type.__prepare__", none, some (.type "type"))) (by first | rfl | kernel_rfl!) ?_)
    dsimp only
    refine wpAny_bind (wpAny_pure ?_)
    refine wpAny_bind (wpAny_of_eq (a := true) rfl ?_)
    rw [if_neg (by decide)]
    refine wpAny_bind (wpAny_of_eq (a := true) (by rw [isSubtype_type]; kernel_rfl!) ?_)
    rw [if_neg (by decide)]
    exact wpAny_bind (wpAny_newObj_type (wpAny_pure h) (by size_fits))
  run_tac Mine.Sh.fin
theorem prep_look {Q : Option Value → Shared → Prop} (h : ∀ tk', Q (some (.ref s.heap.objs.size)) { s with heap := s.heap.push (boundO "type.__prepare__" (.type "type")), toks := tk' }) :
    wpAny (model prog w) A (getAttr? (.type "type") (Str.ofString "__prepare__")) Q E s := by
  run_tac Mine.Sh.mark
  focus
    have X : Frag.In [] s.heap := fun _ _ e => by cases e
    have ho : Looks (model prog w) s.heap (opaqueClassAbove (.type "type")) none := Looks.of_pure (by unfold opaqueClassAbove; dsimp only; rw [show Manifest.isStub "type" = false by decide +kernel]; rfl)
    refine cls_openQ (K := []) (mc := .type "type") X ho (Looks.of_pure (by kernel_rfl!)) (by decide +kernel) (looks_hook (K := []) X (r := none) (by rfl)) (by decide +kernel) (r := .get (.builtin "classmethod_descriptor.__get__") (.builtin "type.__prepare__") .none (.type "type")) (by kernel_rfl!) ?_
    refine wpAny_bind (wpAny_holding (prep_get (s := { s with toks := s.toks + 1 }) ?_))
    exact wpAny_pure (wpAny_pure (h _))
  run_tac Mine.Sh.fin
theorem entry_prep : entryFor table "type.__prepare__" = some Builtin.«type.__prepare__» := entryFor_of_tree (by kernel_rfl!)
theorem quiet_prep {as : Args} : (Code.builtin "type.__prepare__" as).quiet = true := Code.quiet_builtin _ (by decide +kernel)
theorem prep_call {b bt : Addr} {n : Str} {t : Tok} {Q : Value → Shared → Prop} (hb : s.heap.get? b = some (boundO "type.__prepare__" (.type "type"))) (h : Q (.ref s.heap.objs.size) { s with heap := s.heap.push (dictOf [] 0) }) :
    wpAny (model prog w) A (call (.ref b) [.str n t, .ref bt]) Q E s := by
  run_tac Mine.Sh.mark
  focus
    refine wpAny_call (codeAny_of_tree ?_)
    show wpAny _ A.in1 (callAny (.ref b) ⟨[.str n t, .ref bt], []⟩) _ _ s
    simp only [callAny]
    refine wpAny_bind (wpAny_load hb ?_)
    simp only [List.getElem?_toArray, List.getElem?_cons_zero, List.getElem?_cons_succ, show (Value.type "builtin_function_or_method" == Value.type "method" || Value.type "builtin_function_or_method" == Value.type "builtin_function_or_method" || Value.type "builtin_function_or_method" == Value.type "method-wrapper") = true by decide, if_true]
    refine KFB.if_so (by decide) ?_
    refine wpAny_bind (wpAny_of_eq (a := ()) (by kernel_rfl!) ?_)
    refine wpAny_bind (wpAny_pure (wpAny_pure ?_))
    refine ⟨quiet_prep, codeAny_builtin entry_prep ?_⟩
    unfold Builtin.«type.__prepare__»
    refine wpAny_bind ?_
    unfold newDict
    exact wpAny_newObj_type (wpAny_pure h) (by size_fits)
  run_tac Mine.Sh.fin
theorem prep_lookA {Q : Option Value → Shared → Prop} (h : ∀ (pb : Addr) (h' : Heap) (tk' : Nat), (∀ b o, s.heap.get? b = some o → h'.get? b = some o) → h'.get? pb = some (boundO "type.__prepare__" (.type "type")) → s.heap.objs.size ≤ h'.objs.size → Q (some (.ref pb)) { s with heap := h', toks := tk' }) :
    wpAny (model prog w) A (getAttr? (.type "type") (Str.ofString "__prepare__")) Q E s :=
  prep_look fun tk' => h _ _ _ (fun b o e => Heap.get?_push_of_some _ e) (Heap.get?_push_size _ rfl) (by rw [Heap.size_push]; exact Nat.le_succ _)
theorem prep_callA {b bt : Addr} {n : Str} {t : Tok} {Q : Value → Shared → Prop} (hb : s.heap.get? b = some (boundO "type.__prepare__" (.type "type"))) (h : ∀ (ns : Addr) (h' : Heap), (∀ b o, s.heap.get? b = some o → h'.get? b = some o) → h'.get? ns = some (dictOf [] 0) → s.heap.get? ns = none → s.heap.objs.size ≤ ns → Q (.ref ns) { s with heap := h' }) :
    wpAny (model prog w) A (call (.ref b) [.str n t, .ref bt]) Q E s :=
  prep_call hb (h _ _ (fun b o e => Heap.get?_push_of_some _ e) (Heap.get?_push_size _ rfl) (Heap.get?_none_of_le (Nat.le_refl _)) (Nat.le_refl _))
end
end

section -- K5
section
variable {prog : Program} {w : World} {A : Around} {E : Value → Shared → Prop} {s : Shared} {d : Addr} {es : List DictEntry} {n : Nat} {name : Str} {v : Value}
theorem nsGet_at {r : Option Value} {Q : Option Value → Shared → Prop} (D : s.heap.get? d = some (dictOf es n)) (e : getL name es = some r) (h : Q r s) : wpAny (model prog w) A (nsGet d name) Q E s := by
  run_tac Mine.Sh.mark
  focus
    have x : Frag.In [(d, dictOf es n)] s.heap := fun b o hb => by
      rw [List.lookup_cons] at hb
      split at hb
      · rename_i q; cases hb; rw [eq_of_beq q]; exact D
      · cases hb
    refine looks_nsIn (K := [(d, dictOf es n)]) x (ns := d) (r := r) ?_ _ _ _ _ (fun _ _ e => e) h
    unfold nsIn
    rw [List.lookup_cons, beq_self_eq_true d]
    dsimp only
    unfold getL at e
    split at e
    · rename_i en he; cases e; rw [he]
    · rename_i he
      rw [he]
      split at e
      · cases e
      · rename_i hr; cases e; dsimp only; rw [if_neg hr]
  run_tac Mine.Sh.fin
theorem localGet_at {env : Env} {r : Option Value} {Q : Option Value → Shared → Prop} (hd : env.locals = d) (D : s.heap.get? d = some (dictOf es n)) (e : getL name es = some r) (h : Q r s) : wpAny (model prog w) A (localGet env name) Q E s := by
  run_tac Mine.Sh.mark
  focus
    subst hd
    unfold localGet
    refine wpAny_bind (wpAny_load D ?_)
    rw [if_pos (by rfl)]
    exact nsGet_at D e h
  run_tac Mine.Sh.fin
theorem localSet_at {env : Env} {Q : Unit → Shared → Prop} (hd : env.locals = d) (D : s.heap.get? d = some (dictOf es n)) (hl : (getL name es).isSome = true)
   (h : ∀ (h' : Heap) (hsh : Int), Heap.SameBut d s.heap h' → h'.get? d = some (dictOf (putL name hsh (.str name s.toks) v es) (putN name es n)) → Q () { s with heap := h', toks := s.toks + 1 }) : wpAny (model prog w) A (localSet env name v) Q E s := by
  run_tac Mine.Sh.mark
  focus
    subst hd
    unfold localSet
    refine wpAny_bind (wpAny_load D ?_)
    rw [if_pos (by rfl)]
    exact nsSet_at D hl h
  run_tac Mine.Sh.fin
theorem store_cls {env : Env} {Q : Unit → Shared → Prop} (hk : env.scope.kind = .class) (hd : env.locals = d) (hn : env.kindOf name = some .local ∨ env.kindOf name = none ∧ compilersOwnNames.contains name = true)
   (D : s.heap.get? d = some (dictOf es n)) (hl : (getL name es).isSome = true)
   (h : ∀ (h' : Heap) (hsh : Int), Heap.SameBut d s.heap h' → h'.get? d = some (dictOf (putL name hsh (.str name s.toks) v es) (putN name es n)) → Q () { s with heap := h', toks := s.toks + 1 }) : wpAny (model prog w) A (storeName env name v) Q E s := by
  run_tac Mine.Sh.mark
  focus
    unfold storeName
    rcases hn with e | ⟨e, e2⟩
    · rw [e]
      dsimp only
      rw [hk]
      exact localSet_at hd D hl h
    · rw [e]
      dsimp only
      unfold Env.blockKind
      rw [hk, e2]
      exact localSet_at hd D hl h
  run_tac Mine.Sh.fin
theorem load_cls_none {env : Env} {Q : Value → Shared → Prop} {r : Value} (hk : env.scope.kind = .class) (hd : env.locals = d) (hn : env.kindOf name = none) (hc : compilersOwnNames.contains name = true)
   (D : s.heap.get? d = some (dictOf es n)) (hl : getL name es = some none) (G : Looks (model prog w) s.heap (nsGet env.globals name) (some r)) (h : Q r s) : wpAny (model prog w) A (loadName env name) Q E s := by
  run_tac Mine.Sh.mark
  focus
    unfold loadName
    have h1 : env.blockKind = .class := by unfold Env.blockKind; rw [hk]; rfl
    have h2 : env.scope.kind.isAnnotationScope = false := by rw [hk]; rfl
    dsimp only
    rw [h1, h2, hn, hc, Bool.false_and, Bool.false_and, if_neg (by decide)]
    dsimp only
    rw [if_neg (by decide)]
    refine wpAny_bind (localGet_at hd D hl ?_)
    unfold loadGlobal
    refine wpAny_bind (G _ _ _ _ (fun _ _ e => e) ?_)
    exact wpAny_pure h
  run_tac Mine.Sh.fin
end
theorem kSame {g h h' : Heap} {d : Addr} (k : ∀ b o, g.get? b = some o → h.get? b = some o) (n : g.get? d = none) (S : Heap.SameBut d h h') : ∀ b o, g.get? b = some o → h'.get? b = some o := fun b o e => by
  have hne : b ≠ d := fun q => by rw [q, n] at e; cases e
  exact S.extBut b o hne (k b o e)
theorem kPush {g h : Heap} {ob : Obj} (k : ∀ b o, g.get? b = some o → h.get? b = some o) : ∀ b o, g.get? b = some o → (h.push ob).get? b = some o := fun b o e => Heap.get?_push_of_some _ (k b o e)
end

section -- K6
structure InCls (B h : Heap) (ns P' : Addr) (es : List DictEntry) (n : Nat) (ps : Array Value) : Prop where
  k : ∀ b o, B.get? b = some o → h.get? b = some o
  nN : B.get? ns = none
  nP : B.get? P' = none
  D : h.get? ns = some (dictOf es n)
  tab : h.get? P' = some (tabObj ps)
  ne : ns ≠ P'
theorem InCls.mk' {h : Heap} {ns P' : Addr} {es : List DictEntry} {n : Nat} {ps : Array Value} (D : h.get? ns = some (dictOf es n)) (tab : h.get? P' = some (tabObj ps)) (ne : ns ≠ P') : InCls (hideAll h [ns, P']) h ns P' es n ps :=
  ⟨fun b o e => of_hideAll _ e, hideAll_none _ (.head _), hideAll_none _ (.tail _ (.head _)), D, tab, ne⟩
theorem InCls.push {B h : Heap} {ns P' : Addr} {es : List DictEntry} {n : Nat} {ps : Array Value} (I : InCls B h ns P' es n ps) (o : Obj) : InCls B (h.push o) ns P' es n ps :=
  ⟨fun b o e => Heap.get?_push_of_some _ (I.k b o e), I.nN, I.nP, Heap.get?_push_of_some _ I.D, Heap.get?_push_of_some _ I.tab, I.ne⟩
theorem InCls.off {B h : Heap} {ns P' : Addr} {es : List DictEntry} {n : Nat} {ps : Array Value} (I : InCls B h ns P' es n ps) : h.objs.size ≠ ns ∧ h.objs.size ≠ P' ∧ B.get? h.objs.size = none := by
  run_tac Mine.Sh.mark
  focus
    refine ⟨fun q => ?_, fun q => ?_, ?_⟩
    · have := Heap.lt_size I.D; rw [← q] at this; exact Nat.lt_irrefl _ this
    · have := Heap.lt_size I.tab; rw [← q] at this; exact Nat.lt_irrefl _ this
    · cases q : B.get? h.objs.size with
      | none => rfl
      | some o => exact absurd (Heap.lt_size (I.k _ _ q)) (Nat.lt_irrefl _)
  run_tac Mine.Sh.fin
section
variable {prog : Program} {w : World} {A : Around} {E : Value → Shared → Prop} {s : Shared} {p : Program} {loose : List Str} {mean : ExcName → Option Value} {mg mb : Str → Option Value}
  {B : Heap} {ns P' c' : Addr} {es : List DictEntry} {n : Nat} {ps : Array Value}
theorem triplesOk_triples : ∀ l : List (Pos × Addr), TriplesOk (triples l)
  | [] => trivial
  | (p, c) :: r => triplesOk_triples r
theorem defCls {l : List (Pos × Addr)} {cenv : Env} {name : Str} {args : Arguments} {body : List Stmt} {scope : Scope} {pos : Pos} {clos : List (Str × Addr)} {Q : Flow → Shared → Prop}
    (T : Top p loose mean mg mb B) (C : CodeHd B c' P') (I : InCls B s.heap ns P' es n (triples l).toArray) (hnf : l.all (fun q => !(q.1.line == pos.line && q.1.col == pos.col)) = true) (hcl : closureFor scope cenv = pure clos)
    (hcode : cenv.code = .ref c') (hgl : cenv.globals = mainGlobals) (hk : cenv.scope.kind = .class) (hd : cenv.locals = ns) (hn : cenv.kindOf name = some .local) (hl : (getL name es).isSome = true)
    (hdef : defaultsOf args cenv = ([], [])) (hann : annTrees args none cenv = [])
    (h : ∀ (B' h' : Heap) (f c2 : Addr) (ctv doc : Value) (tk : Nat) (hx : Int) (tx : Tok), (∀ b o, B.get? b = some o → B'.get? b = some o) → B'.get? f = some (fnMade name (qualnameIn cenv name name) args body scope clos doc ((mg "__name__").getD .none) c2 ctv) →
      B'.CodeRec (.ref c2) (qualnameIn cenv name name) → B.get? f = none → B.get? c2 = none → InCls B' h' ns P' (putL name hx (.str name tx) (.ref f) es) (putN name es n) (triples (l ++ [(pos, c2)])).toArray → Q .next { s with heap := h', toks := tk }) :
    wpAny (model prog w) A (exec (.FunctionDef name args body [] none [] scope none name pos) cenv) Q E s := by
  run_tac Mine.Sh.mark
  focus
    obtain ⟨hp, gn, dr, tk, os⟩ := s
    dsimp only at I h ⊢
    have ht : TriplesOk (triples l).toArray.toList := triplesOk_triples l
    have hnf : codeAmong pos (triples l).toArray.toList = none := codeAmong_triples _ _ fun q hq hh => by
      have := List.all_eq_true.mp hnf q hq
      rw [hh.1, hh.2] at this
      simp at this
    rw [exec_def, hdef, hann]
    refine wpAny_bind (wpAny_standAt ?_)
    refine wpAny_bind (wpAny_holding ?_)
    refine wpAny_bind (wpAny_pure ?_)
    refine wpAny_bind (wpAny_holding (wpAny_pure ?_))
    refine wpAny_holding ?_
    refine wpAny_bind (wpAny_pure ?_)
    obtain ⟨bm, ob, b1, b2, b3, b4, b5, b6⟩ := T.bmain
    have Th := T.keeps I.k
    have hmainB : B.get? mainGlobals ≠ none := by obtain ⟨o, _, _, e, _⟩ := T.g; rw [e]; exact fun z => nomatch z
    have hgP : mainGlobals ≠ P' := fun q => hmainB (q ▸ I.nP)
    have hbP : bm ≠ P' := fun q => by rw [q, I.nP] at b3; cases b3
    have hbG : bm ≠ mainGlobals := fun q => by
      obtain ⟨o, es, ep, e, hd, _⟩ := T.g
      rw [q, e] at b3; cases b3; rw [hd] at b6; cases b6
    refine makeFunction_K (mg := mg) hcl hgl Th.g hcode (C.keeps I.k) I.tab ht hnf hgP ⟨bm, ob, b1, b2, hbG, hbP, I.k _ _ b3, b4, b5, b6⟩ fun c2 ctv doc h1 tk1 hx1 hge hlt hrec htb => ?_
    dsimp only at hx1 hge hlt hrec htb ⊢
    refine wpAny_bind (wpAny_standAt ?_)
    have en1 : (h1.push (fnMade name (qualnameIn cenv name name) args body scope clos doc ((mg "__name__").getD .none) c2 ctv)).get? ns = some (dictOf es n) := Heap.get?_push_of_some _ (hx1 _ _ I.ne I.D)
    refine wpAny_bind (wpAny_bindName (store_cls (d := ns) hk hd (.inl hn) en1 hl fun h2 hx S2 D2 => ?_))
    dsimp only at S2 D2 ⊢
    have hlt1 : h1.objs.size ≠ ns := fun q => by have := Heap.lt_size (hx1 _ _ I.ne I.D); rw [← q] at this; exact Nat.lt_irrefl _ this
    have hPn : P' ≠ ns := fun q => I.ne q.symm
    have tab2 : h2.get? P' = some (tabObj (triples (l ++ [(pos, c2)])).toArray) := by
      rw [triples_append]
      refine S2.extBut _ _ hPn (Heap.get?_push_of_some _ (htb.trans ?_))
      rw [← List.append_toArray]
    have I2 := InCls.mk' D2 tab2 I.ne
    have hfP : h1.objs.size ≠ P' := fun q => by have := Heap.lt_size htb; rw [← q] at this; exact Nat.lt_irrefl _ this
    have kB : ∀ b o, B.get? b = some o → (hideAll h2 [ns, P']).get? b = some o := fun b o e => by
      have n1 : b ≠ ns := fun q => by rw [q, I.nN] at e; cases e
      have n2 : b ≠ P' := fun q => by rw [q, I.nP] at e; cases e
      exact hideAll_get _ (S2.extBut _ _ n1 (Heap.get?_push_of_some _ (hx1 _ _ n2 (I.k _ _ e)))) (by simp [n1, n2])
    have hfn : (hideAll h2 [ns, P']).get? h1.objs.size = some (fnMade name (qualnameIn cenv name name) args body scope clos doc ((mg "__name__").getD .none) c2 ctv) :=
      hideAll_get _ (S2.extBut _ _ hlt1 (Heap.get?_push_size _ rfl)) (by simp [hlt1, hfP])
    have hc2n : c2 ≠ ns := fun q => absurd (Heap.lt_size I.D) (Nat.not_lt.mpr (q ▸ hge))
    have hc2P : c2 ≠ P' := fun q => absurd (Heap.lt_size I.tab) (Nat.not_lt.mpr (q ▸ hge))
    refine wpAny_pure (h (hideAll h2 [ns, P']) h2 h1.objs.size c2 ctv doc _ hx _ kB hfn ?_ ?_ ?_ I2)
    · obtain ⟨c₂, oc, vs, t, e2, hoc, r⟩ := hrec
      cases e2
      exact ⟨_, oc, vs, t, rfl, hideAll_get _ (S2.extBut _ _ hc2n (Heap.get?_push_of_some _ hoc)) (by simp [hc2n, hc2P]), r⟩
    · cases q : B.get? h1.objs.size with
      | none => rfl
      | some o => exact absurd (Heap.lt_size (hx1 _ _ hfP (I.k _ _ q))) (Nat.lt_irrefl _)
    · cases q : B.get? c2 with
      | none => rfl
      | some o => exact absurd (Heap.lt_size (I.k _ _ q)) (Nat.not_lt.mpr hge)
  run_tac Mine.Sh.fin
theorem storeCls {cenv : Env} {name : Str} {v : Value} {Q : Unit → Shared → Prop} (I : InCls B s.heap ns P' es n ps) (hk : cenv.scope.kind = .class) (hd : cenv.locals = ns) (hn : cenv.kindOf name = some .local) (hl : (getL name es).isSome = true)
    (h : ∀ (B' h' : Heap) (hx : Int) (tx : Tok), (∀ b o, b ≠ ns → b ≠ P' → s.heap.get? b = some o → B'.get? b = some o) → (∀ b o, B.get? b = some o → B'.get? b = some o) → InCls B' h' ns P' (putL name hx (.str name tx) v es) (putN name es n) ps → Q () { s with heap := h', toks := s.toks + 1 }) : wpAny (model prog w) A (storeName cenv name v) Q E s := by
  run_tac Mine.Sh.mark
  focus
    refine store_cls (d := ns) hk hd (.inl hn) I.D hl fun h2 hx S2 D2 => ?_
    have k1 : ∀ b o, b ≠ ns → b ≠ P' → s.heap.get? b = some o → (hideAll h2 [ns, P']).get? b = some o := fun b o h1 h2 e => hideAll_get _ (S2.extBut _ _ h1 e) (by simp [h1, h2])
    refine h _ h2 hx _ k1 (fun b o e => ?_) (InCls.mk' D2 (S2.extBut _ _ I.ne.symm I.tab) I.ne)
    have n1 : b ≠ ns := fun q => by rw [q, I.nN] at e; cases e
    have n2 : b ≠ P' := fun q => by rw [q, I.nP] at e; cases e
    exact k1 b o n1 n2 (I.k b o e)
  run_tac Mine.Sh.fin
end
end

section -- K3
section
variable {prog : Program} {w : World} {A : Around} {E : Value → Shared → Prop} {s : Shared} {p : Program} {loose : List Str} {mean : ExcName → Option Value} {mg mb : Str → Option Value}
noncomputable abbrev clsEnv (scope : Scope) (ns c fr : Addr) (qual : Str) (clos : List (Str × Addr)) : Env := { scope := scope, locals := ns, globals := mainGlobals, cells := clos, qual := qual ++ Str.ofString ".", code := .ref c, frame := some fr, builtins := builtinsNs }
theorem build_open {env : Env} {name qual : Str} {body : List Stmt} {scope : Scope} {sn : Str} {firstLine : Nat} {pos : Pos} {c P : Addr} {ps : Array Value} {clos : List (Str × Addr)} {Q : Value → Shared → Prop}
    {g : Heap} (T : Top p loose mean mg mb g) (kg : ∀ b o, g.get? b = some o → s.heap.get? b = some o) (hgP0 : g.get? P = none) (hroom : A.depth < recursionLimit) (hg : env.globals = mainGlobals) (hb : env.builtins = builtinsNs) (hcode : env.code = .ref c) (hok : s.heap.IsCode c P ps) (htab : s.heap.TableAt c P ps) (hnf : codeAmong pos ps.toList = none)
    (hcl : closureFor scope env = pure clos) (hc1 : scope.names.lookup (Str.ofString "__class__") = none) (hc2 : scope.names.lookup (Str.ofString "__classdict__") = none) (hk : scope.kind = .class)
    {vn : Value} (hnm : Looks (model prog w) g (nsGet mainGlobals (Str.ofString "__name__")) (some vn))
    (hn1 : scope.names.lookup (Str.ofString "__name__") = none) (hn2 : scope.names.lookup (Str.ofString "__module__") = some .local ∨ scope.names.lookup (Str.ofString "__module__") = none) (hn3 : scope.names.lookup (Str.ofString "__qualname__") = none) (hn4 : scope.names.lookup (Str.ofString "__firstlineno__") = none) (hn5 : scope.names.lookup (Str.ofString "__static_attributes__") = none)
    (h : ∀ (B h' : Heap) (ns c' P' bt fr : Addr) (tk' : Nat) (t1 t2 t3 u2 u3 : Tok) (x1 x2 x3 : Int), Top p loose mean mg mb B → CodeHd B c' P' → B.CodeRec (.ref c') qual → Heap.ExtBut P s.heap B → B.get? P = some (tabObj (ps ++ #[rawInt pos.line, rawInt pos.col, .ref c'])) → B.get? bt = some (tupO [.type "object"]) →
      (ns == sysModules) = false → s.heap.get? ns = none → s.heap.get? P' = none → InCls B h' ns P' [⟨x1, .str (Str.ofString "__module__") t1, vn⟩, ⟨x2, .str (Str.ofString "__qualname__") t2, .str qual u2⟩, ⟨x3, .str (Str.ofString "__firstlineno__") t3, .int firstLine u3⟩] 3 #[] →
      wpAny (model prog w) A (run (.body body (clsEnv scope ns c' fr qual clos))) (fun _ s1 => ∃ es n, s1.heap.get? ns = some (dictOf es n) ∧ (getL (Str.ofString "__static_attributes__") es).isSome = true ∧
        ∀ (sa : Addr) (tx : Tok) (hx : Int) (h2 : Heap) (tk2 : Nat) (t0 ts : Tok), (∀ b o, b ≠ ns → s1.heap.get? b = some o → h2.get? b = some o) → h2.get? sa = some (tupO [.str sn ts]) →
          h2.get? ns = some (dictOf (putL (Str.ofString "__static_attributes__") hx (.str (Str.ofString "__static_attributes__") tx) (.ref sa) es) (putN (Str.ofString "__static_attributes__") es n)) →
          wpAny (model prog w) A (call (.type "type") [.str name t0, .ref bt, .ref ns] []) Q E { s1 with heap := h2, toks := tk2 }) E { s with heap := h', toks := tk' })
    : wpAny (model prog w) A (buildClass name qual [.type "object"] [] body scope [sn] firstLine env pos none) Q E s := by
  run_tac Mine.Sh.mark
  focus
    obtain ⟨hp, gn, dr, tk, os⟩ := s
    dsimp only at kg hok htab ⊢
    unfold buildClass
    refine wpAny_bind (wpAny_newObj_type ?_ (by size_fits))
    dsimp only
    obtain ⟨bt, h1, hbt, eb, up1⟩ : ∃ bt h1, (bt = hp.objs.size ∧ h1 = hp.push { cls := .type "tuple", data := .seq #[.type "object"] }) ∧ h1.get? bt = some (tupO [.type "object"]) ∧ ∀ b o, hp.get? b = some o → h1.get? b = some o := ⟨_, _, ⟨rfl, rfl⟩, Heap.get?_push_size _ rfl, fun b o e => Heap.get?_push_of_some _ e⟩
    rw [show hp.objs.size = bt from hbt.1.symm, show hp.push { cls := .type "tuple", data := .seq #[.type "object"] } = h1 from hbt.2.symm]
    refine wpAny_bind ?_
    rw [List.forIn_cons]
    refine wpAny_bind ?_
    refine wpAny_bind (wpAny_of_eq (a := true) rfl ?_)
    rw [if_pos rfl, if_neg (by decide)]
    refine wpAny_pure ?_
    dsimp only
    rw [List.forIn_nil]
    refine wpAny_pure ?_
    dsimp only
    simp only [List.lookup_nil, List.nil_append]
    refine wpAny_bind (wpAny_of_eq (a := .type "type") (by kernel_rfl!) ?_)
    refine wpAny_bind (wpAny_of_eq (a := true) rfl ?_)
    rw [if_pos rfl]
    refine wpAny_bind ?_
    rw [List.forIn_cons]
    refine wpAny_bind ?_
    refine wpAny_bind (wpAny_of_eq (a := .type "type") (by kernel_rfl!) ?_)
    refine wpAny_bind (wpAny_of_eq (a := true) (by rw [isSubtype_type]; kernel_rfl!) ?_)
    rw [if_pos rfl]
    refine wpAny_pure ?_
    dsimp only
    rw [List.forIn_nil]
    refine wpAny_pure ?_
    refine wpAny_bind (wpAny_mkText ?_)
    rw [if_neg (by decide)]
    refine wpAny_bind (wpAny_pure ?_)
    refine wpAny_holding ?_
    refine wpAny_bind (prep_lookA fun pb h2 tk2 up2 epb sz2 => ?_)
    refine wpAny_bind (prep_callA epb fun ns h3 up3 ens nns sz3 => ?_)
    clear epb
    dsimp only
    have k1 : ∀ b o, g.get? b = some o → h3.get? b = some o := fun b o e => up3 b o (up2 b o (up1 b o (kg b o e)))
    have hmain : mainGlobals < h3.objs.size := by obtain ⟨o, _, _, e, _⟩ := T.g; exact Heap.lt_size (k1 _ _ e)
    have hns1 : (ns == sysModules) = false := by
      have h5 : mainGlobals < h2.objs.size := by obtain ⟨o, _, _, e, _⟩ := T.g; exact Heap.lt_size (up2 _ _ (up1 _ _ (kg _ _ e)))
      have h6 : mainGlobals = 3 := rfl
      have h7 : sysModules = 1 := rfl
      have h8 : @Ne Nat ns sysModules := by rw [h7]; rw [h6] at h5; exact Nat.ne_of_gt (Nat.lt_of_lt_of_le (Nat.lt_of_succ_lt (Nat.lt_of_succ_lt h5)) sz3)
      exact beq_eq_false_iff_ne.mpr h8
    unfold notTheModulesDict
    rw [hns1, if_neg (by decide)]
    refine wpAny_bind (wpAny_pure ?_)
    refine wpAny_bind (wpAny_specialOf (T := "dict") ⟨_, ens, rfl⟩ slot_dict_getitem.lookup ?_)
    rw [if_neg (by decide)]
    refine wpAny_holding ?_
    rw [hc1, hc2, if_neg (by decide)]
    refine wpAny_bind (wpAny_pure ?_)
    rw [if_neg (by decide)]
    refine wpAny_bind (wpAny_pure ?_)
    refine wpAny_bind (wpAny_classCodeX hcode (hok.keeps fun b o e => up3 b o (up2 b o (up1 b o e))) (htab.keeps fun b o e => up3 b o (up2 b o (up1 b o e))) hnf fun c' h4 tk4 P' hx4 hc'1 hc'2 tabP rec4 hP'1 hok4 htab4 => ?_)
    dsimp only
    have k4 : ∀ b o, g.get? b = some o → h4.get? b = some o := fun b o e => hx4 b o (fun q => by rw [q, hgP0] at e; cases e) (k1 b o e)
    obtain ⟨bm, ob, b1, b2, b3, b4, b5, b6⟩ := T.bmain
    rw [hg]
    refine wpAny_bind (wpAny_builtinsFor (T.keeps k4).g b1 b2 (k4 _ _ b3) b4 b5 b6 ?_)
    unfold newBodyFrame
    refine wpAny_bind (wpAny_bind (hnm _ _ _ _ k4 (wpAny_alloc ?_)))
    dsimp only
    rw [hcl]
    refine wpAny_bind (wpAny_pure ?_)
    refine wpAny_holding ?_
    obtain ⟨fr, h5, hfr, up5, sz5, hns5⟩ : ∃ fr h5, (fr = h4.objs.size ∧ h5 = h4.push { cls := .type "frame", slots := #[some (.ref c'), some (.ref mainGlobals), some (.ref ns), none, some ((some vn).getD .none), none, some (.ref builtinsNs)] }) ∧ (∀ b o, h4.get? b = some o → h5.get? b = some o) ∧ h4.objs.size ≤ h5.objs.size ∧ h5.get? fr ≠ none :=
      ⟨_, _, ⟨rfl, rfl⟩, fun b o e => Heap.get?_push_of_some _ e, by rw [Heap.size_push]; omega, by rw [Heap.get?_push_size _ rfl]; exact fun q => nomatch q⟩
    rw [← hfr.1, ← hfr.2]
    have k5 : ∀ b o, g.get? b = some o → h5.get? b = some o := fun b o e => up5 b o (k4 b o e)
    have hgn : g.get? ns = none := by
      cases q : g.get? ns with
      | none => rfl
      | some o => exact absurd (up2 _ _ (up1 _ _ (kg _ _ q))) (by rw [nns]; exact fun z => nomatch z)
    have hnP : ns ≠ P := fun q => by
      obtain ⟨_, hP⟩ := htab
      exact absurd (up2 _ _ (up1 _ _ hP)) (by rw [← q, nns]; exact fun z => nomatch z)
    have ens5 : h5.get? ns = some (dictOf [] 0) := up5 _ _ (hx4 _ _ hnP ens)
    refine wpAny_bind (wpAny_enterFrame (T.keeps k5).nolimit hroom ?_)
    refine wpAny_bind (wpAny_onRaise ?_)
    refine wpAny_bind (load_cls_none (d := ns) hk rfl hn1 (by decide) ens5 (by rfl) (fun A Q E s k q => hnm _ _ _ _ (fun b o e => k b o (k5 b o e)) q) ?_)
    refine wpAny_bind (store_cls (d := ns) hk rfl (hn2.imp id fun e => ⟨e, by decide⟩) ens5 (by rfl) fun h6 x1 S6 D6 => ?_)
    dsimp only at S6 D6 ⊢
    refine wpAny_bind (wpAny_mkText ?_)
    refine wpAny_bind (store_cls (d := ns) hk rfl (.inr ⟨hn3, by decide⟩) D6 (by kernel_rfl!) fun h7 x2 S7 D7 => ?_)
    dsimp only at S7 D7 ⊢
    refine wpAny_bind (wpAny_mkInt ?_)
    dsimp only
    refine wpAny_bind (store_cls (d := ns) hk rfl (.inr ⟨hn4, by decide⟩) D7 (by kernel_rfl!) fun h8 x3 S8 D8 => ?_)
    dsimp only at S8 D8 ⊢
    refine wpAny_pure ?_
    have D9 : h8.get? ns = some (dictOf [⟨x1, .str (Str.ofString "__module__") tk4, vn⟩, ⟨x2, .str (Str.ofString "__qualname__") (tk4 + 1 + 1), .str qual (tk4 + 1)⟩, ⟨x3, .str (Str.ofString "__firstlineno__") (tk4 + 1 + 1 + 1 + 1), .int firstLine (tk4 + 1 + 1 + 1)⟩] 3) := D8.trans (by kernel_rfl!)
    have k8 : ∀ b o, b ≠ ns → h4.get? b = some o → h8.get? b = some o := fun b o hb e => S8.extBut b o hb (S7.extBut b o hb (S6.extBut b o hb (up5 b o e)))
    have hPs : hp.get? P ≠ none := by obtain ⟨_, hP⟩ := htab; rw [hP]; exact fun z => nomatch z
    have hbP : bt ≠ P := fun q => hPs (by rw [← q, hbt.1]; exact Heap.get?_none_of_le (Nat.le_refl _))
    have hP'0 : hp.get? P' = none := by
      cases q : hp.get? P' with
      | none => rfl
      | some o => exact absurd (Heap.lt_size (up3 _ _ (up2 _ _ (up1 _ _ q)))) (Nat.not_lt.mpr hP'1)
    have hns0 : hp.get? ns = none := by
      cases q : hp.get? ns with
      | none => rfl
      | some o => exact absurd (up2 _ _ (up1 _ _ q)) (by rw [nns]; exact fun z => nomatch z)
    have hnP' : ns ≠ P' := fun q => absurd (Heap.lt_size ens) (Nat.not_lt.mpr (q ▸ hP'1))
    have kB : ∀ b o, b ≠ P → hp.get? b = some o → (hideAll h8 [ns, P']).get? b = some o := fun b o hb e => by
      have n1 : b ≠ ns := fun q => by rw [q, hns0] at e; cases e
      have n2 : b ≠ P' := fun q => by rw [q, hP'0] at e; cases e
      exact hideAll_get _ (k8 _ _ n1 (hx4 b o hb (up3 b o (up2 b o (up1 b o e))))) (by simp [n1, n2])
    have kg8 : ∀ b o, g.get? b = some o → (hideAll h8 [ns, P']).get? b = some o := fun b o e => kB b o (fun q => by rw [q, hgP0] at e; cases e) (kg b o e)
    have ens4 := hx4 _ _ hnP ens
    have hcn : c' ≠ ns := fun q => by
      obtain ⟨⟨oc, vc, hoc, hcc, _⟩, _⟩ := htab4
      rw [q, ens4] at hoc; cases hoc; exact absurd (Value.type.inj hcc) (by decide)
    have hcP' : c' ≠ P' := by
      obtain ⟨o, vs, file, tf, flags, tg, inF, text, tt, e1, e2, e3, e4, e5, e6, e7, e8, e9, e10⟩ := CodeHd.of hok4 htab4
      exact e10
    have hcc' : ∀ o, h4.get? c' = some o → (hideAll h8 [ns, P']).get? c' = some o := fun o e => hideAll_get _ (k8 _ _ hcn e) (by simp [hcn, hcP'])
    have hPB : (hideAll h8 [ns, P']).get? P = some (tabObj (ps ++ #[rawInt pos.line, rawInt pos.col, .ref c'])) := by
      obtain ⟨_, hP⟩ := tabP
      have n2 : P ≠ P' := fun q => hPs (by rw [q]; exact hP'0)
      exact hideAll_get _ (k8 _ _ (fun q => hnP q.symm) hP) (by simp [n2]; exact fun q => hnP q.symm)
    have ebB : (hideAll h8 [ns, P']).get? bt = some (tupO [.type "object"]) := by
      have n1 : bt ≠ ns := fun q => by have := up2 _ _ eb; rw [q, nns] at this; cases this
      have n2 : bt ≠ P' := fun q => absurd (Heap.lt_size (up3 _ _ (up2 _ _ eb))) (Nat.not_lt.mpr (q ▸ hP'1))
      exact hideAll_get _ (k8 _ _ n1 (hx4 _ _ hbP (up3 _ _ (up2 _ _ eb)))) (by simp [n1, n2])
    have CB : CodeHd (hideAll h8 [ns, P']) c' P' := by
      obtain ⟨o, vs, file, tf, flags, tg, inF, text, tt, e1, r⟩ := CodeHd.of hok4 htab4
      exact ⟨o, vs, file, tf, flags, tg, inF, text, tt, hcc' _ e1, r⟩
    have RB : (hideAll h8 [ns, P']).CodeRec (.ref c') qual := by
      obtain ⟨c₂, oc, vs, t, e2, hoc, r⟩ := rec4
      cases e2
      exact ⟨_, oc, vs, t, rfl, hcc' _ hoc, r⟩
    have tab8 : h8.get? P' = some (tabObj #[]) := by
      obtain ⟨_, hP⟩ := htab4
      exact k8 _ _ (fun q => hnP' q.symm) hP
    refine wpAny_bind (wpAny_mono (h (hideAll h8 [ns, P']) h8 ns c' P' bt fr _ _ _ _ _ _ x1 x2 x3 (T.keeps kg8) CB RB kB hPB ebB hns1 hns0 hP'0 (InCls.mk' D9 tab8 hnP')) ?_ fun _ _ z => z)
    rintro _ s1 ⟨es, n, D, hl, z⟩
    obtain ⟨hp1, gn1, dr1, tk1, os1⟩ := s1
    dsimp only at D z ⊢
    refine wpAny_bind (wpAny_onRaise ?_)
    rw [show List.mapM mkText [sn] = (do let a ← mkText sn; pure [a]) from by simp [List.mapM_cons]]
    refine wpAny_bind (wpAny_bind (wpAny_mkText (wpAny_pure ?_)))
    refine wpAny_bind (wpAny_newTextTuple ?_)
    refine wpAny_bind (store_cls (d := ns) (n := n) (es := es) hk rfl (.inr ⟨hn5, by decide⟩) (Heap.get?_push_of_some _ D) hl fun h9 x4 S9 D9 => ?_)
    dsimp only at S9 D9 ⊢
    refine wpAny_pure ?_
    rw [if_neg (by decide)]
    have hsn : hp1.objs.size ≠ ns := fun q => by rw [← q, Heap.get?_none_of_le (Nat.le_refl _)] at D; cases D
    refine wpAny_bind (wpAny_mono (z _ _ x4 h9 _ _ _ (fun b o hb e => S9.extBut b o hb (Heap.get?_push_of_some _ e)) (S9.extBut _ _ hsn (Heap.get?_push_size _ rfl)) D9) ?_ fun _ _ z => z)
    intro v s2 q
    exact wpAny_pure q
  run_tac Mine.Sh.fin
end
end

section -- K7
noncomputable abbrev kEs (x1 x2 x3 x4 x5 x6 x7 x8 x9 x10 x11 x12 : Int) (t1 t2 t3 t4 t5 t6 t7 t8 t9 t10 t11 t12 u1 u2 u3 : Tok) (sl fi flt fgt feq fle fge sa : Addr) : List DictEntry :=
  [⟨x1, .str (Str.ofString "__module__") t1, .str (Str.ofString "cpy313.functools") u1⟩, ⟨x2, .str (Str.ofString "__qualname__") t2, .str (Str.ofString "cmp_to_key.<locals>.K") u2⟩,
    ⟨x3, .str (Str.ofString "__firstlineno__") t3, .int (77 : Nat) u3⟩, ⟨x4, .str (Str.ofString "__slots__") t4, .ref sl⟩, ⟨x5, .str (Str.ofString "__init__") t5, .ref fi⟩, ⟨x6, .str (Str.ofString "__lt__") t6, .ref flt⟩,
    ⟨x7, .str (Str.ofString "__gt__") t7, .ref fgt⟩, ⟨x8, .str (Str.ofString "__eq__") t8, .ref feq⟩, ⟨x9, .str (Str.ofString "__le__") t9, .ref fle⟩, ⟨x10, .str (Str.ofString "__ge__") t10, .ref fge⟩,
    ⟨x11, .str (Str.ofString "__hash__") t11, .none⟩, ⟨x12, .str (Str.ofString "__static_attributes__") t12, .ref sa⟩]
theorem bindHide {α β : Type} {M : Model} {A : Around} {E : Value → Shared → Prop} {s : Shared} {m : Sem α} {f : α → Sem β} {Q : β → Shared → Prop} (h : ∀ F, f = F → wpAny M A m (fun a s' => wpAny M A (F a) Q E s') E s) : wpAny M A (m >>= f) Q E s := wpAny_bind (h f rfl)
theorem wpIfNeg {α : Type} {M : Model} {A : Around} {E : Value → Shared → Prop} {s : Shared} {c : Prop} [Decidable c] {x y : Sem α} {Q : α → Shared → Prop} (hc : ¬ c) (h : wpAny M A y Q E s) : wpAny M A (if c then x else y) Q E s := by rw [if_neg hc]; exact h
theorem wpIfPos {α : Type} {M : Model} {A : Around} {E : Value → Shared → Prop} {s : Shared} {c : Prop} [Decidable c] {x y : Sem α} {Q : α → Shared → Prop} (hc : c) (h : wpAny M A x Q E s) : wpAny M A (if c then x else y) Q E s := by rw [if_pos hc]; exact h
theorem wpIfF {α : Type} {M : Model} {A : Around} {E : Value → Shared → Prop} {s : Shared} {c : Bool} {x y : Sem α} {Q : α → Shared → Prop} (hc : c = false) (h : wpAny M A y Q E s) : wpAny M A (if c = true then x else y) Q E s := by subst hc; exact h
theorem forNil {α β : Type} {M : Model} {A : Around} {E : Value → Shared → Prop} {s : Shared} {l : List α} {b : β} {f : α → β → Sem (ForInStep β)} {Q : β → Shared → Prop} (e : l = []) (h : Q b s) : wpAny M A (forIn l b f) Q E s := by
  subst e; rw [List.forIn_nil]; exact wpAny_pure h
theorem forCons {α β : Type} {M : Model} {A : Around} {E : Value → Shared → Prop} {s : Shared} {x : α} {l r : List α} {b : β} {f : α → β → Sem (ForInStep β)} {Q : β → Shared → Prop} (e : l = x :: r) (h : wpAny M A (f x b) (fun k s' => match k with | .done b => Q b s' | .yield b => wpAny M A (forIn r b f) Q E s') E s) : wpAny M A (forIn l b f) Q E s := by
  run_tac Mine.Sh.mark
  focus
    subst e; rw [List.forIn_cons]
    refine wpAny_bind (wpAny_mono h (fun k s' z => ?_) fun _ _ z => z)
    cases k with
    | done b => exact wpAny_pure z
    | yield b => exact z
  run_tac Mine.Sh.fin
theorem lowNone {h0 h : Heap} {a : Addr} (k : ∀ b o, h0.get? b = some o → h.get? b = some o) (n : h.get? a = none) : h0.get? a = none := by
  run_tac Mine.Sh.mark
  focus
    cases q : h0.get? a with
    | none => rfl
    | some o => rw [k _ _ q] at n; cases n
  run_tac Mine.Sh.fin
theorem neOf {h : Heap} {a d : Addr} {o : Obj} (n : h.get? a = none) (e : h.get? d = some o) : a ≠ d := fun q => by rw [q, e] at n; cases n
structure Mk2 (h0 h : Heap) (a d : Addr) (oa od : Obj) : Prop where
  k : ∀ b o, h0.get? b = some o → h.get? b = some o
  na : h0.get? a = none
  nd : h0.get? d = none
  ne : a ≠ d
  ea : h.get? a = some oa
  ed : h.get? d = some od
namespace Mk2
variable {h0 h h' : Heap} {a d : Addr} {oa od : Obj}
theorem setA (I : Mk2 h0 h a d oa od) {oa' : Obj} (S : Heap.SameBut a h h') (e : h'.get? a = some oa') : Mk2 h0 h' a d oa' od :=
  ⟨kSame I.k I.na S, I.na, I.nd, I.ne, e, S.extBut _ _ I.ne.symm I.ed⟩
theorem setD (I : Mk2 h0 h a d oa od) {od' : Obj} (S : Heap.SameBut d h h') (e : h'.get? d = some od') : Mk2 h0 h' a d oa od' :=
  ⟨kSame I.k I.nd S, I.na, I.nd, I.ne, S.extBut _ _ I.ne I.ea, e⟩
theorem push (I : Mk2 h0 h a d oa od) (o : Obj) : Mk2 h0 (h.push o) a d oa od :=
  ⟨kPush I.k, I.na, I.nd, I.ne, Heap.get?_push_of_some _ I.ea, Heap.get?_push_of_some _ I.ed⟩
theorem ext (I : Mk2 h0 h a d oa od) (k : ∀ b o, h.get? b = some o → h'.get? b = some o) : Mk2 h0 h' a d oa od :=
  ⟨fun b o e => k b o (I.k b o e), I.na, I.nd, I.ne, k _ _ I.ea, k _ _ I.ed⟩
theorem rebase (I : Mk2 h0 h a d oa od) : Mk2 (hideAll h [a, d]) h a d oa od :=
  ⟨fun b o e => of_hideAll _ e, hideAll_none _ (.head _), hideAll_none _ (.tail _ (.head _)), I.ne, I.ea, I.ed⟩
theorem up (I : Mk2 h0 h a d oa od) : ∀ b o, h0.get? b = some o → (hideAll h [a, d]).get? b = some o := fun b o e => by
  have n1 : b ≠ a := fun q => by rw [q, I.na] at e; cases e
  have n2 : b ≠ d := fun q => by rw [q, I.nd] at e; cases e
  exact hideAll_get _ (I.k b o e) (by simp [n1, n2])
end Mk2
section
variable {M : Model} {A : Around} {E : Value → Shared → Prop} {s : Shared}
theorem setSlotAt_at {a : Addr} {c : Value} {dct : Option Addr} {cd : ClassData} {sl : Array (Option Value)} {i : Nat} {v : Option Value} {Q : Unit → Shared → Prop} (ho : s.heap.get? a = some ⟨c, dct, .cls cd, sl⟩) (hi : i < 1000)
    (h : ∀ h', Heap.SameBut a s.heap h' → h'.get? a = some ⟨c, dct, .cls cd, (sl ++ Array.replicate (i + 1 - sl.size) none).setIfInBounds i v⟩ → Q () { s with heap := h' }) : wpAny M A (setSlotAt a i v) Q E s := by
  run_tac Mine.Sh.mark
  focus
    unfold setSlotAt
    refine wpIfNeg (by rw [sizeLine_eq]; omega) ?_
    refine wpAny_updatePart ho (h _ (Heap.SameBut.update ..) ?_)
    exact Heap.get?_update_self _ ho rfl
  run_tac Mine.Sh.fin
theorem nsDel_at {d : Addr} {es es' : List DictEntry} {n n' : Nat} {name : Str} {Q : Bool → Shared → Prop} (D : s.heap.get? d = some (dictOf es n)) (hh : PySem.nsHas name (dictOf es n) = pure true) (he : Obj.dropName name (dictOf es n) = dictOf es' n')
    (h : ∀ h', Heap.SameBut d s.heap h' → h'.get? d = some (dictOf es' n') → Q true { s with heap := h' }) : wpAny M A (nsDel d name) Q E s := by
  run_tac Mine.Sh.mark
  focus
    unfold nsDel
    refine wpAny_bind (wpAny_loadPart D ?_)
    refine wpAny_bind (wpAny_of_eq hh ?_)
    refine wpIfPos rfl ?_
    refine wpAny_bind (wpAny_updatePart D ?_)
    refine wpAny_pure (h _ (Heap.SameBut.update ..) ?_)
    rw [Heap.get?_update_self _ D (by rw [he]; rfl), he]
  run_tac Mine.Sh.fin
theorem updateCls_at {a : Addr} {c : Value} {dct : Option Addr} {cd : ClassData} {sl : Array (Option Value)} {f : ClassData → ClassData} {Q : Unit → Shared → Prop} (ho : s.heap.get? a = some ⟨c, dct, .cls cd, sl⟩) (hp : (Data.cls (f cd)).pastItsLine = none)
    (h : ∀ h', Heap.SameBut a s.heap h' → h'.get? a = some ⟨c, dct, .cls (f cd), sl⟩ → Q () { s with heap := h' }) : wpAny M A (updateCls a f) Q E s := by
  run_tac Mine.Sh.mark
  focus
    unfold updateCls
    refine wpAny_bind (wpAny_load ho ?_)
    have e := Heap.get?_update_self (h := s.heap) (Obj.mapCls f) ho rfl
    refine wpAny_bind (wpAny_updatePart ho ?_)
    exact wpAny_lookBehind (o := ⟨c, dct, .cls (f cd), sl⟩) e hp (h _ (Heap.SameBut.update ..) e)
  run_tac Mine.Sh.fin
theorem newObj_at {T : String} {dat : Data} {Q : Value → Shared → Prop} (h : ∀ d h', (∀ b o, s.heap.get? b = some o → h'.get? b = some o) → s.heap.get? d = none → h'.get? d = some { cls := .type T, data := dat } → Q (.ref d) { s with heap := h' })
    (hf : sizeOk dat := by size_fits) (hd : (Obj.mk (.type T) none dat #[]).isFreed = false := by rfl) : wpAny M A (newObj (.type T) dat) Q E s :=
  wpAny_newObj_type (h _ _ (fun b o e => Heap.get?_push_of_some _ e) (Heap.get?_none_of_le (Nat.le_refl _)) (Heap.get?_push_size _ hd)) hf
theorem alloc_at {o : Obj} {Q : Addr → Shared → Prop} (h : ∀ d h', (∀ b o, s.heap.get? b = some o → h'.get? b = some o) → s.heap.get? d = none → h'.get? d = some o → Q d { s with heap := h' })
    (hd : o.isFreed = false := by rfl) : wpAny M A (alloc o) Q E s :=
  wpAny_alloc (h _ _ (fun b o e => Heap.get?_push_of_some _ e) (Heap.get?_none_of_le (Nat.le_refl _)) (Heap.get?_push_size _ hd))
theorem slotAt_at {a : Addr} {o : Obj} {i : Nat} {Q : Option Value → Shared → Prop} (ho : s.heap.get? a = some o) (h : Q ((o.slots[i]?).join) s) : wpAny M A (slotAt a i) Q E s := by
  unfold slotAt
  exact wpAny_bind (wpAny_loadPart ho (wpAny_pure h))
theorem classData_at {a : Addr} {c : Value} {dct : Option Addr} {cd : ClassData} {sl : Array (Option Value)} {Q : ClassData → Shared → Prop} (ho : s.heap.get? a = some ⟨c, dct, .cls cd, sl⟩) (h : Q cd s) : wpAny M A (classData a) Q E s := by
  unfold classData
  exact wpAny_bind (wpAny_load ho (wpAny_pure h))
end
noncomputable abbrev two (C d : Addr) (oC od : Obj) : Frag := [(C, oC), (d, od)]
section
variable {h0 h : Heap} {C d : Addr} {oC od : Obj} {mc : Value} {dct : Option Addr} {cd : ClassData} {sl : Array (Option Value)} {es : List DictEntry} {n : Nat} {name : Str}
theorem two_C : (two C d oC od).lookup C = some oC := by
  show List.lookup C _ = _
  rw [List.lookup_cons, beq_self_eq_true]
theorem two_d (ne : C ≠ d) : (two C d oC od).lookup d = some od := by
  show List.lookup d _ = _
  rw [List.lookup_cons, show (d == C) = false from beq_eq_false_iff_ne.mpr fun q => ne q.symm, List.lookup_cons, beq_self_eq_true]
theorem Mk2.two_In (I : Mk2 h0 h C d oC od) : (two C d oC od).In h := fun b o e => by
  have e : List.lookup b [(C, oC), (d, od)] = some o := e
  rw [List.lookup_cons] at e
  split at e
  · rename_i q; cases e; rw [eq_of_beq q]; exact I.ea
  · rw [List.lookup_cons] at e
    split at e
    · rename_i q; cases e; rw [eq_of_beq q]; exact I.ed
    · cases e
theorem nsIn_two (ne : C ≠ d) {r : Option Value} (e : getL name es = some r) : nsIn (two C d oC (dictOf es n)) d name = some r := by
  run_tac Mine.Sh.mark
  focus
    unfold nsIn
    rw [two_d ne]
    dsimp only
    unfold getL at e
    split at e
    · rename_i en he; cases e; rw [he]
    · rename_i he
      rw [he]
      split at e
      · cases e
      · rename_i hr; cases e; dsimp only; rw [if_neg hr]
  run_tac Mine.Sh.fin
theorem findIn_two (ne : C ≠ d) (hns : cd.ns = d) (hm : cd.mro = [.ref C, .type "object"]) {r : Option Value} (e : getL name es = some r) :
    findIn (two C d ⟨mc, dct, .cls cd, sl⟩ (dictOf es n)) (.ref C) name = some (r.or (fastBuiltinOwn "object" name)) := by
  run_tac Mine.Sh.mark
  focus
    unfold findIn
    dsimp only
    rw [two_C]
    dsimp only
    rw [hm]
    unfold alongIn ownIn
    dsimp only
    rw [two_C]
    dsimp only
    rw [hns, nsIn_two ne e]
    cases r with
    | some v => rfl
    | none =>
      dsimp only
      unfold alongIn ownIn
      dsimp only
      cases fastBuiltinOwn "object" name <;> rfl
  run_tac Mine.Sh.fin
end
end

section -- K8
section
variable {prog : Program} {w : World} {A : Around} {E : Value → Shared → Prop} {s : Shared}
  {x1 x2 x3 x4 x5 x6 x7 x8 x9 x10 x11 x12 : Int} {t1 t2 t3 t4 t5 t6 t7 t8 t9 t10 t11 t12 u1 u2 u3 t0 ts tq : Tok} {ns bt sl fi flt fgt feq fle fge sa : Addr}
theorem slots_read {Q : Builtin.Slots.Plan → Shared → Prop} (esl : s.heap.get? sl = some (listOf #[.str (Str.ofString "obj") tq] 0))
    (h : ∀ h' tk, (∀ b o, s.heap.get? b = some o → h'.get? b = some o) → Q { names := [Str.ofString "obj"], dict := false, weak := false, inherited := [] } { s with heap := h', toks := tk }) :
    wpAny (model prog w) A (Builtin.Slots.read (Str.ofString "K") [.type "object"] (kEs x1 x2 x3 x4 x5 x6 x7 x8 x9 x10 x11 x12 t1 t2 t3 t4 t5 t6 t7 t8 t9 t10 t11 t12 u1 u2 u3 sl fi flt fgt feq fle fge sa).toArray) Q E s := by
  run_tac Mine.Sh.mark
  focus
    unfold Builtin.Slots.read
    refine bindHide fun F hF => ?_
    refine wpAny_of_eq (a := .type "object") (by kernel_rfl!) ?_
    subst hF
    refine bindHide fun F hF => ?_
    refine wpAny_of_eq (a := []) (by kernel_rfl!) ?_
    subst hF
    refine bindHide fun F hF => ?_
    refine wpAny_of_eq (a := false) (by kernel_rfl!) ?_
    subst hF
    refine bindHide fun F hF => ?_
    refine wpAny_of_eq (a := false) (by kernel_rfl!) ?_
    subst hF
    refine bindHide fun F hF => ?_
    refine wpAny_of_eq (a := false) (by kernel_rfl!) ?_
    subst hF
    dsimp only
    have ef : Array.find? (fun x : DictEntry => x.key.isStr (Str.ofString "__slots__")) (kEs x1 x2 x3 x4 x5 x6 x7 x8 x9 x10 x11 x12 t1 t2 t3 t4 t5 t6 t7 t8 t9 t10 t11 t12 u1 u2 u3 sl fi flt fgt feq fle fge sa).toArray = some ⟨x4, .str (Str.ofString "__slots__") t4, .ref sl⟩ := by kernel_rfl!
    rw [ef]
    dsimp only
    refine wpAny_bind (wpAny_rule ?_)
    refine wpAny_bind ?_
    unfold asStr?
    refine wpAny_bind (wpAny_load esl ?_)
    refine wpAny_pure ?_
    refine wpIfNeg (by decide) ?_
    refine bindHide fun F hF => ?_
    refine wpAny_collect_seq sl (T := "list") (.inl rfl) esl rfl rfl fun h1 k1 => ?_
    subst hF
    refine wpIfPos rfl ?_
    refine bindHide fun F hF => ?_
    refine wpAny_of_eq (a := false) (by kernel_rfl!) ?_
    subst hF
    refine wpIfNeg (by decide) ?_
    exact wpAny_of_eq (a := { names := [Str.ofString "obj"], dict := false, weak := false, inherited := [] }) (by kernel_rfl!) (h _ _ k1)
  run_tac Mine.Sh.fin
end
end

section -- K10
section
variable {prog : Program} {w : World} {M : Model} {A : Around} {E : Value → Shared → Prop} {h : Heap} {g : Array GenState} {d : Drawn} {t : Nat} {os : OsState}
theorem super_CC {C : Addr} {oD : Obj} {cdD : ClassData} {Q : Value → Shared → Prop}
    (hD : h.get? C = some oD) (hDt : oD.data = .cls cdD)
    (hsub : Looks (model prog w) h (isSubtype (.ref C) (.ref C)) true)
    (hq : ∀ h', h'.get? h.objs.size = some { cls := .type "super", dict := none, data := .fields #[.ref C, .ref C, .ref C], slots := #[] } → (∀ y o, h.get? y = some o → h'.get? y = some o) → Q (.ref h.objs.size) ⟨h', g, d, t, os⟩) :
    wpAny (model prog w) A (call (.type "super") [.ref C, .ref C]) Q E ⟨h, g, d, t, os⟩ := by
  run_tac Mine.Sh.mark
  focus
    refine ks_callType_codesW (Q₁ := fun obj s₁ => obj = .ref h.objs.size ∧ s₁ = ⟨h.push { cls := .type "super", data := .fields #[.none, .none, .none] }, g, d, t, os⟩) F.ks_called_super (ks_wpAny_checkTypeCall_super hD hDt) F.ks_entry_super_init
      (ks_code_super_new _ _ ⟨rfl, rfl⟩) fun obj s₁ h₁ => ?_
    obtain ⟨rfl, rfl⟩ := h₁
    have up : ∀ y o, h.get? y = some o → (h.push { cls := .type "super", data := .fields #[.none, .none, .none] }).get? y = some o := fun y o e => Heap.get?_push_of_some _ e
    have hso : (h.push { cls := .type "super", data := .fields #[.none, .none, .none] }).get? h.objs.size = some { cls := .type "super", dict := none, data := .fields #[.none, .none, .none], slots := #[] } := Heap.get?_push_at rfl rfl
    have hD' := up _ _ hD
    have hsub' := hsub.keeps up
    refine ⟨⟨_, hso, rfl⟩, F.ks_initArgs_super _ _ _, ?_⟩
    unfold Builtin.«super.__init__» noKeywords
    repeat (first | (with_reducible refine ks_wpAny_isType_cls hD' hDt ?_) | (with_reducible refine Looks.at hsub' ?_) | (with_reducible refine ks_wpAny_super_set3 hso ?_) | wp_step)
    all_goals first
      | (intro h' e k; exact ⟨rfl, hq h' e fun y o ey => k y o (Nat.ne_of_lt (Heap.lt_size ey)) (up y o ey)⟩)
      | (refine ks_wpAny_super_set3 hso ?_; intro h' e k; exact ⟨rfl, hq h' e fun y o ey => k y o (Nat.ne_of_lt (Heap.lt_size ey)) (up y o ey)⟩)
  run_tac Mine.Sh.fin
end
end

section -- K11
section
variable {prog : Program} {w : World} {M : Model} {A : Around} {E : Value → Shared → Prop} {h : Heap} {g : Array GenState} {d : Drawn} {t : Nat} {os : OsState}
theorem type_isub : typeOf (.builtin "object.__init_subclass__") = pure (.type "classmethod_descriptor") := by show builtinType _ = _; rw [builtinType_eq_fast]; kernel_rfl!
theorem isub_get {C : Addr} {oD : Obj} {cdD : ClassData} {Q : Value → Shared → Prop} (hD : h.get? C = some oD) (hDt : oD.data = .cls cdD)
    (hsub : Looks (model prog w) h (isSubtype (.ref C) (.type "object")) true)
    (hq : Q (.ref h.objs.size) ⟨h.push (boundO "object.__init_subclass__" (.ref C)), g, d, t, os⟩) :
    wpAny (model prog w) A (call (.builtin "classmethod_descriptor.__get__") [.builtin "object.__init_subclass__", .none, .ref C]) Q E ⟨h, g, d, t, os⟩ := by
  run_tac Mine.Sh.mark
  focus
    refine wpAny_call (codeAny_call_builtin slot_cmd.plain entry_cmd (slot_cmd.check _ _ _ _ _ _ _ _ type_isub (args_cmd _ _ _) ?_))
    unfold Builtin.«classmethod_descriptor.__get__»
    refine wpAny_bind (wpAny_of_eq (a := (.builtin "object.__init_subclass__", none, some (.ref C))) (by first | rfl | kernel_rfl!) ?_)
    dsimp only
    refine wpAny_bind (wpAny_pure ?_)
    refine wpAny_bind (ks_wpAny_isType_cls hD hDt ?_)
    rw [if_neg (by decide)]
    refine wpAny_bind (hsub _ _ _ _ (fun _ _ e => e) ?_)
    rw [if_neg (by decide)]
    exact wpAny_bind (wpAny_newObj_type (wpAny_pure hq) (by size_fits))
  run_tac Mine.Sh.fin
theorem super_ga {so C : Addr} {oD : Obj} {cdD : ClassData} {tk : Tok} {Q : PySem.Fin → Shared → Prop}
    (hso : h.get? so = some { cls := .type "super", dict := none, data := .fields #[.ref C, .ref C, .ref C], slots := #[] }) (hno : Looks (model prog w) h (opaqueClassAbove (.ref C)) none)
    (hD : h.get? C = some oD) (hDt : oD.data = .cls cdD)
    (hC : Looks (model prog w) h (mroOf (.ref C)) [.ref C, .type "object"]) (hsub : Looks (model prog w) h (isSubtype (.ref C) (.type "object")) true)
    (hq : Q (.done (.ret (.ref h.objs.size))) ⟨h.push (boundO "object.__init_subclass__" (.ref C)), g, d, t, os⟩) :
    wpAny (model prog w) A (Builtin.«super.__getattribute__» ⟨[.ref so, .str (Str.ofString "__init_subclass__") tk], []⟩) Q E ⟨h, g, d, t, os⟩ := by
  run_tac Mine.Sh.mark
  focus
    have hdt : ({ cls := .type "super", dict := none, data := .fields #[.ref C, .ref C, .ref C], slots := #[] } : Obj).data = .fields #[.ref C, .ref C, .ref C] := rfl
    have f0 : (#[.ref C, .ref C, .ref C] : Array Value)[0]? = some (.ref C) := rfl
    have f1 : (#[.ref C, .ref C, .ref C] : Array Value)[1]? = some (.ref C) := rfl
    have f2 : (#[.ref C, .ref C, .ref C] : Array Value)[2]? = some (.ref C) := rfl
    have e1 : (Value.ref C == Value.ref C) = true := by simp
    unfold Builtin.«super.__getattribute__»
    refine wpAny_bind (wpAny_of_eq (a := some (Str.ofString "__init_subclass__")) (by rfl) ?_)
    refine wpIfNeg (by decide) ?_
    refine wpAny_bind (wpAny_of_eq (a := some (Str.ofString "__init_subclass__")) (by rfl) ?_)
    dsimp only
    refine wpAny_bind (wpAny_field hso hdt f0 ?_)
    refine wpAny_bind (wpAny_field hso hdt f1 ?_)
    refine wpAny_bind (wpAny_field hso hdt f2 ?_)
    refine wpIfF (by kernel_rfl!) ?_
    refine wpAny_bind (ks_wpAny_notOpaque hno ?_)
    refine wpIfF (by kernel_rfl!) ?_
    refine wpAny_bind (hC _ _ _ _ (fun _ _ e => e) ?_)
    have hl : List.drop 1 (List.dropWhile (fun x => x != Value.ref C) [Value.ref C, Value.type "object"]) = [.type "object"] := by simp [List.dropWhile]
    rw [hl]
    refine wpAny_bind ?_
    refine forCons rfl ?_
    refine wpAny_bind (wpAny_of_eq (a := some (.builtin "object.__init_subclass__")) (by first | rfl | kernel_rfl!) ?_)
    dsimp only
    refine wpAny_bind (wpAny_of_eq type_isub ?_)
    refine wpAny_bind (wpAny_of_eq slot_cmd.lookup ?_)
    dsimp only
    refine wpAny_bind (wpAny_holding ?_)
    rw [e1, if_pos rfl]
    refine isub_get hD hDt hsub ?_
    refine wpAny_bind (wpAny_pure ?_)
    refine wpAny_pure ?_
    dsimp only
    exact wpAny_pure hq
  run_tac Mine.Sh.fin
theorem sup_attr {so C : Addr} {oD : Obj} {cdD : ClassData} {Q : Value → Shared → Prop}
    (hso : h.get? so = some { cls := .type "super", dict := none, data := .fields #[.ref C, .ref C, .ref C], slots := #[] }) (hno : Looks (model prog w) h (opaqueClassAbove (.ref C)) none)
    (hD : h.get? C = some oD) (hDt : oD.data = .cls cdD)
    (hC : Looks (model prog w) h (mroOf (.ref C)) [.ref C, .type "object"]) (hsub : Looks (model prog w) h (isSubtype (.ref C) (.type "object")) true)
    (hq : Q (.ref h.objs.size) ⟨h.push (boundO "object.__init_subclass__" (.ref C)), g, d, t + 1, os⟩) :
    wpAny (model prog w) A (getAttr (.ref so) (Str.ofString "__init_subclass__")) Q E ⟨h, g, d, t, os⟩ := by
  run_tac Mine.Sh.mark
  focus
    have hlk := F.ks_slot_super_ga.lookup
    have hT : ∀ t', (⟨h, g, d, t', os⟩ : Shared).TypeIs (.ref so) "super" := fun _ => ⟨_, hso, rfl⟩
    unfold getAttr getAttrBy
    refine wpAny_bind (wpAny_mkText (wpAny_holding (wpAny_bind (wpAny_typeOf (hT _) (wpAny_bind (wpAny_of_eq hlk ?_))))))
    show wpAny _ _ (getAttrByItsOwn (.ref so) (.str (Str.ofString "__init_subclass__") t) (.type "super") (.builtin "super.__getattribute__") true false) _ _ _
    unfold getAttrByItsOwn hookBefore callGetattribute boundAndCalled
    refine wpAny_bind (wpAny_of_eq (show (if onTheHeap (.type "super") then typeLookup (.type "super") "__getattr__" else pure none) = pure none from rfl) ?_)
    refine wpAny_bind (wpAny_attempt (wpAny_holding ?_))
    show wpAny _ _ (bindSpecial (.builtin "super.__getattribute__") (.ref so) >>= _) _ _ _
    refine wpAny_bind (wpAny_of_eq (F.ks_slot_super_ga.bind _) ?_)
    refine wpAny_mono (Q := fun v s' => v = .ref h.objs.size ∧ s' = ⟨h.push (boundO "object.__init_subclass__" (.ref C)), g, d, t + 1, os⟩) (E := fun _ _ => False)
      (wpAny_call_entry F.ks_slot_super_ga (hT _) F.ks_entry_super_ga (super_ga hso hno hD hDt hC hsub ⟨_, rfl, rfl, rfl⟩) (F.ks_gaArgs_super _ _)) (fun v s' hv => ?_) fun _ _ z => z.elim
    obtain ⟨rfl, rfl⟩ := hv
    exact wpAny_pure hq
  run_tac Mine.Sh.fin
theorem entry_isub : entryFor table "object.__init_subclass__" = some Builtin.«object.__init_subclass__» := entryFor_of_tree (by kernel_rfl!)
theorem quiet_isub {as : Args} : (Code.builtin "object.__init_subclass__" as).quiet = true := Code.quiet_builtin _ (by decide +kernel)
theorem isub_check {C : Addr} {oD : Obj} {cdD : ClassData} {Q : Unit → Shared → Prop} (hD : h.get? C = some oD) (hDt : oD.data = .cls cdD) (hDc : oD.cls = .type "type") (hqn : cdD.qualname = Str.ofString "cmp_to_key.<locals>.K") (hq : Q () ⟨h, g, d, t, os⟩) :
    wpAny M A (checkBoundCall "object.__init_subclass__" ⟨[.ref C], []⟩) Q E ⟨h, g, d, t, os⟩ := by
  run_tac Mine.Sh.mark
  focus
    have hS : (Manifest.signature? "object.__init_subclass__").isSome = true := by decide +kernel
    have es : Manifest.signature? "object.__init_subclass__" = some ((Manifest.signature? "object.__init_subclass__").get hS) := (Option.some_get hS).symm
    unfold checkBoundCall
    generalize hg : (Manifest.signature? "object.__init_subclass__").get hS = sg at es
    rw [es]
    dsimp only
    rw [show builtinKind "object.__init_subclass__" = some .classMethod from by decide +kernel]
    dsimp only
    refine wpIfF (by decide) ?_
    refine wpAny_bind (wpAny_isInstance (T := "type") (U := "module") (b := false) ⟨_, hD, hDc⟩ (by rw [isSubtype_type]; kernel_rfl!) ?_)
    refine wpIfF (by kernel_rfl!) ?_
    refine wpAny_bind ?_
    refine ks_wpAny_isType_cls hD hDt ?_
    refine wpIfPos rfl ?_
    refine wpAny_bind (wpAny_pure ?_)
    dsimp only
    obtain ⟨oc, od, odt, osl⟩ := oD
    subst hDt
    refine wpAny_bind (classData_at hD ?_)
    refine wpAny_bind (wpAny_typeOf (T := "type") ⟨_, hD, hDc⟩ ?_)
    refine wpIfPos rfl ?_
    rw [hqn]
    subst hg
    exact wpAny_of_eq (a := ()) (by kernel_rfl!) hq
  run_tac Mine.Sh.fin
theorem isub_call {b C : Addr} {oD : Obj} {cdD : ClassData} {s : Shared} {Q : Value → Shared → Prop} (hb : s.heap.get? b = some (boundO "object.__init_subclass__" (.ref C)))
    (hD : s.heap.get? C = some oD) (hDt : oD.data = .cls cdD) (hDc : oD.cls = .type "type") (hqn : cdD.qualname = Str.ofString "cmp_to_key.<locals>.K") (hq : Q .none s) :
    wpAny (model prog w) A (call (.ref b)) Q E s := by
  run_tac Mine.Sh.mark
  focus
    obtain ⟨h, g, d, t, os⟩ := s
    refine wpAny_call (codeAny_of_tree ?_)
    show wpAny _ A.in1 (callAny (.ref b) ⟨[], []⟩) _ _ _
    simp only [callAny]
    refine wpAny_bind (wpAny_load hb ?_)
    simp only [List.getElem?_toArray, List.getElem?_cons_zero, List.getElem?_cons_succ, show (Value.type "builtin_function_or_method" == Value.type "method" || Value.type "builtin_function_or_method" == Value.type "builtin_function_or_method" || Value.type "builtin_function_or_method" == Value.type "method-wrapper") = true by decide, if_true]
    refine KFB.if_so (by decide) ?_
    refine wpAny_bind (isub_check hD hDt hDc hqn ?_)
    refine wpAny_pure ⟨quiet_isub, codeAny_builtin entry_isub ?_⟩
    unfold Builtin.«object.__init_subclass__»
    exact wpAny_pure hq
  run_tac Mine.Sh.fin
theorem init_sub {C dn : Addr} {B : Heap} {cdD : ClassData} {sl : Array (Option Value)} {es : List DictEntry} {n : Nat} {s : Shared} {Q : Unit → Shared → Prop}
    (I : Mk2 B s.heap C dn ⟨.type "type", none, .cls cdD, sl⟩ (dictOf es n)) (hno : Looks (model prog w) s.heap (opaqueClassAbove (.ref C)) none) (hns : cdD.ns = dn) (hm : cdD.mro = [.ref C, .type "object"])
    (hqn : cdD.qualname = Str.ofString "cmp_to_key.<locals>.K")
    (hq : ∀ h' tk', (∀ b o, s.heap.get? b = some o → h'.get? b = some o) → Q () { s with heap := h', toks := tk' }) :
    wpAny (model prog w) A (do
      let sup ← call (.type "super") [.ref C, .ref C]
      let f ← holding [sup] (getAttr sup (Str.ofString "__init_subclass__"))
      let _ ← call f
      pure ()) Q E s := by
  run_tac Mine.Sh.mark
  focus
    obtain ⟨h, g, d, t, os⟩ := s
    dsimp only at I hno hq ⊢
    have hcl : clsIn (two C dn ⟨.type "type", none, .cls cdD, sl⟩ (dictOf es n)) C = some cdD := by
      unfold clsIn; rw [two_C]
    have hb : (Value.ref C == Value.ref C) = true := by simp
    have L1 : Looks (model prog w) h (isSubtype (.ref C) (.ref C)) true := looks_mroIn I.two_In (by unfold mroIn; rw [hcl]; simp [hm])
    have L2 : Looks (model prog w) h (isSubtype (.ref C) (.type "object")) true := looks_mroIn I.two_In (by unfold mroIn; rw [hcl]; simp [hm])
    have L3 : Looks (model prog w) h (mroOf (.ref C)) [.ref C, .type "object"] := by
      have := (looks_clsIn (M := model prog w) I.two_In hcl).andThen (f := fun cd => pure cd.mro) .now
      rw [hm] at this
      exact this
    refine wpAny_bind (super_CC I.ea rfl L1 fun h1 e1 k1 => ?_)
    refine wpAny_bind (wpAny_holding (sup_attr e1 (hno.keeps k1) (k1 _ _ I.ea) rfl (L3.keeps k1) (L2.keeps k1) ?_))
    have k2 : ∀ b o, h.get? b = some o → (h1.push (boundO "object.__init_subclass__" (.ref C))).get? b = some o := fun b o e => Heap.get?_push_of_some _ (k1 b o e)
    refine wpAny_bind (isub_call (Heap.get?_push_size _ rfl) (k2 _ _ I.ea) rfl rfl hqn ?_)
    exact wpAny_pure (hq _ _ k2)
  run_tac Mine.Sh.fin
end
end

section -- K9
noncomputable abbrev kEs1 (x1 x3 x4 x5 x6 x7 x8 x9 x10 x11 x12 : Int) (t1 t3 t4 t5 t6 t7 t8 t9 t10 t11 t12 u1 u3 : Tok) (sl fi flt fgt feq fle fge sa : Addr) : List DictEntry :=
  [⟨x1, .str (Str.ofString "__module__") t1, .str (Str.ofString "cpy313.functools") u1⟩,
    ⟨x3, .str (Str.ofString "__firstlineno__") t3, .int (77 : Nat) u3⟩, ⟨x4, .str (Str.ofString "__slots__") t4, .ref sl⟩, ⟨x5, .str (Str.ofString "__init__") t5, .ref fi⟩, ⟨x6, .str (Str.ofString "__lt__") t6, .ref flt⟩,
    ⟨x7, .str (Str.ofString "__gt__") t7, .ref fgt⟩, ⟨x8, .str (Str.ofString "__eq__") t8, .ref feq⟩, ⟨x9, .str (Str.ofString "__le__") t9, .ref fle⟩, ⟨x10, .str (Str.ofString "__ge__") t10, .ref fge⟩,
    ⟨x11, .str (Str.ofString "__hash__") t11, .none⟩, ⟨x12, .str (Str.ofString "__static_attributes__") t12, .ref sa⟩]
noncomputable abbrev kEs3 (x1 x3 x4 x5 x6 x7 x8 x9 x10 x11 x12 x13 x14 : Int) (t1 t3 t4 t5 t6 t7 t8 t9 t10 t11 t12 u1 u3 t13 t14 : Tok) (sl fi flt fgt feq fle fge sa de : Addr) : List DictEntry :=
  [⟨x1, .str (Str.ofString "__module__") t1, .str (Str.ofString "cpy313.functools") u1⟩,
    ⟨x3, .str (Str.ofString "__firstlineno__") t3, .int (77 : Nat) u3⟩, ⟨x4, .str (Str.ofString "__slots__") t4, .ref sl⟩, ⟨x5, .str (Str.ofString "__init__") t5, .ref fi⟩, ⟨x6, .str (Str.ofString "__lt__") t6, .ref flt⟩,
    ⟨x7, .str (Str.ofString "__gt__") t7, .ref fgt⟩, ⟨x8, .str (Str.ofString "__eq__") t8, .ref feq⟩, ⟨x9, .str (Str.ofString "__le__") t9, .ref fle⟩, ⟨x10, .str (Str.ofString "__ge__") t10, .ref fge⟩,
    ⟨x11, .str (Str.ofString "__hash__") t11, .none⟩, ⟨x12, .str (Str.ofString "__static_attributes__") t12, .ref sa⟩, ⟨x13, .str (Str.ofString "obj") t13, .ref de⟩, ⟨x14, .str (Str.ofString "__doc__") t14, .none⟩]
noncomputable abbrev kCd (C d : Addr) : ClassData := { name := Str.ofString "K", bases := [.type "object"], mro := [.ref C, .type "object"], ns := d, qualname := Str.ofString "cmp_to_key.<locals>.K" }
noncomputable abbrev kCd2 (C d : Addr) : ClassData := { name := Str.ofString "K", bases := [.type "object"], mro := [.ref C, .type "object"], ns := d, qualname := Str.ofString "cmp_to_key.<locals>.K", hasDict := false, slotNames := [Str.ofString "obj"] }
theorem sn_str : typeLookup (.type "str") (Str.ofString "__set_name__") = pure none := by rw [typeLookup_type, builtinLookup_eq_fast]; kernel_rfl!
theorem sn_int : typeLookup (.type "int") (Str.ofString "__set_name__") = pure none := by rw [typeLookup_type, builtinLookup_eq_fast]; kernel_rfl!
theorem sn_list : typeLookup (.type "list") (Str.ofString "__set_name__") = pure none := by rw [typeLookup_type, builtinLookup_eq_fast]; kernel_rfl!
theorem sn_function : typeLookup (.type "function") (Str.ofString "__set_name__") = pure none := by rw [typeLookup_type, builtinLookup_eq_fast]; kernel_rfl!
theorem sn_none : typeLookup (.type "NoneType") (Str.ofString "__set_name__") = pure none := by rw [typeLookup_type, builtinLookup_eq_fast]; kernel_rfl!
theorem sn_tuple : typeLookup (.type "tuple") (Str.ofString "__set_name__") = pure none := by rw [typeLookup_type, builtinLookup_eq_fast]; kernel_rfl!
theorem sn_member_descriptor : typeLookup (.type "member_descriptor") (Str.ofString "__set_name__") = pure none := by rw [typeLookup_type, builtinLookup_eq_fast]; kernel_rfl!
theorem arrFor {α β : Type} {M : Model} {A : Around} {E : Value → Shared → Prop} {s : Shared} {l : List α} {b : β} {f : α → β → Sem (ForInStep β)} {Q : β → Shared → Prop} (h : wpAny M A (forIn l b f) Q E s) : wpAny M A (forIn l.toArray b f) Q E s := by
  rw [List.forIn_toArray]; exact h
theorem Mk2.oa' {h0 h : Heap} {a d : Addr} {oa oa' od : Obj} (I : Mk2 h0 h a d oa od) (e : some oa = some oa') : Mk2 h0 h a d oa' od := ⟨I.k, I.na, I.nd, I.ne, I.ea.trans e, I.ed⟩
theorem Mk2.od' {h0 h : Heap} {a d : Addr} {oa od od' : Obj} (I : Mk2 h0 h a d oa od) (e : some od = some od') : Mk2 h0 h a d oa od' := ⟨I.k, I.na, I.nd, I.ne, I.ea, I.ed.trans e⟩
section
variable {prog : Program} {w : World} {A : Around} {E : Value → Shared → Prop} {s : Shared}
  {x1 x2 x3 x4 x5 x6 x7 x8 x9 x10 x11 x12 : Int} {t1 t2 t3 t4 t5 t6 t7 t8 t9 t10 t11 t12 u1 u2 u3 t0 ts tq : Tok} {ns bt sl fi flt fgt feq fle fge sa : Addr}
theorem new_open {Q : PySem.Fin → Shared → Prop} (D : s.heap.get? ns = some (dictOf (kEs x1 x2 x3 x4 x5 x6 x7 x8 x9 x10 x11 x12 t1 t2 t3 t4 t5 t6 t7 t8 t9 t10 t11 t12 u1 u2 u3 sl fi flt fgt feq fle fge sa) 12)) (ebt : s.heap.get? bt = some (tupO [.type "object"]))
    (hns : (ns == sysModules) = false) (esl : s.heap.get? sl = some (listOf #[.str (Str.ofString "obj") tq] 0))
    (hfn : ∀ f ∈ [fi, flt, fgt, feq, fle, fge], s.TypeIs (.ref f) "function") (hsa : s.TypeIs (.ref sa) "tuple") (hop : ∀ C, Looks (model prog w) s.heap (opaqueClassAbove (.ref C)) none)
    (h : ∀ (C d de : Addr) (B h' : Heap) (tk' : Nat) (x13 x14 : Int) (t13 t14 : Tok), (∀ b o, s.heap.get? b = some o → B.get? b = some o) → s.heap.get? de = none → (∃ tq', B.get? de = some { cls := .type "member_descriptor", data := .fields [.str (Str.ofString "obj") tq', .ref C, .builtin "proto.slot", .builtin "proto.slot#set", rawInt 0].toArray }) →
      Mk2 B h' C d ⟨.type "type", none, .cls (kCd2 C d), #[some (.ref bt), none, some (.str (Str.ofString "K") t0), some (.str (Str.ofString "cmp_to_key.<locals>.K") u2), some (.builtin "object.__new__"), some (.bool false)]⟩
        (dictOf (kEs3 x1 x3 x4 x5 x6 x7 x8 x9 x10 x11 x12 x13 x14 t1 t3 t4 t5 t6 t7 t8 t9 t10 t11 t12 u1 u3 t13 t14 sl fi flt fgt feq fle fge sa de) 3) → Q (.done (.ret (.ref C))) { s with heap := h', toks := tk' }) : wpAny (model prog w) A (Builtin.«type.__new__» ⟨[.type "type", .str (Str.ofString "K") t0, .ref bt, .ref ns], []⟩) Q E s := by
  run_tac Mine.Sh.mark
  focus
    obtain ⟨hp, gn, dr, tk, os⟩ := s
    dsimp only at D ebt esl hop h
    have hty : ∀ (f : Addr) (T : String) (h' : Heap) (t' : Nat), (⟨hp, gn, dr, tk, os⟩ : Shared).TypeIs (.ref f) T → (∀ b o, hp.get? b = some o → h'.get? b = some o) → (⟨h', gn, dr, t', os⟩ : Shared).TypeIs (.ref f) T := fun f T h' t' q k => by
      obtain ⟨o, e1, e2⟩ := q; exact ⟨o, k _ _ e1, e2⟩
    unfold Builtin.«type.__new__»
    refine bindHide fun F hF => ?_
    refine wpAny_of_eq (a := some (Str.ofString "K")) (by rfl) ?_
    subst hF
    refine bindHide fun F hF => ?_
    refine wpAny_isInstance (T := "tuple") (U := "tuple") (b := true) ⟨_, ebt, rfl⟩ (by kernel_rfl!) ?_
    subst hF
    refine wpIfNeg (by decide) ?_
    refine bindHide fun F hF => ?_
    refine wpAny_isInstance (T := "dict") (U := "dict") (b := true) ⟨_, D, rfl⟩ (by kernel_rfl!) ?_
    subst hF
    refine wpIfNeg (by decide) ?_
    refine bindHide fun F hF => ?_
    refine wpAny_seqItems ebt rfl ?_
    subst hF
    refine wpIfNeg (by decide) ?_
    refine bindHide fun F hF => ?_
    refine forCons (x := .type "object") (r := []) rfl ?_
    refine wpAny_bind (wpAny_of_eq (a := true) rfl ?_)
    refine wpIfNeg (by decide) (wpAny_pure ?_)
    refine forNil rfl ?_
    subst hF
    refine bindHide fun F hF => ?_
    refine forCons (x := .type "object") (r := []) rfl ?_
    refine wpAny_bind (wpAny_of_eq (a := .type "type") (by kernel_rfl!) ?_)
    refine wpAny_bind (wpAny_of_eq (a := true) (by rw [isSubtype_type]; kernel_rfl!) ?_)
    refine wpIfPos rfl (wpAny_pure ?_)
    refine forNil rfl ?_
    subst hF
    refine wpIfNeg (by decide) ?_
    refine bindHide fun F hF => ?_
    refine wpAny_of_eq (a := ()) (by kernel_rfl!) ?_
    subst hF
    refine bindHide fun F hF => ?_
    refine wpAny_of_eq (a := .type "object") (by kernel_rfl!) ?_
    subst hF
    refine wpIfNeg (by rw [hns]; decide) ?_
    refine bindHide fun F hF => ?_
    refine wpAny_dictEntries D rfl ?_
    subst hF
    refine bindHide fun F hF => ?_
    refine wpAny_specialOf (T := "dict") (r := some (.builtin "dict.__iter__")) ⟨_, D, rfl⟩ (by rw [typeLookup_type, builtinLookup_eq_fast]; kernel_rfl!) ?_
    subst hF
    refine wpIfPos (by kernel_rfl!) ?_
    refine bindHide fun F hF => ?_
    refine wpAny_pure ?_
    subst hF
    refine bindHide fun F hF => ?_
    refine wpAny_holding (slots_read esl fun h1 tk1 up1 => ?_)
    subst hF
    refine bindHide fun F hF => ?_
    refine newObj_at fun d h2 up2 nd2 ed2 => ?_
    subst hF
    dsimp only at up2 nd2 ed2
    have e0 := lowNone up1 nd2
    have k2 : ∀ b o, hp.get? b = some o → h2.get? b = some o := fun b o e => up2 b o (up1 b o e)
    clear up1 up2 nd2
    refine wpIfF (by kernel_rfl!) ?_
    refine bindHide fun F hF => ?_
    refine wpIfF (by kernel_rfl!) (wpAny_pure ?_)
    subst hF
    refine wpIfF (by kernel_rfl!) ?_
    refine bindHide fun F hF => ?_
    refine nsGet_at ed2 (r := some (.str (Str.ofString "cmp_to_key.<locals>.K") u2)) (by kernel_rfl!) ?_
    subst hF
    refine bindHide fun F hF => ?_
    refine nsGet_at ed2 (r := some (.str (Str.ofString "cmp_to_key.<locals>.K") u2)) (by kernel_rfl!) ?_
    subst hF
    refine bindHide fun F hF => ?_
    refine wpAny_of_eq (a := some (Str.ofString "cmp_to_key.<locals>.K")) (by rfl) ?_
    subst hF
    refine bindHide fun F hF => ?_
    refine wpAny_pure ?_
    subst hF
    refine bindHide fun F hF => ?_
    refine nsGet_at ed2 (r := none) (by kernel_rfl!) ?_
    subst hF
    refine bindHide fun F hF => ?_
    refine alloc_at (o := { cls := .type "type", data := .cls { name := Str.ofString "K", bases := [.type "object"], mro := [], ns := d, qualname := Str.ofString "cmp_to_key.<locals>.K" } }) fun C h3 up3 nC eC => ?_
    subst hF
    dsimp only at up3 nC eC
    have I : Mk2 hp h3 C d _ _ := ⟨fun b o e => up3 b o (k2 b o e), lowNone k2 nC, e0, neOf nC ed2, eC, up3 _ _ ed2⟩
    clear up3 nC eC k2 e0 ed2
    refine wpIfPos (by rfl) ?_
    refine bindHide fun F hF => ?_
    refine setSlotAt_at I.ea (by decide) fun h4 S e => ?_
    subst hF
    have I := I.setA S e
    clear S e
    refine bindHide fun F hF => ?_
    refine setSlotAt_at I.ea (by decide) fun h5 S e => ?_
    subst hF
    have I := I.setA S e
    clear S e
    refine bindHide fun F hF => ?_
    refine setSlotAt_at I.ea (by decide) fun h6 S e => ?_
    subst hF
    have I := I.setA S e
    clear S e
    refine bindHide fun F hF => ?_
    refine nsDel_at (es' := kEs1 x1 x3 x4 x5 x6 x7 x8 x9 x10 x11 x12 t1 t3 t4 t5 t6 t7 t8 t9 t10 t11 t12 u1 u3 sl fi flt fgt feq fle fge sa) (n' := 1) I.ed (by kernel_rfl!) (by kernel_rfl!) fun h7 S e => ?_
    subst hF
    have I := I.setD S e
    clear S e
    refine bindHide fun F hF => ?_
    refine nsGet_at I.ed (r := none) (by kernel_rfl!) ?_
    subst hF
    refine bindHide fun F hF => ?_
    refine forCons (x := Str.ofString "__init_subclass__") (r := [Str.ofString "__class_getitem__"]) rfl ?_
    refine wpAny_bind (nsGet_at I.ed (r := none) (by kernel_rfl!) (wpAny_pure ?_))
    refine forCons (x := Str.ofString "__class_getitem__") (r := []) rfl ?_
    refine wpAny_bind (nsGet_at I.ed (r := none) (by kernel_rfl!) (wpAny_pure ?_))
    refine forNil rfl ?_
    subst hF
    refine bindHide fun F hF => ?_
    refine nsGet_at I.ed (r := none) (by kernel_rfl!) ?_
    subst hF
    refine bindHide fun F hF => ?_
    refine nsGet_at I.ed (r := none) (by kernel_rfl!) ?_
    subst hF
    refine bindHide fun F hF => ?_
    refine wpAny_of_eq (a := none) (by kernel_rfl!) ?_
    subst hF
    refine bindHide fun F hF => ?_
    refine wpAny_of_eq (a := [.type "object"]) (by kernel_rfl!) ?_
    subst hF
    refine bindHide fun F hF => ?_
    refine wpAny_pure ?_
    subst hF
    have efl : List.filter (fun x => x != Value.ref C) [Value.ref C, Value.type "object"] = [Value.type "object"] := by
      have e1 : (Value.ref C == Value.ref C) = true := by simp
      have e2 : (Value.type "object" == Value.ref C) = false := by rfl
      simp only [List.filter, bne, e1, e2, Bool.not_true, Bool.not_false]
    dsimp only
    rw [efl]
    refine bindHide fun F hF => ?_
    refine wpAny_of_eq (a := false) (by kernel_rfl!) ?_
    subst hF
    refine bindHide fun F hF => ?_
    refine updateCls_at I.ea (by rfl) fun h8 S e => ?_
    subst hF
    have I := I.setA S e
    clear S e
    refine bindHide fun F hF => ?_
    refine wpAny_of_eq (a := some "object.__new__") (by kernel_rfl!) ?_
    subst hF
    refine bindHide fun F hF => ?_
    refine setSlotAt_at I.ea (by decide) fun h9 S e => ?_
    subst hF
    have I := I.setA S e
    clear S e
    have I := I.oa' (oa' := ⟨.type "type", none, .cls (kCd C d), #[some (.ref bt), none, some (.str (Str.ofString "K") t0), some (.str (Str.ofString "cmp_to_key.<locals>.K") u2), some (.builtin "object.__new__")]⟩) (by kernel_rfl!)
    refine bindHide fun F hF => ?_
    unfold Bind.refreshMaker
    refine wpAny_bind (slotAt_at I.ea ?_)
    refine wpIfF (by kernel_rfl!) ?_
    have fi1 : findIn (two C d ⟨.type "type", none, .cls (kCd C d), #[some (.ref bt), none, some (.str (Str.ofString "K") t0), some (.str (Str.ofString "cmp_to_key.<locals>.K") u2), some (.builtin "object.__new__")]⟩ (dictOf (kEs1 x1 x3 x4 x5 x6 x7 x8 x9 x10 x11 x12 t1 t3 t4 t5 t6 t7 t8 t9 t10 t11 t12 u1 u3 sl fi flt fgt feq fle fge sa) 1)) (.ref C) (Str.ofString "__new__") = some (some (.builtin "object.__new__")) :=
      (findIn_two I.ne rfl rfl (r := none) (by kernel_rfl!)).trans (by kernel_rfl!)
    refine wpAny_bind (looks_findIn I.two_In fi1 _ _ _ _ (fun _ _ e => e) ?_)
    dsimp only
    refine wpIfF (by kernel_rfl!) (wpAny_pure ?_)
    subst hF
    refine bindHide fun F hF => ?_
    unfold Builtin.Slots.install
    refine wpAny_bind ?_
    refine forCons (x := Str.ofString "obj") (r := []) rfl ?_
    refine wpAny_bind (nsGet_at I.ed (r := none) (by kernel_rfl!) ?_)
    refine wpIfPos rfl ?_
    refine wpAny_bind (wpAny_mkText ?_)
    unfold newFields
    refine wpAny_bind (newObj_at fun de h10 up10 n10 e10 => ?_)
    dsimp only at up10 n10 e10
    have I10 := I.ext up10
    have nde := lowNone I.k n10
    have dC : de ≠ C := neOf n10 I.ea
    have dd : de ≠ d := neOf n10 I.ed
    refine wpAny_bind ?_
    unfold nsSetByValue
    refine wpAny_bind (wpAny_loadPart I10.ed ?_)
    dsimp only
    refine wpIfF (by kernel_rfl!) ?_
    refine nsSet_at I10.ed (by kernel_rfl!) fun h11 hx13 S e => ?_
    have I := I10.setD S e
    have e11 := S.extBut _ _ dd e10
    clear I10 S e
    dsimp only at I ⊢
    refine wpAny_pure ?_
    refine forNil rfl ?_
    have kB := I.up
    have eB : (hideAll h11 [C, d]).get? de = some { cls := .type "member_descriptor", data := .fields [.str (Str.ofString "obj") tk1, .ref C, .builtin "proto.slot", .builtin "proto.slot#set", rawInt 0].toArray } := hideAll_get _ (e11.trans (by kernel_rfl!)) (by simp [dC, dd])
    have I := I.rebase
    generalize hideAll h11 [C, d] = B at kB eB I
    clear e11 fi1
    refine wpAny_bind (wpAny_of_eq (a := false) (by kernel_rfl!) ?_)
    refine wpIfNeg (by rw [sizeLine_eq]; decide) ?_
    refine updateCls_at I.ea (by rfl) fun h12 S e => ?_
    subst hF
    have I := I.setA S e
    clear S e
    refine bindHide fun F hF => ?_
    refine wpAny_of_eq (a := false) (by kernel_rfl!) ?_
    subst hF
    refine bindHide fun F hF => ?_
    refine setSlotAt_at I.ea (by decide) fun h13 S e => ?_
    subst hF
    have I := I.setA S e
    clear S e
    have I := I.oa' (oa' := ⟨.type "type", none, .cls (kCd2 C d), #[some (.ref bt), none, some (.str (Str.ofString "K") t0), some (.str (Str.ofString "cmp_to_key.<locals>.K") u2), some (.builtin "object.__new__"), some (.bool false)]⟩) (by kernel_rfl!)
    refine wpIfNeg (by decide) ?_
    refine wpIfNeg (by decide) ?_
    refine bindHide fun F hF => ?_
    refine nsGet_at I.ed (r := none) (by kernel_rfl!) ?_
    subst hF
    refine wpIfPos rfl ?_
    refine bindHide fun F hF => ?_
    refine nsSet_at I.ed (by kernel_rfl!) fun h14 hx14 S e => ?_
    subst hF
    have I := I.setD S e
    clear S e
    dsimp only at I ⊢
    refine bindHide fun F hF => ?_
    refine nsGet_at I.ed (r := some (.ref feq)) (by kernel_rfl!) ?_
    subst hF
    refine wpIfPos rfl ?_
    refine bindHide fun F hF => ?_
    refine nsGet_at I.ed (r := some .none) (by kernel_rfl!) ?_
    subst hF
    refine wpIfNeg (by decide) ?_
    refine bindHide fun F hF => ?_
    refine wpAny_of_eq (a := PUnit.unit) (by kernel_rfl!) ?_
    subst hF
    have I := I.od' (od' := dictOf (kEs3 x1 x3 x4 x5 x6 x7 x8 x9 x10 x11 x12 hx13 hx14 t1 t3 t4 t5 t6 t7 t8 t9 t10 t11 t12 u1 u3 (tk1 + 1) (tk1 + 1 + 1) sl fi flt fgt feq fle fge sa de) 3) (by kernel_rfl!)
    refine bindHide fun F hF => ?_
    refine wpAny_tryCatch ?_
    refine wpAny_holding ?_
    refine wpAny_bind (wpAny_dictEntries I.ed rfl ?_)
    refine wpAny_bind (wpAny_of_eq (a := false) (by kernel_rfl!) ?_)
    refine wpIfNeg (by decide) ?_
    refine wpAny_bind (wpAny_dictEntries I.ed rfl ?_)
    have kI : ∀ b o, hp.get? b = some o → h14.get? b = some o := fun b o e => I.k b o (kB b o e)
    refine bindHide fun G hG => ?_
    refine arrFor ?_
    refine forCons rfl ?_
    refine wpIfF (by kernel_rfl!) ?_
    refine wpAny_bind (wpAny_specialOf (T := "str") (by show (_ = _); kernel_rfl!) sn_str (wpAny_pure ?_))
    refine forCons rfl ?_
    refine wpIfF (by kernel_rfl!) ?_
    refine wpAny_bind (wpAny_specialOf (T := "int") (by show (_ = _); kernel_rfl!) sn_int (wpAny_pure ?_))
    refine forCons rfl ?_
    refine wpIfF (by kernel_rfl!) ?_
    refine wpAny_bind (wpAny_specialOf (T := "list") (hty sl _ _ _ ⟨_, esl, rfl⟩ kI) sn_list (wpAny_pure ?_))
    refine forCons rfl ?_
    refine wpIfF (by kernel_rfl!) ?_
    refine wpAny_bind (wpAny_specialOf (T := "function") (hty fi _ _ _ (hfn _ (by simp)) kI) sn_function (wpAny_pure ?_))
    refine forCons rfl ?_
    refine wpIfF (by kernel_rfl!) ?_
    refine wpAny_bind (wpAny_specialOf (T := "function") (hty flt _ _ _ (hfn _ (by simp)) kI) sn_function (wpAny_pure ?_))
    refine forCons rfl ?_
    refine wpIfF (by kernel_rfl!) ?_
    refine wpAny_bind (wpAny_specialOf (T := "function") (hty fgt _ _ _ (hfn _ (by simp)) kI) sn_function (wpAny_pure ?_))
    refine forCons rfl ?_
    refine wpIfF (by kernel_rfl!) ?_
    refine wpAny_bind (wpAny_specialOf (T := "function") (hty feq _ _ _ (hfn _ (by simp)) kI) sn_function (wpAny_pure ?_))
    refine forCons rfl ?_
    refine wpIfF (by kernel_rfl!) ?_
    refine wpAny_bind (wpAny_specialOf (T := "function") (hty fle _ _ _ (hfn _ (by simp)) kI) sn_function (wpAny_pure ?_))
    refine forCons rfl ?_
    refine wpIfF (by kernel_rfl!) ?_
    refine wpAny_bind (wpAny_specialOf (T := "function") (hty fge _ _ _ (hfn _ (by simp)) kI) sn_function (wpAny_pure ?_))
    refine forCons rfl ?_
    refine wpIfF (by kernel_rfl!) ?_
    refine wpAny_bind (wpAny_specialOf (T := "NoneType") (by show (_ = _); kernel_rfl!) sn_none (wpAny_pure ?_))
    refine forCons rfl ?_
    refine wpIfF (by kernel_rfl!) ?_
    refine wpAny_bind (wpAny_specialOf (T := "tuple") (hty sa _ _ _ hsa kI) sn_tuple (wpAny_pure ?_))
    refine forCons rfl ?_
    refine wpIfF (by kernel_rfl!) ?_
    refine wpAny_bind (wpAny_specialOf (T := "member_descriptor") ⟨_, I.k _ _ eB, rfl⟩ sn_member_descriptor (wpAny_pure ?_))
    refine forCons rfl ?_
    refine wpIfF (by kernel_rfl!) ?_
    refine wpAny_bind (wpAny_specialOf (T := "NoneType") (by show (_ = _); kernel_rfl!) sn_none (wpAny_pure ?_))
    refine forNil rfl ?_
    subst hG
    refine init_sub I ((hop C).keeps fun b o e => I.k b o (kB b o e)) rfl rfl rfl fun h15 tk15 k15 => ?_
    subst hF
    have I := I.ext k15
    exact wpAny_pure (h C d de B h15 tk15 _ _ _ _ kB nde ⟨_, eB⟩ I)
  run_tac Mine.Sh.fin
end
end

section -- K12
theorem plain_tnew : plainId "type.__new__" = true := by decide +kernel
theorem entry_tnew : entryFor table "type.__new__" = some Builtin.«type.__new__» := entryFor_of_tree (by kernel_rfl!)
theorem slot_tinit : Slot "type" "__init__" "type.__init__" := .of (owner := "type") (n := "__init__") (by rw [typeLookup_type, builtinLookup_eq_fast]; kernel_rfl!) (by decide +kernel) (by decide +kernel) (by decide +kernel)
    (by first | exact .inl (by decide +kernel) | exact .inr (by decide +kernel)) (by rw [isSubtype_type]; kernel_rfl!)
theorem entry_tinit : entryFor table "type.__init__" = some Builtin.«type.__init__» := entryFor_of_tree (by kernel_rfl!)
theorem args_tinit (a b c d : Value) : argsOk "type.__init__" ⟨[a, b, c, d], []⟩ := by unfold argsOk; kernel_rfl!
section
variable {prog : Program} {w : World} {A : Around} {E : Value → Shared → Prop} {s : Shared}
theorem type_call3 {a b c : Value} {Q : Value → Shared → Prop} (hct : checkTypeCall "type" ⟨[a, b, c], []⟩ = pure ()) (hcn : checkBuiltinCall "type.__new__" ⟨[.type "type", a, b, c], []⟩ = pure ())
    (h : ∀ (A' : Around) (R : PySem.Fin → Shared → Prop) (E' : Value → Shared → Prop), (∀ C s', s'.TypeIs (.ref C) "type" → Q (.ref C) s' → R (.done (.ret (.ref C))) s') → wpAny (model prog w) A' (Builtin.«type.__new__» ⟨[.type "type", a, b, c], []⟩) R E' s) :
    wpAny (model prog w) A (call (.type "type") [a, b, c] []) Q E s := by
  run_tac Mine.Sh.mark
  focus
    refine wpAny_call (codeAny_of_tree ?_)
    show wpAny _ _ (callAny (.type "type") _) _ _ _
    refine wpAny_pure ⟨Code.quiet_builtin _ (by decide +kernel), codeAny_builtin F.entry_type_call ?_⟩
    rw [Around.under_plain (weight_type_call_type "type" _ _) rfl]
    unfold Builtin.«type.__call__»
    dsimp only
    refine wpIfPos (by rfl) ?_
    refine wpIfNeg (by simp) ?_
    refine wpIfNeg (by simp) ?_
    refine wpIfF (by kernel_rfl!) ?_
    refine bindHide fun F hF => ?_
    refine wpAny_of_eq hct ?_
    subst hF
    refine bindHide fun F hF => ?_
    refine wpAny_of_eq (a := [.type "type", .type "object"]) (by rw [mroOf_type]; kernel_rfl!) ?_
    subst hF
    refine wpIfF (by rfl) ?_
    refine bindHide fun F hF => ?_
    refine wpAny_of_eq (a := some "type.__new__") (by kernel_rfl!) ?_
    subst hF
    refine bindHide fun F hF => ?_
    refine wpAny_pure ?_
    subst hF
    refine bindHide fun F hF => ?_
    refine wpAny_holding (wpAny_call (codeAny_call_builtin plain_tnew entry_tnew (wpAny_of_eq hcn (h _ _ _ fun C s' hT hQ => ?_))))
    dsimp only
    subst hF
    refine bindHide fun F hF => ?_
    refine wpAny_isInstance (T := "type") (U := "type") (b := true) hT (by rw [isSubtype_type]; kernel_rfl!) ?_
    subst hF
    refine wpIfNeg (by decide) ?_
    refine bindHide fun F hF => ?_
    refine wpAny_holding ?_
    unfold callSpecial?
    refine wpAny_bind (wpAny_specialOf hT slot_tinit.lookup ?_)
    dsimp only
    refine wpAny_holding ?_
    refine wpAny_bind (wpAny_of_eq (slot_tinit.bind _) ?_)
    refine wpAny_bind (wpAny_call_entry slot_tinit hT entry_tinit ?_ (args_tinit _ _ _ _))
    unfold Builtin.«type.__init__»
    refine wpIfNeg (by simp) ?_
    refine wpIfNeg (by simp) ?_
    refine wpAny_pure ⟨_, rfl, ?_⟩
    refine wpAny_pure ?_
    subst hF
    dsimp only
    refine wpIfNeg (by decide) ?_
    exact wpAny_pure hQ
  run_tac Mine.Sh.fin
end
end

section -- K13
section
variable {K : Frag} {C d de fi flt : Addr} {sl : Array (Option Value)} {es : List DictEntry} {n : Nat} {name : Str} {bt : Addr} {t0 u2 : Tok}
theorem nsIn_K (ed : K.lookup d = some (dictOf es n)) {r : Option Value} (e : getL name es = some r) : nsIn K d name = some r := by
  run_tac Mine.Sh.mark
  focus
    unfold nsIn
    rw [ed]
    dsimp only
    unfold getL at e
    split at e
    · rename_i en he; cases e; rw [he]
    · rename_i he
      rw [he]
      split at e
      · cases e
      · rename_i hr; cases e; dsimp only; rw [if_neg hr]
  run_tac Mine.Sh.fin
theorem findIn_K (eC : K.lookup C = some ⟨.type "type", none, .cls (kCd2 C d), sl⟩) (ed : K.lookup d = some (dictOf es n)) {r : Option Value} (e : getL name es = some r) :
    findIn K (.ref C) name = some (r.or (fastBuiltinOwn "object" name)) := by
  run_tac Mine.Sh.mark
  focus
    unfold findIn
    dsimp only
    rw [eC]
    dsimp only
    show alongIn K name [.ref C, .type "object"] = _
    unfold alongIn ownIn
    dsimp only
    rw [eC]
    dsimp only
    rw [nsIn_K (d := (kCd2 C d).ns) ed e]
    cases r with
    | some v => rfl
    | none =>
      dsimp only
      unfold alongIn ownIn
      dsimp only
      cases fastBuiltinOwn "object" name <;> rfl
  run_tac Mine.Sh.fin
theorem clsIn_K (eC : K.lookup C = some ⟨.type "type", none, .cls (kCd2 C d), sl⟩) : clsIn K C = some (kCd2 C d) := by unfold clsIn; rw [eC]
theorem makes_K (eC : K.lookup C = some ⟨.type "type", none, .cls (kCd2 C d), sl⟩) (e4 : (sl.toList[4]?).join = some (.builtin "object.__new__")) : makesIn K C = true := by
  run_tac Mine.Sh.mark
  focus
    have hb : (Value.ref C == Value.ref C) = true := by simp
    have h1 : specialIn K (.ref C) "__call__" = some (some (.builtin "type.__call__")) := by
      unfold specialIn typeIn
      dsimp only
      rw [eC]
      show findIn K (.type "type") "__call__" = _
      unfold findIn
      dsimp only
      decide +kernel
    have h2 : instIn K (.ref C) (.type "type") = some true := by
      unfold instIn typeIn
      dsimp only
      rw [eC]
      show subIn K (.type "type") (.type "type") = _
      unfold subIn
      dsimp only
      decide +kernel
    unfold makesIn
    rw [eC]
    dsimp only
    rw [h1, h2, e4]
    simp
  run_tac Mine.Sh.fin
noncomputable abbrev kDe (C : Addr) (tq : Tok) : Obj := { cls := .type "member_descriptor", data := .fields [.str (Str.ofString "obj") tq, .ref C, .builtin "proto.slot", .builtin "proto.slot#set", rawInt 0].toArray }
theorem isFn_K {f : Addr} {o : Obj} (ef : K.lookup f = some o) (hc : o.cls = .type "function") : isFn K (.ref f) = true := by
  run_tac Mine.Sh.mark
  focus
    unfold isFn typeIn
    dsimp only
    rw [ef]
    show (some o.cls == some (.type "function")) = true
    rw [hc]; rfl
  run_tac Mine.Sh.fin
theorem typeIn_K {f : Addr} {o : Obj} (ef : K.lookup f = some o) : typeIn K (.ref f) = some o.cls := by
  run_tac Mine.Sh.mark
  focus
    unfold typeIn
    dsimp only
    rw [ef]; rfl
  run_tac Mine.Sh.fin
theorem slotIn_K {tq : Tok} (eC : K.lookup C = some ⟨.type "type", none, .cls (kCd2 C d), sl⟩) (e : K.lookup de = some (kDe C tq)) : slotIn K de C = some 0 := by
  run_tac Mine.Sh.mark
  focus
    have h1 : recIn K de "member_descriptor" = some [.str (Str.ofString "obj") tq, .ref C, .builtin "proto.slot", .builtin "proto.slot#set", rawInt 0] := by
      unfold recIn; rw [e]; rfl
    unfold slotIn
    rw [h1, clsIn_K eC]
    show (if _ then _ else _) = _
    rw [if_pos (by simp)]
    rfl
  run_tac Mine.Sh.fin
theorem special_md {tq : Tok} (e : K.lookup de = some (kDe C tq)) {r : Option Value} (h : findIn [] (.type "member_descriptor") name = some r) : specialIn K (.ref de) name = some r := by
  run_tac Mine.Sh.mark
  focus
    unfold specialIn
    rw [typeIn_K e]
    exact h
  run_tac Mine.Sh.fin
theorem takes_md {tq : Tok} (e : K.lookup de = some (kDe C tq)) : takesIn K (.ref de) = some true := by
  unfold takesIn
  rw [special_md e (r := some (.builtin "member_descriptor.__set__")) (by decide +kernel)]
theorem plainGet_K (eC : K.lookup C = some ⟨.type "type", none, .cls (kCd2 C d), sl⟩) (ed : K.lookup d = some (dictOf es n)) (e1 : getL (Str.ofString "__getattribute__") es = some none) (e2 : getL (Str.ofString "__getattr__") es = some none) (nm : Str) : plainGet K C nm = true := by
  run_tac Mine.Sh.mark
  focus
    have h1 : findIn K (.ref C) "__getattribute__" = some (some (.builtin "object.__getattribute__")) := (findIn_K eC ed e1).trans (by decide +kernel)
    have h2 : findIn K (.ref C) "__getattr__" = some none := (findIn_K eC ed e2).trans (by decide +kernel)
    unfold plainGet
    rw [h1, h2]; rfl
  run_tac Mine.Sh.fin
theorem taker_K {tq : Tok} (eC : K.lookup C = some ⟨.type "type", none, .cls (kCd2 C d), sl⟩) (ed : K.lookup d = some (dictOf es n)) (e : K.lookup de = some (kDe C tq)) (e1 : getL (Str.ofString "obj") es = some (some (.ref de))) : takerIn K C (Str.ofString "obj") = some (some (.ref de)) := by
  run_tac Mine.Sh.mark
  focus
    unfold takerIn
    rw [findIn_K eC ed e1]
    show (takesIn K (.ref de)).map _ = _
    rw [takes_md e]; rfl
  run_tac Mine.Sh.fin
theorem plainOver_K (eC : K.lookup C = some ⟨.type "type", none, .cls (kCd2 C d), sl⟩) : plainOver K C = true := by
  unfold plainOver
  rw [clsIn_K eC]; rfl
theorem isCls_K (eC : K.lookup C = some ⟨.type "type", none, .cls (kCd2 C d), sl⟩) : isClsIn K C = true := by
  unfold isClsIn
  rw [clsIn_K eC]; rfl
end
theorem frag_aux (h : Heap) (a : Addr) : ∀ l : List Addr, List.lookup a (l.filterMap fun b => (h.get? b).map fun o => (b, o)) = if a ∈ l then h.get? a else none
  | [] => rfl
  | b :: l => by
    have ih := frag_aux h a l
    rw [List.filterMap_cons]
    cases hb : h.get? b with
    | none =>
      simp only [Option.map_none]
      rw [ih]
      by_cases hab : a = b
      · subst hab; rw [hb]; split <;> split <;> rfl
      · by_cases hl : a ∈ l
        · rw [if_pos hl, if_pos (.tail _ hl)]
        · rw [if_neg hl, if_neg (fun q => by rcases List.mem_cons.mp q with q | q; exact hab q; exact hl q)]
    | some o =>
      simp only [Option.map_some]
      rw [List.lookup_cons]
      by_cases hab : a = b
      · subst hab; rw [beq_self_eq_true, if_pos (.head _), hb]
      · rw [show (a == b) = false from beq_eq_false_iff_ne.mpr hab]
        dsimp only
        rw [ih]
        by_cases hl : a ∈ l
        · rw [if_pos hl, if_pos (.tail _ hl)]
        · rw [if_neg hl, if_neg (fun q => by rcases List.mem_cons.mp q with q | q; exact hab q; exact hl q)]
theorem frag_of (h : Heap) : ∃ K : Frag, (∀ a, K.lookup a = h.get? a) ∧ K.In h := by
  run_tac Mine.Sh.mark
  focus
    have e : ∀ a, List.lookup a ((List.range h.objs.size).filterMap fun b => (h.get? b).map fun o => (b, o)) = h.get? a := fun a => by
      rw [frag_aux]
      by_cases ha : a ∈ List.range h.objs.size
      · rw [if_pos ha]
      · rw [if_neg ha]
        have : h.objs.size ≤ a := Nat.not_lt.mp fun q => ha (List.mem_range.mpr q)
        rw [Heap.get?_none_of_le this]
    exact ⟨_, e, fun a o q => (e a).symm.trans q⟩
  run_tac Mine.Sh.fin
end

section -- K2
noncomputable def KMake (w : World) (h₀ : Heap) (bl : List (Addr × Obj)) (C : Addr) : Prop :=
  ∀ (dp un : Nat) (fr : Option (List Env)) (gd : Option (List Code)) (s : Shared) (Q E : Value → Shared → Prop) (x : Value), Sub h₀ s.heap → (∀ p ∈ bl, s.heap.get? p.1 = some p.2) → dp + 10 < recursionLimit → un + 50 < cLine →
    (∀ (k : Addr) (h' : Heap) (tk' : Nat), (∀ b o, s.heap.get? b = some o → h'.get? b = some o) → s.heap.get? k = none → (∃ dx, h'.get? k = some ⟨.ref C, some dx, .plain, #[some x]⟩ ∧ h'.get? dx = some (dictOf [] 0) ∧ s.heap.get? dx = none) → Q (.ref k) { s with heap := h', toks := tk' }) →
    wpAny (model prg w) (TP dp un fr gd) (call (.ref C) [x]) Q E s
noncomputable def KLt (w : World) (h₀ : Heap) (bl : List (Addr × Obj)) (C fc : Addr) : Prop :=
  ∀ (dp un : Nat) (fr : Option (List Env)) (gd : Option (List Code)) (s : Shared) (Q : Bool → Shared → Prop) (E : Value → Shared → Prop) (a b : Addr) (x y : Value) (dx dy : Addr) (bx : List (Addr × Obj)) (R : Int → Heap → Prop),
    Sub h₀ s.heap → (∀ p ∈ bl, s.heap.get? p.1 = some p.2) → (∀ p ∈ bx, s.heap.get? p.1 = some p.2 ∧ h₀.get? p.1 = none) → (∀ p ∈ bx, (∀ q ∈ bl, p.1 ≠ q.1) ∧ p.1 ≠ a ∧ p.1 ≠ b ∧ p.1 ≠ dx ∧ p.1 ≠ dy ∧ p.1 ≠ fc) → FnAt fc s.heap → handedIn x = true → handedIn y = true → s.heap.get? a = some ⟨.ref C, some dx, .plain, #[some x]⟩ → s.heap.get? dx = some (dictOf [] 0) → s.heap.get? b = some ⟨.ref C, some dy, .plain, #[some y]⟩ → s.heap.get? dy = some (dictOf [] 0) →
    dp + 20 < recursionLimit → un + 100 < cLine →
    (∀ (dp' un' : Nat) (fr' : Option (List Env)) (gd' : Option (List Code)) (h : Heap) (tk : Nat) (Q' E' : Value → Shared → Prop), dp' ≤ dp + 2 → un' ≤ un + 10 → (∀ b o, s.heap.get? b = some o → h.get? b = some o) →
      (∀ (r : Int) (t : Tok) (h' : Heap) (tk' : Nat), (∀ b o, (∀ p ∈ bx, p.1 ≠ b) → h.get? b = some o → h'.get? b = some o) → R r h' → Q' (.int r t) { s with heap := h', toks := tk' }) →
      wpAny (model prg w) (TP dp' un' fr' gd') (call (.ref fc) [x, y]) Q' E' { s with heap := h, toks := tk }) →
    (∀ (r : Int) (h' : Heap) (tk' : Nat), (∀ b o, (∀ p ∈ bx, p.1 ≠ b) → s.heap.get? b = some o → h'.get? b = some o) → R r h' → Q (decide (r < 0)) { s with heap := h', toks := tk' }) →
    wpAny (model prg w) (TP dp un fr gd) (keyLt' oneType' (.ref a) (.ref b)) Q E s
theorem newsDrop {g h h' : Heap} {L a : Addr} {o ot : Obj} (N : News g L h [(a, o), (57, ot)]) (hx : Heap.ExtBut 57 h h') (ne : @Ne Nat a 57) : News g L h' [(a, o)] := fun p hp => by
  cases List.mem_singleton.mp hp
  have n := N (a, o) (.head _)
  exact ⟨hx _ _ ne n.1, n.2⟩
theorem frHop {g h h' : Heap} {L : Addr} {m : Str → Option Value} {bx : List (Addr × Obj)} (F : Fr g L h m) (N : News g L h bx) (k : ∀ b o, (∀ p ∈ bx, p.1 ≠ b) → h.get? b = some o → h'.get? b = some o) : Fr g L h' m := by
  obtain ⟨oL, esL, epL, eL, rL⟩ := F.ns
  exact ⟨⟨oL, esL, epL, k _ _ (fun p hp => (N p hp).2.1) eL, rL⟩, fun b' o' e => k _ _ (fun p hp q => by rw [← q, (N p hp).2.2] at e; cases e) (F.keep _ _ e), F.above⟩
theorem lcons {P : Addr × Obj → Prop} {p : Addr × Obj} {l : List (Addr × Obj)} (h : P p) (t : ∀ q ∈ l, P q) : ∀ q ∈ p :: l, P q := fun q hq => by
  rcases List.mem_cons.mp hq with rfl | hq
  · exact h
  · exact t q hq
theorem lnil {P : Addr × Obj → Prop} : ∀ q ∈ ([] : List (Addr × Obj)), P q := fun _ h => nomatch h
theorem kFresh {h B Bn : Heap} {b : Addr} {ot : Obj} (kB : Heap.ExtBut 57 h B) (PB : B.get? 57 = some ot) (k : ∀ b o, B.get? b = some o → Bn.get? b = some o) (n : Bn.get? b = none) : h.get? b = none := by
  run_tac Mine.Sh.mark
  focus
    cases q : h.get? b with
    | none => rfl
    | some o =>
      by_cases hb : b = 57
      · subst hb; rw [k _ _ PB] at n; cases n
      · rw [k _ _ (kB _ _ hb q)] at n; cases n
  run_tac Mine.Sh.fin
local macro_rules | `(tactic| walk_at $k) => Mine.Tx.look k.getString "eval Name ==> (k_here; kc_free; (k_dflt (refine nameX_base (by with_reducible assumption) (by rfl) (by with_reducible assumption) (by with_reducible assumption) ?_)))
callWith ref ==> (k_here; k_dflt (refine callWith_F (fnAt_keep (by assumption) (Fr.keep (by assumption))) ?_))
And ==> ((with_reducible show FnAt _ _ ∧ _); k_dflt (refine ⟨fnAt_keep (by assumption) (Fr.keep (by assumption)), ?_⟩); (try dsimp only [List.nil_append, List.cons_append]))"
theorem cmp_to_key (w : World) (loose : List Str) (mean : ExcName → Option Value) (mg mb : Str → Option Value)
   (dp un : Nat) (fr : Option (List Env)) (gd : Option (List Code)) (s : Shared) (Q E : Value → Shared → Prop) (h₀ : Heap) (fc : Addr)
   (St : Sub h₀ s.heap) (Bs : Beside h₀ s.heap [(57, tabObj #[])]) (CH : CodeHd h₀ 61 57)
   (X : (Mine.hd.heap_39 w.params).In h₀) (T : Top topProg loose mean mg mb h₀)
   (hd : dp + 40 < recursionLimit) (hu : un + 200 < cLine)
   (hret : ∀ (C : Addr) (bl : List (Addr × Obj)) (h' : Heap) (tk' : Nat), (∀ b o, b ≠ 57 → s.heap.get? b = some o → h'.get? b = some o) → (∀ p ∈ bl, h'.get? p.1 = some p.2 ∧ s.heap.get? p.1 = none) → KMake w h₀ bl C → KLt w h₀ bl C fc → (∃ ps, h'.get? 57 = some (tabObj ps)) → Q (.ref C) { s with heap := h', toks := tk' }) :
   wpAny (model prg w) (TP dp un fr gd) (call (.ref 62) [.ref fc]) Q E s := by
  run_tac Mine.Sh.mark
  focus
    obtain ⟨hp, gn, dr, tk, os⟩ := s
    dsimp only at St Bs hret ⊢
    obtain ⟨g, Sg, S, hle, Bs, Cv⟩ := hideUp St Bs
    have T0 := T
    have X := X.keeps Sg.stays
    have T := T.keeps Sg.stays
    have CH := CH.keeps Sg.stays
    clear Sg St
    tb_rel
    k_steps
    rw [arm_exec_ClassDef]
    rename Fr _ _ _ _ => F'
    rename News _ _ _ _ => N'
    rename_i L1 hf1 tkf1 l1 o1 d1
    have hbc : mb (Str.ofString "__build_class__") = some (.builtin "__build_class__") := (T.builtins _ (by decide)).trans (by kernel_rfl!)
    refine wpAny_bind (m := evalAll _) (wpAny_pure ?_)
    refine wpAny_bind (wpAny_standAt ?_)
    refine wpAny_bind ?_
    unfold buildClassGuard
    refine wpAny_bind (wpAny_nsGet (T.keeps F'.keep).b ?_)
    rw [hbc]
    refine wpAny_pure ?_
    refine wpAny_bind (wpAny_holding (wpAny_bind ?_))
    refine evalArgs_plain ?_
    refine spliced_more (e := .Name (Str.ofString "object") ⟨77, 12, 77, 18⟩) (rest := []) (pos := ⟨77, 4, 98, 23⟩) ?_
    k_steps

    have N57 := N' (57, tabObj #[]) (by simp)
    have CH1 := CH.keeps F'.keep
    obtain ⟨vn, hnm⟩ : ∃ vn, Looks (model prg w) g (nsGet mainGlobals (Str.ofString "__name__")) (some vn) := ⟨_, looks_nsIn X (by rfl)⟩
    refine wpAny_bind (wpAny_standAt ?_)
    refine wpAny_holding ?_
    refine build_open (vn := vn) (clos := ?clos) (P := 57) (c := 61) (ps := #[]) (g := g) (mg := mg) (mb := mb) T ?q1 N57.2.2 ?hroom ?r1 ?r2 ?r3 ?q2 ?q3 ?r4 ?k3 ?k4 ?k5 ?r5 ?hnm ?k7 ?k8 ?k9 ?k10 ?k11 ?_
    case hroom => show dp + 1 < recursionLimit; omega
    case hnm => exact hnm
    case q1 => exact F'.keep
    case q2 => exact CH1.code N57.1 (by trivial)
    case q3 => exact CH1.tab N57.1
    case r1 => exact rfl
    case r2 => exact rfl
    case r3 => exact rfl
    case r4 => exact rfl
    case r5 => exact rfl
    case k3 => exact rfl
    case k4 => exact rfl
    case k5 => exact rfl
    case k7 => exact rfl
    case k8 => exact .inl rfl
    case k9 => exact rfl
    case k10 => exact rfl
    case k11 => exact rfl
    intro B h' ns c' P' bt frm tk' t1 t2 t3 u2 u3 x1 x2 x3 TB CB RB kB PB ebt nsm ns0 P'0 I
    refine wpAny_run (codeAny_body rfl rfl ?_) (by intro x; cases x)
    refine wpAny_execs_cons (wpAny_Assign_Name ?_)
    refine wpAny_eval_const rfl fun v tk5 hv => ?_
    obtain ⟨t5, rfl⟩ : ∃ t, v = .str (Str.ofString "cpy313.functools") t := hv
    refine storeCls I rfl rfl rfl (by kernel_rfl!) fun B1 h1 hx1 tx1 kk1 kB1 I1 => ?_
    clear I kk1
    dsimp only at I1 ⊢
    refine wpAny_execs_cons (wpAny_Assign_Name ?_)
    rw [arm_eval_List]
    refine wpAny_bind (wpAny_standAt ?_)
    refine wpAny_bind ?_
    refine spliced_more (e := .Constant (.str (Str.ofString "obj")) 0 ⟨79, 21, 79, 26⟩) (rest := []) (pos := ⟨79, 20, 79, 27⟩) ?_
    refine wpAny_eval_const rfl fun v tk6 hv => ?_
    obtain ⟨t6, rfl⟩ : ∃ t, v = .str (Str.ofString "obj") t := hv
    refine wpAny_pure ?_
    unfold newList
    refine wpAny_newObj_type ?_ (by size_fits)
    refine storeCls (I1.push _) rfl rfl rfl (by kernel_rfl!) fun B2 h2 hx2 tx2 kk2 kB2 I2 => ?_
    have eSl := kk2 _ _ I1.off.1 I1.off.2.1 (Heap.get?_push_size _ rfl)
    have nSl := I1.off.2.2
    generalize h1.objs.size = sl at eSl nSl I2 ⊢
    clear I1 kk2
    dsimp only at I2 ⊢
    have TB := (TB.keeps kB1).keeps kB2
    have CB := (CB.keeps kB1).keeps kB2
    refine wpAny_execs_cons ?_
    refine defCls (l := []) (clos := ?cl3) TB CB I2 ?n ?c ?e1 ?e2 ?e3 ?e4 ?e5 ?e6 ?e7 ?e8 ?_
    case c => exact rfl
    case n => exact rfl
    case e1 => exact rfl
    case e2 => exact rfl
    case e3 => exact rfl
    case e4 => exact rfl
    case e5 => exact rfl
    case e6 => kernel_rfl!
    case e7 => exact rfl
    case e8 => exact rfl
    intro B3 h3 f3 c3 ctv3 doc3 tk3 hx3 tx3 kB3 ef3 rec3 nf3 nc3 I3
    clear I2
    dsimp only at I3 ⊢
    have TB := TB.keeps kB3
    have CB := CB.keeps kB3
    refine wpAny_execs_cons ?_
    refine defCls (clos := ?cl4) TB CB I3 ?n ?c ?e1 ?e2 ?e3 ?e4 ?e5 ?e6 ?e7 ?e8 ?_
    case c => exact rfl
    case n => exact rfl
    case e1 => exact rfl
    case e2 => exact rfl
    case e3 => exact rfl
    case e4 => exact rfl
    case e5 => exact rfl
    case e6 => kernel_rfl!
    case e7 => exact rfl
    case e8 => exact rfl
    intro B4 h4 f4 c4 ctv4 doc4 tk4 hx4 tx4 kB4 ef4 rec4 nf4 nc4 I4
    clear I3
    dsimp only at I4 ⊢
    have TB := TB.keeps kB4
    have CB := CB.keeps kB4
    refine wpAny_execs_cons ?_
    refine defCls (clos := ?cl5) TB CB I4 ?n ?c ?e1 ?e2 ?e3 ?e4 ?e5 ?e6 ?e7 ?e8 ?_
    case c => exact rfl
    case n => exact rfl
    case e1 => exact rfl
    case e2 => exact rfl
    case e3 => exact rfl
    case e4 => exact rfl
    case e5 => exact rfl
    case e6 => kernel_rfl!
    case e7 => exact rfl
    case e8 => exact rfl
    intro B5 h5 f5 c5 ctv5 doc5 tk5 hx5 tx5 kB5 ef5 rec5 nf5 nc5 I5
    clear I4
    dsimp only at I5 ⊢
    have TB := TB.keeps kB5
    have CB := CB.keeps kB5
    refine wpAny_execs_cons ?_
    refine defCls (clos := ?cl6) TB CB I5 ?n ?c ?e1 ?e2 ?e3 ?e4 ?e5 ?e6 ?e7 ?e8 ?_
    case c => exact rfl
    case n => exact rfl
    case e1 => exact rfl
    case e2 => exact rfl
    case e3 => exact rfl
    case e4 => exact rfl
    case e5 => exact rfl
    case e6 => kernel_rfl!
    case e7 => exact rfl
    case e8 => exact rfl
    intro B6 h6 f6 c6 ctv6 doc6 tk6 hx6 tx6 kB6 ef6 rec6 nf6 nc6 I6
    clear I5
    dsimp only at I6 ⊢
    have TB := TB.keeps kB6
    have CB := CB.keeps kB6
    refine wpAny_execs_cons ?_
    refine defCls (clos := ?cl7) TB CB I6 ?n ?c ?e1 ?e2 ?e3 ?e4 ?e5 ?e6 ?e7 ?e8 ?_
    case c => exact rfl
    case n => exact rfl
    case e1 => exact rfl
    case e2 => exact rfl
    case e3 => exact rfl
    case e4 => exact rfl
    case e5 => exact rfl
    case e6 => kernel_rfl!
    case e7 => exact rfl
    case e8 => exact rfl
    intro B7 h7 f7 c7 ctv7 doc7 tk7 hx7 tx7 kB7 ef7 rec7 nf7 nc7 I7
    clear I6
    dsimp only at I7 ⊢
    have TB := TB.keeps kB7
    have CB := CB.keeps kB7
    refine wpAny_execs_cons ?_
    refine defCls (clos := ?cl8) TB CB I7 ?n ?c ?e1 ?e2 ?e3 ?e4 ?e5 ?e6 ?e7 ?e8 ?_
    case c => exact rfl
    case n => exact rfl
    case e1 => exact rfl
    case e2 => exact rfl
    case e3 => exact rfl
    case e4 => exact rfl
    case e5 => exact rfl
    case e6 => kernel_rfl!
    case e7 => exact rfl
    case e8 => exact rfl
    intro B8 h8 f8 c8 ctv8 doc8 tk8 hx8 tx8 kB8 ef8 rec8 nf8 nc8 I8
    clear I7
    dsimp only at I8 ⊢
    have TB := TB.keeps kB8
    have CB := CB.keeps kB8
    refine wpAny_execs_cons (wpAny_Assign_Name ?_)
    refine wpAny_eval_const rfl fun v tk9 hv => ?_
    obtain rfl : v = .none := hv
    refine storeCls I8 rfl rfl rfl (by kernel_rfl!) fun B9 h9 hx9 tx9 kk9 kB9 I9 => ?_
    clear I8 kk9
    dsimp only at I9 ⊢
    have TB := TB.keeps kB9
    refine wpAny_execs_nil ?_
    dsimp only
    refine ⟨_, _, I9.D, by kernel_rfl!, ?_⟩
    intro sa tx hx hh tk2 t0 ts kx esa Dn
    have Dn : hh.get? ns = some (dictOf [⟨x1, .str (Str.ofString "__module__") t1, .str (Str.ofString "cpy313.functools") t5⟩, ⟨x2, .str (Str.ofString "__qualname__") t2, .str (Str.ofString "cmp_to_key.<locals>.K") u2⟩,
      ⟨x3, .str (Str.ofString "__firstlineno__") t3, .int (77 : Nat) u3⟩, ⟨hx2, .str (Str.ofString "__slots__") tx2, .ref sl⟩, ⟨hx3, .str (Str.ofString "__init__") tx3, .ref f3⟩, ⟨hx4, .str (Str.ofString "__lt__") tx4, .ref f4⟩,
      ⟨hx5, .str (Str.ofString "__gt__") tx5, .ref f5⟩, ⟨hx6, .str (Str.ofString "__eq__") tx6, .ref f6⟩, ⟨hx7, .str (Str.ofString "__le__") tx7, .ref f7⟩, ⟨hx8, .str (Str.ofString "__ge__") tx8, .ref f8⟩, ⟨hx9, .str (Str.ofString "__hash__") tx9, .none⟩, ⟨hx, .str (Str.ofString "__static_attributes__") tx, .ref sa⟩] 12) := Dn.trans (by kernel_rfl!)
    have kT : ∀ b o, B9.get? b = some o → hh.get? b = some o := fun b o e => kx b o (fun q => by rw [q, I9.nN] at e; cases e) (I9.k b o e)
    have k89 : ∀ b o, B8.get? b = some o → hh.get? b = some o := fun b o e => kT b o (kB9 b o e)
    have k79 : ∀ b o, B7.get? b = some o → hh.get? b = some o := fun b o e => k89 b o (kB8 b o e)
    have k69 : ∀ b o, B6.get? b = some o → hh.get? b = some o := fun b o e => k79 b o (kB7 b o e)
    have k59 : ∀ b o, B5.get? b = some o → hh.get? b = some o := fun b o e => k69 b o (kB6 b o e)
    have k49 : ∀ b o, B4.get? b = some o → hh.get? b = some o := fun b o e => k59 b o (kB5 b o e)
    have k39 : ∀ b o, B3.get? b = some o → hh.get? b = some o := fun b o e => k49 b o (kB4 b o e)
    have k29 : ∀ b o, B2.get? b = some o → hh.get? b = some o := fun b o e => k39 b o (kB3 b o e)
    have k09 : ∀ b o, B.get? b = some o → hh.get? b = some o := fun b o e => k29 b o (kB2 b o (kB1 b o e))
    have kg9 : ∀ b o, g.get? b = some o → hh.get? b = some o := fun b o e => k09 b o (kB b o (fun q => by rw [q, N57.2.2] at e; cases e) (F'.keep b o e))
    have XH := X.keeps kg9
    refine type_call3 (by kernel_rfl!) (by kernel_rfl!) ?_
    intro A' R E' hR
    refine new_open Dn (k09 _ _ ebt) nsm (k29 _ _ eSl) ?hfn ⟨_, esa, rfl⟩ (fun C => looks_opaque XH (by rfl)) ?_
    case hfn =>
      intro f hf
      simp only [List.mem_cons, List.not_mem_nil, or_false] at hf
      rcases hf with rfl | rfl | rfl | rfl | rfl | rfl
      · exact ⟨_, k39 _ _ ef3, rfl⟩
      · exact ⟨_, k49 _ _ ef4, rfl⟩
      · exact ⟨_, k59 _ _ ef5, rfl⟩
      · exact ⟨_, k69 _ _ ef6, rfl⟩
      · exact ⟨_, k79 _ _ ef7, rfl⟩
      · exact ⟨_, k89 _ _ ef8, rfl⟩
    intro C dc de BC hC tkC x13 x14 t13 t14 kC nDe eDe IC
    refine hR C _ ⟨_, IC.ea, rfl⟩ ?_
    obtain ⟨tqe, eDe⟩ := eDe
    have kCh : ∀ b o, hh.get? b = some o → hC.get? b = some o := fun b o e => IC.k b o (kC b o e)
    have kF : Heap.ExtBut 57 _ hC := fun b o hb e => kCh b o (k09 b o (kB b o hb e))
    have Fc : Fr g _ hC _ := ⟨F'.ns.extBut kF N57.2.1.symm, fun b o e => kCh b o (kg9 b o e), F'.above⟩
    have Nc := newsDrop N' kF (by omega)
    have tab57 : ∃ ps, hC.get? 57 = some (tabObj ps) := ⟨_, kCh _ _ (k09 _ _ PB)⟩
    have eL1 : ∃ o, B.get? L1 = some o := by
      obtain ⟨oL, _, _, eL, _⟩ := F'.ns
      exact ⟨oL, kB L1 oL (show @Ne Nat L1 57 from by omega) eL⟩
    have lowB : ∀ b, B.get? b = none → hp.get? b = none ∧ b ≠ L1 := fun b n => by
      have n1 := kFresh kB PB (fun _ _ e => e) n
      refine ⟨?_, fun q => ?_⟩
      · cases q : hp.get? b with
        | none => rfl
        | some o =>
          rcases Cv _ _ q with q | q
          · rw [F'.keep _ _ q] at n1; cases n1
          · cases List.mem_singleton.mp q; rw [N57.1] at n1; cases n1
      · obtain ⟨o, e⟩ := eL1
        rw [q, e] at n; cases n
    have kh : ∀ b o, b ≠ 57 → hp.get? b = some o → hC.get? b = some o := fun b o hb e => by
      rcases Cv _ _ e with e | e
      · exact kCh _ _ (kg9 _ _ e)
      · cases List.mem_singleton.mp e; exact absurd rfl hb
    have f3n : hp.get? f3 = none ∧ f3 ≠ L1 := lowB _ (lowNone (fun b o e => kB2 b o (kB1 b o e)) nf3)
    have c3n : hp.get? c3 = none ∧ c3 ≠ L1 := lowB _ (lowNone (fun b o e => kB2 b o (kB1 b o e)) nc3)
    have f4n : hp.get? f4 = none ∧ f4 ≠ L1 := lowB _ (lowNone (fun b o e => kB3 b o (kB2 b o (kB1 b o e))) nf4)
    have c4n : hp.get? c4 = none ∧ c4 ≠ L1 := lowB _ (lowNone (fun b o e => kB3 b o (kB2 b o (kB1 b o e))) nc4)
    have hCn : hp.get? C = none ∧ C ≠ L1 := lowB _ (lowNone k09 (lowNone kC IC.na))
    have hdn : hp.get? dc = none ∧ dc ≠ L1 := lowB _ (lowNone k09 (lowNone kC IC.nd))
    have hden : hp.get? de = none ∧ de ≠ L1 := lowB _ (lowNone k09 nDe)
    have g3 := kCh _ _ (k39 _ _ ef3)
    have g4 := kCh _ _ (k49 _ _ ef4)
    obtain ⟨c3', oc3, vs3, tv3, q3, gc3, r3⟩ := rec3
    cases q3
    obtain ⟨c4', oc4, vs4, tv4, q4, gc4, r4⟩ := rec4
    cases q4
    have gc3 := kCh _ _ (k39 _ _ gc3)
    have gc4 := kCh _ _ (k49 _ _ gc4)
    have gde := IC.k _ _ eDe
    have gC := IC.ea
    have gd' := IC.ed
    have gcell := (Nc _ (.head _)).1
    have cel0 : hp.get? (L1 + 1) = none := by
      cases q : hp.get? (L1 + 1) with
      | none => rfl
      | some o =>
        rcases Cv _ _ q with q | q
        · have := (Nc _ (.head _)).2.2; rw [q] at this; cases this
        · have := congrArg Prod.fst (List.mem_singleton.mp q)
          exact absurd this (show ¬ (@Eq Nat (L1 + 1) 57) from by omega)
    have F'above := F'.above
    clear kT k89 k79 k69 k59 k49 k39 k29 k09 kg9 kB kB1 kB2 kB3 kB4 kB5 kB6 kB7 kB8 kB9 I9 TB CB RB kC eDe IC ef3 ef4 ef5 ef6 ef7 ef8 nf3 nf4 nf5 nf6 nf7 nf8 nc3 nc4 nc5 nc6 nc7 nc8 rec5 rec6 rec7 rec8 N57 CH1 eSl nSl esa ebt PB F' N' kCh kF lowB hR XH
    dsimp only at gC gd' gde gcell
    refine wpAny_bind (wpAny_of_eq (a := .ref C) (by rfl) ?_)
    refine wpAny_bind (wpAny_standAt ?_)
    refine wpAny_bind (wpAny_bindName (wpAny_storeName_local rfl Fc.ns fun hE nE sE => ?_))
    refine wpAny_pure ?_
    dsimp only
    refine wpAny_execs_cons ?_
    rw [arm_exec_Return]
    refine wpAny_bind (wpAny_standAt ?_)
    refine wpAny_bind ?_
    rw [arm_eval_Name]
    refine wpAny_bind (wpAny_standAt ?_)
    refine wpIfF (by kernel_rfl!) ?_
    refine wpAny_loadName_local rfl rfl nE (if_pos rfl) ?_
    refine wpAny_pure ?_
    dsimp only
    have sE : Heap.SameBut L1 hC hE := sE
    have aL : ∀ b o, hC.get? b = some o → hp.get? b = none ∧ b ≠ L1 → hE.get? (b, o).1 = some (b, o).2 ∧ hp.get? (b, o).1 = none := fun b o e n => ⟨sE.extBut _ _ n.2 e, n.1⟩
    refine hret C _ hE _ (fun b o hb e => ?_) (lcons (aL _ _ gC hCn) (lcons (aL _ _ gd' hdn) (lcons (aL _ _ gde hden) (lcons (aL _ _ g3 f3n) (lcons (aL _ _ gc3 c3n) (lcons (aL _ _ g4 f4n) (lcons (aL _ _ gc4 c4n) (lcons (aL _ _ gcell ⟨cel0, (show ¬ (@Eq Nat (L1 + 1) L1) from by omega)⟩) lnil)))))))) ?_ ?_ (let ⟨ps, e⟩ := tab57; ⟨ps, sE.extBut _ _ (show @Ne Nat 57 L1 from by omega) e⟩)
    · refine sE.extBut _ _ (fun q => ?_) (kh b o hb e)
      subst q
      rcases Cv _ _ e with q | q
      · exact absurd (Heap.lt_size q) (Nat.not_lt.mpr F'above)
      · exact hb (congrArg Prod.fst (List.mem_singleton.mp q))
    · clear hret aL sE nE Fc Nc kh f3n c3n f4n c4n hCn hdn hden g4 gc4 gcell cel0
      intro dp un fr gd s Q E x Sb hbl hdp hun hq
      obtain ⟨hp2, gn2, dr2, tk2, os2⟩ := s
      dsimp only at Sb hbl hq ⊢
      have bC := hbl _ (.head _)
      have bd := hbl _ (.tail _ (.head _))
      have bde := hbl _ (.tail _ (.tail _ (.head _)))
      have bf := hbl _ (.tail _ (.tail _ (.tail _ (.head _))))
      have bc := hbl _ (.tail _ (.tail _ (.tail _ (.tail _ (.head _)))))
      clear hbl gC gd' gde g3 gc3
      dsimp only at bC bd bde bf bc
      obtain ⟨K, eK, XK⟩ := frag_of hp2
      have KC := (eK C).trans bC
      have Kd := (eK dc).trans bd
      have hi : findIn K (.ref C) "__init__" = some (some (.ref f3)) := (findIn_K KC Kd (r := some (.ref f3)) (by kernel_rfl!)).trans rfl
      refine wpAny_call (make_core (makes_of XK (makes_K KC rfl)) (looks_findIn XK hi) (fun self => bind_fn XK self (by rw [typeIn_K ((eK f3).trans bf)])) (.inl rfl) ?_)
      have T2 := T0.keeps Sb.stays
      obtain ⟨hp3, eh3⟩ : ∃ hp3, hp3 = (hp2.push emptyDict).push (instObj C hp2.objs.size) := ⟨_, rfl⟩
      have S2 : Sub hp2 hp3 := ⟨fun b o e => by rw [eh3]; exact Heap.get?_push_of_some _ (Heap.get?_push_of_some _ e)⟩
      have hle2 : hp2.objs.size ≤ hp3.objs.size := by rw [eh3, Heap.size_push, Heap.size_push]; omega
      have Bs2 : Beside hp2 hp3 [(hp2.objs.size + 1, instObj C hp2.objs.size), (hp2.objs.size, emptyDict)] := by
        refine lcons ⟨?_, Heap.get?_none_of_le (Nat.le_succ _)⟩ (lcons ⟨?_, Heap.get?_none_of_le (Nat.le_refl _)⟩ lnil)
        · rw [eh3]
          have := Heap.get?_push_size (hp2.push emptyDict) (o := instObj C hp2.objs.size) rfl
          rw [Heap.size_push] at this
          exact this
        · rw [eh3]
          exact Heap.get?_push_of_some _ (Heap.get?_push_size _ rfl)
      rw [← eh3]
      obtain ⟨qq, pm3, dc3, ct3, bf, r32⟩ := hide_qual bf r3.2
      generalize hdx : hp2.objs.size = dx at Bs2 ⊢
      refine enterGX (binds := [(Str.ofString "self", .ref (dx + 1)), (Str.ofString "obj", x)]) T2 S2 hle2 Bs2 (S2.stays _ _ bf) rfl ⟨c3, oc3, vs3, tv3, rfl, S2.stays _ _ bc, r3.1, r32⟩ (show dp + 1 < recursionLimit from by omega) (BindsTo.of_eq rfl) (locs rfl) ?_ rfl rfl rfl (by decide)
      intro L' h' F' N' l1'
      k_steps
      have Kde := (eK de).trans bde
      refine set_slot F' XK N' (InstAt.of_news N' (.head _) (.tail _ (.head _))) ((findIn_K KC Kd (r := none) (by kernel_rfl!)).trans (by decide +kernel)) (plainOver_K KC) (taker_K KC Kd Kde (by kernel_rfl!)) (typeIn_K Kde) (slotIn_K KC Kde) (by decide) rfl rfl
        (.head (lcons (show ¬ (@Eq Nat dx (dx + 1)) from by omega) lnil)) fun h4 F4 N4 => ?_
      clear F' N'
      k_steps
      exact ⟨rfl, hq (dx + 1) h4 _ (fun b o e => F4.keep b o e) (Bs2 _ (.head _)).2 ⟨dx, (N4 _ (.head _)).1, (N4 _ (.tail _ (.head _))).1, (Bs2 _ (.tail _ (.head _))).2⟩⟩
    · clear hret aL sE nE Fc Nc kh f3n c3n f4n c4n hCn hdn hden g3 gc3 cel0
      intro dp un fr gd s Q E a b x y dx dy bx R Sb hbl hbx hbb hfc hhx hhy ha hdx hb hdy hdp hun hcall hq
      obtain ⟨hp2, gn2, dr2, tk2, os2⟩ := s
      dsimp only at Sb hbl hbx hfc ha hb hdx hdy hcall hq ⊢
      have bC := hbl _ (.head _)
      have bd := hbl _ (.tail _ (.head _))
      have bde := hbl _ (.tail _ (.tail _ (.head _)))
      have bf := hbl _ (.tail _ (.tail _ (.tail _ (.tail _ (.tail _ (.head _))))))
      have bc := hbl _ (.tail _ (.tail _ (.tail _ (.tail _ (.tail _ (.tail _ (.head _)))))))
      have bcell := hbl _ (.tail _ (.tail _ (.tail _ (.tail _ (.tail _ (.tail _ (.tail _ (.head _))))))))
      have nC := fun p hp => (hbb p hp).1 _ (.head _)
      have nd := fun p hp => (hbb p hp).1 _ (.tail _ (.head _))
      have nde := fun p hp => (hbb p hp).1 _ (.tail _ (.tail _ (.head _)))
      have nf := fun p hp => (hbb p hp).1 _ (.tail _ (.tail _ (.tail _ (.tail _ (.tail _ (.head _))))))
      have nc := fun p hp => (hbb p hp).1 _ (.tail _ (.tail _ (.tail _ (.tail _ (.tail _ (.tail _ (.head _)))))))
      have ncell := fun p hp => (hbb p hp).1 _ (.tail _ (.tail _ (.tail _ (.tail _ (.tail _ (.tail _ (.tail _ (.head _))))))))
      clear hbl gC gd' gde g4 gc4 gcell
      dsimp only at bC bd bde bf bc bcell nC nd nde nf nc ncell
      obtain ⟨g2, Sg2, S2, hle2, Bs2, Cv2⟩ := hideUp Sb hbx
      have up : ∀ b' o', (∀ p ∈ bx, p.1 ≠ b') → hp2.get? b' = some o' → g2.get? b' = some o' := fun b' o' n e => by
        rcases Cv2 _ _ e with q | q
        · exact q
        · exact absurd rfl (n _ q)
      have bC := up _ _ nC bC
      have bd := up _ _ nd bd
      have bde := up _ _ nde bde
      have bf := up _ _ nf bf
      have bc := up _ _ nc bc
      have bcell := up _ _ ncell bcell
      have ga := up _ _ (fun p hp => (hbb p hp).2.1) ha
      have gb := up _ _ (fun p hp => (hbb p hp).2.2.1) hb
      have gdx := up _ _ (fun p hp => (hbb p hp).2.2.2.1) hdx
      have gdy := up _ _ (fun p hp => (hbb p hp).2.2.2.2.1) hdy
      have Hf : FnAt fc g2 := let ⟨q1, q2, q3, q4, q5⟩ := hfc; ⟨q1, q2, q3, q4, up _ _ (fun p hp => (hbb p hp).2.2.2.2.2) q5⟩
      clear hfc
      clear nC nd nde nf nc ncell ha hb hdx hdy
      obtain ⟨K, eK, XK⟩ := frag_of g2
      have KC := (eK C).trans bC
      have Kd := (eK dc).trans bd
      have Kde := (eK de).trans bde
      have gets := fun (o : Addr) => (eK o)
      clear gets
      have T2 := T0.keeps Sg2.stays
      have X2 := XK.keeps S2.stays
      rw [keyLt'_oneType, oneLt'_eq]
      simp only [if_true]
      refine wpAny_bind (wpAny_cRoomFor (show un < cLine from by omega) ?_)
      refine wpAny_bind (ifBound_K X2 (⟨S2.stays _ _ ga, rfl, rfl, S2.stays _ _ gdx⟩ : InstAt hp2 a _ C (some (dictOf [] 0))) ((findIn_K KC Kd (r := some (.ref f4)) (by kernel_rfl!)).trans rfl) (isFn_K ((eK f4).trans bf) rfl) ?_)
      obtain ⟨qq, pm3, dc3, ct3, bf, r42⟩ := hide_qual bf r4.2
      have d1' : o1.data = .cell (some (.ref fc)) := d1
      clear d1
      refine wpAny_call ?_
      refine enterGX (binds := [(Str.ofString "self", .ref a), (Str.ofString "other", .ref b)]) T2 S2 hle2 Bs2 (S2.stays _ _ bf) rfl ⟨c4, oc4, vs4, tv4, rfl, S2.stays _ _ bc, r4.1, r42⟩ (show dp < recursionLimit from by omega) (BindsTo.of_eq rfl) (locs rfl) ?_ rfl rfl rfl (by decide)
      intro L' h' F' N' l1'
      k_steps
      refine get_slot F' XK (⟨F'.keep _ _ ga, rfl, rfl, F'.keep _ _ gdx⟩ : InstAt _ a _ C (some (dictOf [] 0))) (plainGet_K KC Kd (by kernel_rfl!) (by kernel_rfl!) _) (isCls_K KC) ((findIn_K KC Kd (r := some (.ref de)) (by kernel_rfl!)).trans rfl) (special_md Kde (by decide +kernel)) (takes_md Kde) (slotIn_K KC Kde) rfl hhx ?_
      k_steps
      refine get_slot F' XK (⟨F'.keep _ _ gb, rfl, rfl, F'.keep _ _ gdy⟩ : InstAt _ b _ C (some (dictOf [] 0))) (plainGet_K KC Kd (by kernel_rfl!) (by kernel_rfl!) _) (isCls_K KC) ((findIn_K KC Kd (r := some (.ref de)) (by kernel_rfl!)).trans rfl) (special_md Kde (by decide +kernel)) (takes_md Kde) (slotIn_K KC Kde) rfl hhy ?_
      k_steps
      refine hcall (dp + 1) _ _ _ _ _ _ _ (Nat.add_le_add_left (by decide) dp) (Nat.add_le_add_left (by decide) un) (fun b' o' e => ?_) fun r tr h5 tk5 k5 hR => ?_
      · rcases Cv2 _ _ e with q | q
        · exact F'.keep _ _ q
        · exact (N' _ q).1
      have F5 := frHop F' N' k5
      have N5 : News g2 L' h5 [] := News.nil
      have kq : ∀ b' o', (∀ p ∈ bx, p.1 ≠ b') → hp2.get? b' = some o' → h5.get? b' = some o' := fun b' o' n e => k5 _ _ n (by
        rcases Cv2 _ _ e with q | q
        · exact F'.keep _ _ q
        · exact (N' _ q).1)
      clear F' N' hcall
      k_steps
      exact wpAny_truthy_bool (hq r h5 _ kq hR)
  run_tac Mine.Sh.fin
end

section -- S0
noncomputable def kasRun {α : Type} (lt : Nat → Nat → Bool) : KasT α → α
  | .ret a => a
  | .ask i j k => kasRun lt (k (lt i j))
noncomputable def kasIn {α : Type} (lt : Nat → Nat → Bool) (n : Nat) : KasT α → Prop
  | .ret _ => True
  | .ask i j k => i < n ∧ j < n ∧ kasIn lt n (k (lt i j))
theorem kasWp_run {α : Type} {cmp : Nat → Nat → (Bool → Shared → Prop) → Shared → Prop} {lt : Nat → Nat → Bool} {n : Nat} {inv : Shared → Prop} {G : α → Shared → Prop}
    (hc : ∀ i j C s, i < n → j < n → inv s → (∀ s', inv s' → C (lt i j) s') → cmp i j C s) : ∀ (t : KasT α) (s : Shared), kasIn lt n t → inv s → (∀ s', inv s' → G (kasRun lt t) s') → t.kasWp cmp G s
  | .ret a, s, _, hi, h => h s hi
  | .ask i j k, s, hn, hi, h => hc i j _ s hn.1 hn.2.1 hi fun s' hi' => kasWp_run hc (k (lt i j)) s' hn.2.2 hi' h
theorem kasRun_bind {α β : Type} (lt : Nat → Nat → Bool) {f : α → KasT β} : ∀ t : KasT α, kasRun lt (t.bind f) = kasRun lt (f (kasRun lt t))
  | .ret a => rfl
  | .ask i j k => kasRun_bind lt (k (lt i j))
theorem kasIn_bind {α β : Type} {lt : Nat → Nat → Bool} {n : Nat} {f : α → KasT β} : ∀ t : KasT α, kasIn lt n t → kasIn lt n (f (kasRun lt t)) → kasIn lt n (t.bind f)
  | .ret a, _, h => h
  | .ask i j k, h, h2 => ⟨h.1, h.2.1, kasIn_bind (k (lt i j)) h.2.2 h2⟩
theorem place_run (lt : Nat → Nat → Bool) (p : Array Nat) (k : Nat) : ∀ (f l r : Nat), l ≤ r → r - l ≤ f →
    (∀ i j, l ≤ i → i ≤ j → j < r → lt (p.getD k 0) (p.getD i 0) = true → lt (p.getD k 0) (p.getD j 0) = true) →
    l ≤ kasRun lt (kas_place p k f l r) ∧ kasRun lt (kas_place p k f l r) ≤ r ∧ (∀ i, l ≤ i → i < kasRun lt (kas_place p k f l r) → lt (p.getD k 0) (p.getD i 0) = false) ∧
      (∀ i, kasRun lt (kas_place p k f l r) ≤ i → i < r → lt (p.getD k 0) (p.getD i 0) = true)
  | 0, l, r, h1, h2, _ => by
    have : l = r := by omega
    subst this
    refine ⟨Nat.le_refl _, Nat.le_refl _, fun i a b => ?_, fun i a b => ?_⟩
    · exact absurd (Nat.lt_of_le_of_lt a b) (Nat.lt_irrefl _)
    · exact absurd (Nat.lt_of_le_of_lt a b) (Nat.lt_irrefl _)
  | f + 1, l, r, h1, h2, hm => by
    unfold kas_place
    by_cases hlr : l ≥ r
    · have : l = r := by omega
      subst this
      rw [if_pos hlr]
      refine ⟨Nat.le_refl _, Nat.le_refl _, fun i a b => ?_, fun i a b => ?_⟩
      · exact absurd (Nat.lt_of_le_of_lt a b) (Nat.lt_irrefl _)
      · exact absurd (Nat.lt_of_le_of_lt a b) (Nat.lt_irrefl _)
    · rw [if_neg hlr]
      have m1 : l ≤ (l + r) / 2 := by omega
      have m2 : (l + r) / 2 < r := by omega
      generalize (l + r) / 2 = m at m1 m2
      unfold kasRun
      cases hc : lt (p.getD k 0) (p.getD m 0) with
      | true =>
        simp only [if_true]
        obtain ⟨a, b, c, d⟩ := place_run lt p k f l m m1 (by omega) (fun i j h3 h4 h5 => hm i j h3 h4 (by omega))
        refine ⟨a, by omega, c, fun i h3 h4 => ?_⟩
        by_cases him : i < m
        · exact d i h3 him
        · exact hm m i m1 (by omega) h4 hc
      | false =>
        simp only [Bool.false_eq_true, if_false]
        obtain ⟨a, b, c, d⟩ := place_run lt p k f (m + 1) r (by omega) (by omega) (fun i j h3 h4 h5 => hm i j (by omega) h4 h5)
        refine ⟨by omega, b, fun i h3 h4 => ?_, d⟩
        by_cases him : m + 1 ≤ i
        · exact c i him h4
        · cases hi : lt (p.getD k 0) (p.getD i 0) with
          | false => rfl
          | true => rw [hm i m h3 (by omega) m2 hi] at hc; cases hc
end

section -- S1
noncomputable def at0 (p : Array Nat) (x : Nat) : Nat := p.getD x 0
theorem at0_eq (p : Array Nat) (x : Nat) : at0 p x = (p[x]?).getD 0 := by
  unfold at0; rw [Array.getD_eq_getD_getElem?]
theorem at0_rev {p : Array Nat} {i j : Nat} (hj : j ≤ p.size) (k : Nat) : at0 (kas_rev p i j) k = if i ≤ k ∧ k < j then at0 p (i + j - 1 - k) else at0 p k := by
  run_tac Mine.Sh.mark
  focus
    rw [at0_eq, at0_eq, at0_eq]
    unfold kas_rev
    rw [getElem?_mirror_all hj]
    split <;> rfl
  run_tac Mine.Sh.fin
theorem rev_size (p : Array Nat) (i j : Nat) : (kas_rev p i j).size = p.size := mirror_size _ _ _ _
theorem at0_bubble {p : Array Nat} {k d : Nat} (hs : k < p.size) (hd : d ≤ k) (x : Nat) : at0 (bubble p k d) x = if x = k - d then at0 p k else if k - d < x ∧ x ≤ k then at0 p (x - 1) else at0 p x := by
  run_tac Mine.Sh.mark
  focus
    rw [at0_eq, at0_eq, at0_eq, at0_eq, getElem?_bubble hs d hd]
    split
    · rfl
    · split <;> rfl
  run_tac Mine.Sh.fin
section
variable (rk : Nat → Int)
noncomputable def ltR (i j : Nat) : Bool := decide (rk i < rk j)
noncomputable def Ord (i j : Nat) : Prop := rk i < rk j ∨ (rk i = rk j ∧ i < j)
structure Run (n k : Nat) (p : Array Nat) : Prop where
  sz : p.size = n
  le : k ≤ n
  low : ∀ i, i < k → at0 p i < k
  high : ∀ i, k ≤ i → i < n → at0 p i = i
  ord : ∀ i j, i < j → j < k → Ord rk (at0 p i) (at0 p j)
theorem Run.rank {n k : Nat} {p : Array Nat} (R : Run rk n k p) {i j : Nat} (h : i ≤ j) (hj : j < k) : rk (at0 p i) ≤ rk (at0 p j) := by
  run_tac Mine.Sh.mark
  focus
    rcases Nat.lt_or_eq_of_le h with h | h
    · rcases R.ord i j h hj with h | h
      · exact Int.le_of_lt h
      · exact Int.le_of_eq h.1
    · subst h; exact Int.le_refl _
  run_tac Mine.Sh.fin
theorem Run.all {n k : Nat} {p : Array Nat} (R : Run rk n k p) {i : Nat} (h : i < n) : at0 p i < n := by
  run_tac Mine.Sh.mark
  focus
    by_cases hk : i < k
    · exact Nat.lt_of_lt_of_le (R.low i hk) R.le
    · rw [R.high i (Nat.le_of_not_lt hk) h]; exact h
  run_tac Mine.Sh.fin
theorem place_in (lt : Nat → Nat → Bool) (n : Nat) (p : Array Nat) (k : Nat) (hk : at0 p k < n) : ∀ (f l r : Nat), (∀ i, i < r → at0 p i < n) → kasIn lt n (kas_place p k f l r)
  | 0, l, r, _ => trivial
  | f + 1, l, r, h => by
    unfold kas_place
    by_cases hlr : l ≥ r
    · rw [if_pos hlr]; trivial
    · rw [if_neg hlr]
      refine ⟨hk, h _ (by omega), ?_⟩
      cases lt (p.getD k 0) (p.getD ((l + r) / 2) 0) with
      | true => exact place_in lt n p k hk f l _ fun i hi => h i (by omega)
      | false => exact place_in lt n p k hk f _ r h
theorem bin_run (n : Nat) : ∀ (f : Nat) (p : Array Nat) (k : Nat), Run rk n k p → f + k = n → 
    kasIn (ltR rk) n (kas_bin f p k) ∧ Run rk n n (kasRun (ltR rk) (kas_bin f p k))
  | 0, p, k, R, hf => by
    have : k = n := by omega
    subst this
    exact ⟨trivial, R⟩
  | f + 1, p, k, R, hf => by
    have hkn : k < n := by omega
    have pk : at0 p k = k := R.high k (Nat.le_refl _) hkn
    obtain ⟨a, b, c, d⟩ := place_run (ltR rk) p k k 0 k (Nat.zero_le _) (by omega) (fun i j h3 h4 h5 h6 => by
      have h1 := R.rank (rk := rk) h4 h5
      unfold ltR at h6 ⊢
      have h6 := of_decide_eq_true h6
      exact decide_eq_true (Int.lt_of_lt_of_le h6 h1))
    unfold kas_bin
    have hin := place_in (ltR rk) n p k (R.all (rk := rk) hkn) k 0 k (fun i hi => R.all (rk := rk) (Nat.lt_trans hi hkn))
    rw [kasRun_bind]
    obtain ⟨l, hl⟩ : ∃ l, kasRun (ltR rk) (kas_place p k k 0 k) = l := ⟨_, rfl⟩
    rw [hl] at a b c d
    rw [hl]
    have c' : ∀ i, i < l → rk (at0 p i) ≤ rk k := fun i hi => by
      have := c i (Nat.zero_le _) hi
      have := of_decide_eq_false this
      change ¬ (rk (at0 p k) < rk (at0 p i)) at this
      rw [pk] at this
      exact Int.not_lt.mp this
    have d' : ∀ i, l ≤ i → i < k → rk k < rk (at0 p i) := fun i hi hi2 => by
      have := d i hi hi2
      have := of_decide_eq_true this
      change (rk (at0 p k) < rk (at0 p i)) at this
      rw [pk] at this
      exact this
    have ek : k - (k - l) = l := by omega
    have q := at0_bubble (p := p) (k := k) (d := k - l) (by rw [R.sz]; exact hkn) (Nat.sub_le _ _)
    rw [ek, pk] at q
    have R2 : Run rk n (k + 1) (bubble p k (k - l)) := by
      refine ⟨(bubble_size _ _ _).trans R.sz, hkn, fun i hi => ?_, fun i h1 h2 => ?_, fun i j h1 h2 => ?_⟩
      · rw [q]
        split
        · omega
        · split
          · have := R.low (i - 1) (by omega); omega
          · have := R.low i (by omega); omega
      · rw [q, if_neg (by omega), if_neg (by omega)]
        exact R.high i (by omega) h2
      · rw [q i, q j]
        by_cases hj : j = l
        · subst hj
          rw [if_neg (by omega), if_neg (by omega), if_pos rfl]
          have h3 := c' i h1
          have h4 := R.low i (by omega)
          unfold Ord
          omega
        · rw [if_neg hj]
          by_cases hi : i = l
          · subst hi
            rw [if_pos rfl, if_pos (by omega)]
            exact .inl (d' (j - 1) (by omega) (by omega))
          · rw [if_neg hi]
            by_cases hjl : l < j ∧ j ≤ k
            · rw [if_pos hjl]
              by_cases hil : l < i ∧ i ≤ k
              · rw [if_pos hil]; exact R.ord _ _ (by omega) (by omega)
              · rw [if_neg hil]; exact R.ord _ _ (by omega) (by omega)
            · rw [if_neg hjl]
              rw [if_neg (by omega)]; exact R.ord _ _ h1 (by omega)
    obtain ⟨i1, i2⟩ := bin_run n f (bubble p k (k - l)) (k + 1) R2 (by omega)
    refine ⟨?_, i2⟩
    refine kasIn_bind _ hin ?_
    rw [hl]
    exact i1
theorem asc_run (n : Nat) (p : Array Nat) (hall : ∀ i, i < n → at0 p i < n) : ∀ (f k : Nat), 1 ≤ k → f + k = n →
    kasIn (ltR rk) n (kas_asc p f k) ∧ k ≤ kasRun (ltR rk) (kas_asc p f k) ∧ kasRun (ltR rk) (kas_asc p f k) ≤ n ∧
      (∀ i, k ≤ i → i < kasRun (ltR rk) (kas_asc p f k) → rk (at0 p (i - 1)) ≤ rk (at0 p i)) ∧
      (kasRun (ltR rk) (kas_asc p f k) < n → rk (at0 p (kasRun (ltR rk) (kas_asc p f k))) < rk (at0 p (kasRun (ltR rk) (kas_asc p f k) - 1)))
  | 0, k, h1, h2 => by
    refine ⟨trivial, Nat.le_refl _, ?_, fun i a b => ?_, fun h => ?_⟩
    · show k ≤ n; omega
    · exact absurd (Nat.lt_of_le_of_lt a b) (Nat.lt_irrefl _)
    · exact absurd (show k < n from h) (by omega)
  | f + 1, k, h1, h2 => by
    unfold kas_asc
    unfold kasRun
    cases hc : ltR rk (p.getD k 0) (p.getD (k - 1) 0) with
    | true =>
      simp only [if_true]
      refine ⟨⟨hall _ (by omega), hall _ (by omega), ?_⟩, Nat.le_refl _, by show k ≤ n; omega, fun i a b => ?_, fun h => ?_⟩
      · rw [hc]; simp only [if_true]; trivial
      · exact absurd (Nat.lt_of_le_of_lt a b) (Nat.lt_irrefl _)
      · exact of_decide_eq_true hc
    | false =>
      simp only [Bool.false_eq_true, if_false]
      obtain ⟨a, b, c, d, e⟩ := asc_run n p hall f (k + 1) (by omega) (by omega)
      refine ⟨⟨hall _ (by omega), hall _ (by omega), ?_⟩, by omega, c, fun i h3 h4 => ?_, e⟩
      · rw [hc]; simp only [Bool.false_eq_true, if_false]; exact a
      · by_cases hi : i = k
        · subst hi
          exact Int.not_lt.mp (of_decide_eq_false hc)
        · exact d i (by omega) h4
theorem Run.asc {n k : Nat} {p : Array Nat} (R : Run rk n k p) (h1 : 1 ≤ k) {m : Nat} (hm : k ≤ m) (hmn : m ≤ n) (h : ∀ i, k ≤ i → i < m → rk (at0 p (i - 1)) ≤ rk (at0 p i)) : Run rk n m p := by
  run_tac Mine.Sh.mark
  focus
    have step : ∀ d m, m = k + d → m ≤ n → (∀ i, k ≤ i → i < m → rk (at0 p (i - 1)) ≤ rk (at0 p i)) → Run rk n m p := by
      intro d
      induction d with
      | zero => intro m e _ _; subst e; exact R
      | succ d ih =>
        intro m e hm h
        have R2 := ih (k + d) rfl (by omega) fun i a b => h i a (by omega)
        subst e
        have pk : at0 p (k + d) = k + d := R2.high _ (Nat.le_refl _) (by omega)
        have hl := h (k + d) (by omega) (by omega)
        rw [pk] at hl
        refine ⟨R2.sz, hm, fun i hi => ?_, fun i a b => R2.high i (by omega) b, fun i j a b => ?_⟩
        · by_cases hi2 : i < k + d
          · have := R2.low i hi2; omega
          · have : i = k + d := by omega
            subst this; omega
        · by_cases hj : j < k + d
          · exact R2.ord i j a hj
          · have : j = k + d := by omega
            subst this
            rw [pk]
            have h4 := R2.rank (rk := rk) (i := i) (j := k + d - 1) (by omega) (by omega)
            have h5 := R2.low i (by omega)
            unfold Ord
            omega
    exact step (m - k) m (by omega) hmn h
  run_tac Mine.Sh.fin
structure Down (n k q : Nat) (p : Array Nat) : Prop where
  sz : p.size = n
  le : k ≤ n
  low : ∀ i, i < k → at0 p i < k
  high : ∀ i, k ≤ i → i < n → at0 p i = i
  qk : q + 1 ≤ k
  old : ∀ i j, i < j → j < k - (q + 1) → Ord rk (at0 p j) (at0 p i)
  mid : ∀ i j, i < k - (q + 1) → k - (q + 1) ≤ j → j < k → rk (at0 p j) < rk (at0 p i)
  eq : ∀ i j, k - (q + 1) ≤ i → i < j → j < k → rk (at0 p i) = rk (at0 p j) ∧ at0 p i < at0 p j
theorem Down.all {n k q : Nat} {p : Array Nat} (R : Down rk n k q p) {i : Nat} (h : i < n) : at0 p i < n := by
  run_tac Mine.Sh.mark
  focus
    by_cases hk : i < k
    · exact Nat.lt_of_lt_of_le (R.low i hk) R.le
    · rw [R.high i (Nat.le_of_not_lt hk) h]; exact h
  run_tac Mine.Sh.fin
theorem Down.turn {n k q : Nat} {p : Array Nat} (R : Down rk n k q p) : (∀ i j, i < j → j < k → Ord rk (at0 (kas_rev p (k - (q + 1)) k) j) (at0 (kas_rev p (k - (q + 1)) k) i)) ∧
    (∀ i, i < k → at0 (kas_rev p (k - (q + 1)) k) i < k) ∧ (∀ i, k ≤ i → i < n → at0 (kas_rev p (k - (q + 1)) k) i = i) ∧ 
    (∀ i, i < k → ∃ j, j < k ∧ (j = i ∨ rk (at0 p j) = rk (at0 p i)) ∧ at0 (kas_rev p (k - (q + 1)) k) i = at0 p j) := by
  run_tac Mine.Sh.mark
  focus
    have hk : k ≤ p.size := by rw [R.sz]; exact R.le
    have hq := R.qk
    have e := at0_rev (p := p) (i := k - (q + 1)) hk
    refine ⟨fun i j h1 h2 => ?_, fun i h => ?_, fun i h1 h2 => ?_, fun i h => ?_⟩
    · rw [e i, e j]
      by_cases hj : k - (q + 1) ≤ j
      · rw [if_pos ⟨hj, h2⟩]
        by_cases hi : k - (q + 1) ≤ i
        · rw [if_pos ⟨hi, by omega⟩]
          have := R.eq (k - (q + 1) + k - 1 - j) (k - (q + 1) + k - 1 - i) (by omega) (by omega) (by omega)
          exact .inr this
        · rw [if_neg (by omega)]
          exact .inl (R.mid _ _ (by omega) (by omega) (by omega))
      · rw [if_neg (by omega), if_neg (by omega)]
        exact R.old _ _ h1 (by omega)
    · rw [e]
      split
      · exact R.low _ (by omega)
      · exact R.low _ h
    · rw [e, if_neg (by omega)]; exact R.high _ h1 h2
    · rw [e]
      split
      · next hi =>
        refine ⟨_, ?_, .inr ?_, rfl⟩
        · omega
        · rcases Nat.lt_trichotomy (k - (q + 1) + k - 1 - i) i with h | h | h
          · exact (R.eq _ _ (by omega) h (by omega)).1
          · rw [h]
          · exact (R.eq _ _ (by omega) h (by omega)).1.symm
      · exact ⟨i, h, .inl rfl, rfl⟩
  run_tac Mine.Sh.fin
theorem rev_one (p : Array Nat) (k : Nat) (h : 1 ≤ k) : kas_rev p (k - 1) k = p := by
  run_tac Mine.Sh.mark
  focus
    unfold kas_rev
    have : (k - (k - 1)) / 2 = 0 := by omega
    rw [this]; rfl
  run_tac Mine.Sh.fin
theorem Down.lower {n k q : Nat} {p : Array Nat} (R : Down rk n k q p) (hk : k < n) (hl : rk (at0 p k) < rk (at0 p (k - 1))) : Down rk n (k + 1) 0 (kas_rev p (k - (q + 1)) k) := by
  run_tac Mine.Sh.mark
  focus
    obtain ⟨a, b, c, d⟩ := R.turn (rk := rk)
    have hq := R.qk
    have lo : ∀ i, i < k → rk (at0 p (k - 1)) ≤ rk (at0 p i) := fun i hi => by
      by_cases h1 : i < k - (q + 1)
      · exact Int.le_of_lt (R.mid i (k - 1) h1 (by omega) (by omega))
      · by_cases h2 : i = k - 1
        · subst h2; exact Int.le_refl _
        · exact Int.le_of_eq (R.eq i (k - 1) (by omega) (by omega) (by omega)).1.symm
    have pk := R.high k (Nat.le_refl _) hk
    have ck := c k (Nat.le_refl _) hk
    have lo2 : ∀ i, i < k → rk k < rk (at0 (kas_rev p (k - (q + 1)) k) i) := fun i hi => by
      obtain ⟨j, hj, hj2, e⟩ := d i hi
      have := lo j hj
      rw [pk] at hl
      rw [e]; omega
    refine ⟨(rev_size _ _ _).trans R.sz, hk, fun i hi => ?_, fun i h1 h2 => c i (by omega) h2, by omega, fun i j h1 h2 => a i j h1 (by omega), fun i j h1 h2 h3 => ?_, fun i j h1 h2 h3 => ?_⟩
    · by_cases h : i < k
      · have := b i h; omega
      · have : i = k := by omega
        subst this; omega
    · have : j = k := by omega
      subst this
      rw [ck]
      exact lo2 i (by omega)
    · omega
  run_tac Mine.Sh.fin
theorem Down.same {n k q : Nat} {p : Array Nat} (R : Down rk n k q p) (hk : k < n) (hl : rk (at0 p k) = rk (at0 p (k - 1))) : Down rk n (k + 1) (q + 1) p := by
  run_tac Mine.Sh.mark
  focus
    have pk := R.high k (Nat.le_refl _) hk
    have hq := R.qk
    have e : k + 1 - (q + 1 + 1) = k - (q + 1) := by omega
    refine ⟨R.sz, hk, fun i hi => ?_, fun i h1 h2 => R.high i (by omega) h2, by omega, fun i j h1 h2 => R.old i j h1 (by omega), fun i j h1 h2 h3 => ?_, fun i j h1 h2 h3 => ?_⟩
    · by_cases h : i < k
      · have := R.low i h; omega
      · have : i = k := by omega
        subst this; omega
    · by_cases hj : j < k
      · exact R.mid i j (by omega) (by omega) hj
      · have : j = k := by omega
        subst this
        rw [hl]
        exact R.mid i _ (by omega) (by omega) (by omega)
    · by_cases hj : j < k
      · exact R.eq i j (by omega) h2 hj
      · have : j = k := by omega
        subst this
        refine ⟨?_, ?_⟩
        · rw [hl]
          by_cases h4 : i = j - 1
          · subst h4; rfl
          · exact (R.eq i (j - 1) (by omega) (by omega) (by omega)).1
        · have := R.low i h2
          omega
  run_tac Mine.Sh.fin
theorem desc_run (n : Nat) : ∀ (f : Nat) (p : Array Nat) (k q : Nat), Down rk n k q p → f + k = n →
    kasIn (ltR rk) n (kas_desc f p k q) ∧ Down rk n (kasRun (ltR rk) (kas_desc f p k q)).2.1 (kasRun (ltR rk) (kas_desc f p k q)).2.2 (kasRun (ltR rk) (kas_desc f p k q)).1
  | 0, p, k, q, R, _ => ⟨trivial, R⟩
  | f + 1, p, k, q, R, hf => by
    have hq := R.qk
    have hk : k < n := by omega
    unfold kas_desc
    unfold kasRun
    unfold kasIn
    refine ⟨⟨R.all (rk := rk) hk, R.all (rk := rk) (i := k - 1) (by omega), ?_⟩, ?_⟩
    · cases hc : ltR rk (p.getD k 0) (p.getD (k - 1) 0) with
      | true =>
        simp only [if_true]
        have R2 := R.lower (rk := rk) hk (of_decide_eq_true hc)
        split
        · exact (desc_run n f _ (k + 1) 0 R2 (by omega)).1
        · have : q = 0 := by omega
          subst this
          rw [rev_one p k (by omega)] at R2
          exact (desc_run n f _ (k + 1) 0 R2 (by omega)).1
      | false =>
        simp only [Bool.false_eq_true, if_false]
        unfold kasIn
        refine ⟨R.all (rk := rk) (i := k - 1) (by omega), R.all (rk := rk) hk, ?_⟩
        cases hd : ltR rk (p.getD (k - 1) 0) (p.getD k 0) with
        | true => simp only [if_true]; trivial
        | false =>
          simp only [Bool.false_eq_true, if_false]
          exact (desc_run n f p (k + 1) (q + 1) (R.same (rk := rk) hk (Int.le_antisymm (Int.not_lt.mp (of_decide_eq_false hd)) (Int.not_lt.mp (of_decide_eq_false hc)))) (by omega)).1
    · cases hc : ltR rk (p.getD k 0) (p.getD (k - 1) 0) with
      | true =>
        simp only [if_true]
        have R2 := R.lower (rk := rk) hk (of_decide_eq_true hc)
        split
        · exact (desc_run n f _ (k + 1) 0 R2 (by omega)).2
        · have : q = 0 := by omega
          subst this
          rw [rev_one p k (by omega)] at R2
          exact (desc_run n f _ (k + 1) 0 R2 (by omega)).2
      | false =>
        simp only [Bool.false_eq_true, if_false]
        unfold kasRun
        cases hd : ltR rk (p.getD (k - 1) 0) (p.getD k 0) with
        | true => simp only [if_true]; exact R
        | false =>
          simp only [Bool.false_eq_true, if_false]
          exact (desc_run n f p (k + 1) (q + 1) (R.same (rk := rk) hk (Int.le_antisymm (Int.not_lt.mp (of_decide_eq_false hd)) (Int.not_lt.mp (of_decide_eq_false hc)))) (by omega)).2
theorem tail3_run {n k : Nat} {p : Array Nat} (sz : p.size = n) (le : k ≤ n) (h1 : 1 ≤ k) (ord : ∀ i j, i < j → j < k → Ord rk (at0 p j) (at0 p i)) (low : ∀ i, i < k → at0 p i < k) (high : ∀ i, k ≤ i → i < n → at0 p i = i) :
    kasIn (ltR rk) n (kas_tail3 k n p) ∧ Run rk n (kasRun (ltR rk) (kas_tail3 k n p)).1 (kasRun (ltR rk) (kas_tail3 k n p)).2 ∧ 1 ≤ (kasRun (ltR rk) (kas_tail3 k n p)).1 := by
  run_tac Mine.Sh.mark
  focus
    have e := at0_rev (p := p) (i := 0) (j := k) (by rw [sz]; exact le)
    have R : Run rk n k (kas_rev p 0 k) := by
      refine ⟨(rev_size _ _ _).trans sz, le, fun i hi => ?_, fun i h1 h2 => ?_, fun i j h1 h2 => ?_⟩
      · rw [e, if_pos ⟨Nat.zero_le _, hi⟩]; exact low _ (by omega)
      · rw [e, if_neg (by omega)]; exact high _ h1 h2
      · rw [e i, e j, if_pos ⟨Nat.zero_le _, by omega⟩, if_pos ⟨Nat.zero_le _, h2⟩]
        exact ord _ _ (by omega) (by omega)
    unfold kas_tail3
    rw [kasRun_bind]
    obtain ⟨a, b, c, d, _⟩ := asc_run rk n (kas_rev p 0 k) (fun i hi => R.all (rk := rk) hi) (n - k) k h1 (by omega)
    refine ⟨kasIn_bind _ a trivial, R.asc (rk := rk) h1 b c d, Nat.le_trans h1 b⟩
  run_tac Mine.Sh.fin
theorem Down.end3 {n k q : Nat} {p : Array Nat} (R : Down rk n k q p) : kasIn (ltR rk) n (if q > 0 then kas_tail3 k n (kas_rev p (k - (q + 1)) k) else kas_tail3 k n p) ∧
    Run rk n (kasRun (ltR rk) (if q > 0 then kas_tail3 k n (kas_rev p (k - (q + 1)) k) else kas_tail3 k n p)).1 (kasRun (ltR rk) (if q > 0 then kas_tail3 k n (kas_rev p (k - (q + 1)) k) else kas_tail3 k n p)).2 ∧
    1 ≤ (kasRun (ltR rk) (if q > 0 then kas_tail3 k n (kas_rev p (k - (q + 1)) k) else kas_tail3 k n p)).1 := by
  run_tac Mine.Sh.mark
  focus
    obtain ⟨a, b, c, d⟩ := R.turn (rk := rk)
    have hq := R.qk
    by_cases h : q > 0
    · simp only [h, if_true]
      exact tail3_run rk ((rev_size _ _ _).trans R.sz) R.le (by omega) a b c
    · have : q = 0 := by omega
      subst this
      simp only [h, if_false]
      rw [rev_one p k (by omega)] at a b c
      exact tail3_run rk R.sz R.le (by omega) a b c
  run_tac Mine.Sh.fin
theorem descPart_run {n k : Nat} {p : Array Nat} (hk : k < n) (R : Down rk n (k + 1) 0 p) : kasIn (ltR rk) n (kas_descPart k n p) ∧ Run rk n (kasRun (ltR rk) (kas_descPart k n p)).1 (kasRun (ltR rk) (kas_descPart k n p)).2 ∧ 1 ≤ (kasRun (ltR rk) (kas_descPart k n p)).1 := by
  run_tac Mine.Sh.mark
  focus
    obtain ⟨a, b⟩ := desc_run rk n (n - (k + 1)) p (k + 1) 0 R (by omega)
    have c := b.end3 (rk := rk)
    unfold kas_descPart
    rw [kasRun_bind]
    exact ⟨kasIn_bind _ a c.1, c.2⟩
  run_tac Mine.Sh.fin
theorem at0_range {n i : Nat} (h : i < n) : at0 (List.toArray (List.range n)) i = i := by
  rw [at0_eq]; simp [h]
theorem count_run {n : Nat} (hn : 1 ≤ n) : kasIn (ltR rk) n (kas_count n (List.toArray (List.range n))) ∧
    Run rk n (kasRun (ltR rk) (kas_count n (List.toArray (List.range n)))).1 (kasRun (ltR rk) (kas_count n (List.toArray (List.range n)))).2 ∧ 1 ≤ (kasRun (ltR rk) (kas_count n (List.toArray (List.range n)))).1 := by
  run_tac Mine.Sh.mark
  focus
    have hall : ∀ i, i < n → at0 (List.toArray (List.range n)) i < n := fun i hi => by rw [at0_range hi]; exact hi
    have R1 : Run rk n 1 (List.toArray (List.range n)) := by
      refine ⟨by simp, hn, fun i hi => ?_, fun i h1 h2 => at0_range h2, fun i j h1 h2 => by omega⟩
      rw [at0_range (by omega)]; exact hi
    obtain ⟨a, b, c, d, e⟩ := asc_run rk n _ hall (n - 1) 1 (Nat.le_refl _) (by omega)
    unfold kas_count
    rw [kasRun_bind]
    generalize hm : kasRun (ltR rk) (kas_asc (List.toArray (List.range n)) (n - 1) 1) = m at b c d e
    have R := R1.asc (rk := rk) (Nat.le_refl _) b c d
    suffices H : kasIn (ltR rk) n (if (m == n) = true then .ret (m, List.toArray (List.range n)) else if m > 1 then .ask ((List.toArray (List.range n)).getD 0 0) ((List.toArray (List.range n)).getD (m - 1) 0) fun c => if c = true then .ret (m, List.toArray (List.range n)) else kas_descPart m n (kas_rev (List.toArray (List.range n)) 0 m)
      else kas_descPart m n (List.toArray (List.range n))) ∧ Run rk n (kasRun (ltR rk) (if (m == n) = true then .ret (m, List.toArray (List.range n)) else if m > 1 then .ask ((List.toArray (List.range n)).getD 0 0) ((List.toArray (List.range n)).getD (m - 1) 0) fun c => if c = true then .ret (m, List.toArray (List.range n)) else kas_descPart m n (kas_rev (List.toArray (List.range n)) 0 m)
      else kas_descPart m n (List.toArray (List.range n)))).1 (kasRun (ltR rk) (if (m == n) = true then .ret (m, List.toArray (List.range n)) else if m > 1 then .ask ((List.toArray (List.range n)).getD 0 0) ((List.toArray (List.range n)).getD (m - 1) 0) fun c => if c = true then .ret (m, List.toArray (List.range n)) else kas_descPart m n (kas_rev (List.toArray (List.range n)) 0 m)
      else kas_descPart m n (List.toArray (List.range n)))).2 ∧ 1 ≤ (kasRun (ltR rk) (if (m == n) = true then .ret (m, List.toArray (List.range n)) else if m > 1 then .ask ((List.toArray (List.range n)).getD 0 0) ((List.toArray (List.range n)).getD (m - 1) 0) fun c => if c = true then .ret (m, List.toArray (List.range n)) else kas_descPart m n (kas_rev (List.toArray (List.range n)) 0 m)
      else kas_descPart m n (List.toArray (List.range n)))).1 by
      refine ⟨kasIn_bind _ a ?_, H.2⟩
      rw [hm]; exact H.1
    by_cases hmn : m = n
    · have : (m == n) = true := by rw [hmn]; exact beq_self_eq_true n
      simp only [this, if_true]
      exact ⟨trivial, R, b⟩
    · have : (m == n) = false := by exact beq_eq_false_iff_ne.mpr hmn
      simp only [this, Bool.false_eq_true, if_false]
      have hlt : m < n := by omega
      have e := e hlt
      by_cases h1 : m > 1
      · simp only [h1, if_true]
        cases hc : ltR rk ((List.toArray (List.range n)).getD 0 0) ((List.toArray (List.range n)).getD (m - 1) 0) with
        | true =>
          refine ⟨⟨hall _ (by omega), hall _ (by omega), ?_⟩, ?_⟩
          · rw [hc]; trivial
          · unfold kasRun; rw [hc]; exact ⟨R, b⟩
        | false =>
          have hle : rk (at0 (List.toArray (List.range n)) (m - 1)) ≤ rk (at0 (List.toArray (List.range n)) 0) := Int.not_lt.mp (of_decide_eq_false hc)
          have same : ∀ i, i < m → rk i = rk 0 := fun i hi => by
            have h2 := R.rank (rk := rk) (i := 0) (j := i) (Nat.zero_le _) hi
            have h3 := R.rank (rk := rk) (i := i) (j := m - 1) (by omega) (by omega)
            rw [at0_range (by omega)] at h2 h3
            rw [at0_range (by omega)] at h2
            rw [at0_range (by omega)] at h3
            rw [at0_range (by omega), at0_range (by omega)] at hle
            omega
          have er := at0_rev (p := List.toArray (List.range n)) (i := 0) (j := m) (by simpa using c)
          rw [at0_range hlt, at0_range (by omega)] at e
          have D : Down rk n (m + 1) 0 (kas_rev (List.toArray (List.range n)) 0 m) := by
            have lowv : ∀ i, i < m → at0 (kas_rev (List.toArray (List.range n)) 0 m) i = m - 1 - i := fun i hi => by
              rw [er, if_pos ⟨Nat.zero_le _, hi⟩, at0_range (by omega)]; omega
            have highv : ∀ i, m ≤ i → i < n → at0 (kas_rev (List.toArray (List.range n)) 0 m) i = i := fun i h1 h2 => by
              rw [er, if_neg (by omega), at0_range h2]
            refine ⟨(rev_size _ _ _).trans (by simp), hlt, fun i hi => ?_, fun i h1 h2 => highv i (by omega) h2, by omega, fun i j h1 h2 => ?_, fun i j h1 h2 h3 => ?_, fun i j h1 h2 h3 => by omega⟩
            · by_cases h : i < m
              · rw [lowv i h]; omega
              · rw [highv i (by omega) (by omega)]; exact hi
            · rw [lowv i (by omega), lowv j (by omega)]
              exact .inr ⟨by rw [same _ (by omega), same (m - 1 - i) (by omega)], by omega⟩
            · have : j = m := by omega
              subst this
              rw [highv j (Nat.le_refl _) hlt, lowv i (by omega), same (j - 1 - i) (by omega), ← same (j - 1) (by omega)]
              exact e
          have H := descPart_run rk hlt D
          refine ⟨⟨hall _ (by omega), hall _ (by omega), ?_⟩, ?_⟩
          · rw [hc]; exact H.1
          · unfold kasRun; rw [hc]; exact H.2
      · have : m = 1 := by omega
        subst this
        simp only [h1, if_false]
        rw [at0_range hlt, at0_range (by omega)] at e
        refine descPart_run rk hlt ⟨by simp, hlt, fun i hi => ?_, fun i h1 h2 => at0_range h2, by omega, fun i j h1 h2 => by omega, fun i j h1 h2 h3 => ?_, fun i j h1 h2 h3 => by omega⟩
        · rw [at0_range (by omega)]; exact hi
        · have : i = 0 := by omega
          have : j = 1 := by omega
          subst i; subst j
          rw [at0_range hlt, at0_range (by omega)]
          exact e
  run_tac Mine.Sh.fin
theorem sort_run {n : Nat} (hn : 1 ≤ n) : kasIn (ltR rk) n (kas_sort n) ∧ Run rk n n (kasRun (ltR rk) (kas_sort n)) := by
  run_tac Mine.Sh.mark
  focus
    obtain ⟨a, R, c⟩ := count_run rk hn
    unfold kas_sort
    rw [kasRun_bind]
    have hin := fun b => kasIn_bind (f := fun r : Nat × Array Nat => if r.1 < n then kas_bin (n - max r.1 1) r.2 (max r.1 1) else .ret r.2) _ a b
    generalize kasRun (ltR rk) (kas_count n (List.toArray (List.range n))) = r at R c hin
    by_cases h : r.1 < n
    · simp only [h, if_true] at hin ⊢
      have e : max r.1 1 = r.1 := by omega
      rw [e] at hin ⊢
      obtain ⟨i1, i2⟩ := bin_run rk n (n - r.1) r.2 r.1 R (by omega)
      exact ⟨hin i1, i2⟩
    · simp only [h, if_false] at hin ⊢
      have e : r.1 = n := by have := R.le; omega
      rw [e] at R
      exact ⟨hin trivial, R⟩
  run_tac Mine.Sh.fin
end
end

section -- S2
noncomputable def KHas (C : Addr) (h : Heap) (v x : Value) : Prop := ∃ k dx, v = .ref k ∧ h.get? k = some ⟨.ref C, some dx, .plain, #[some x]⟩ ∧ h.get? dx = some (dictOf [] 0)
theorem KHas.keeps {C : Addr} {h h' : Heap} {v x : Value} (X : KHas C h v x) (k : ∀ b o, h.get? b = some o → h'.get? b = some o) : KHas C h' v x :=
  X.imp fun _ h => h.imp fun _ h => ⟨h.1, k _ _ h.2.1, k _ _ h.2.2⟩
theorem KHas.keepsBut {C kS : Addr} {h h' : Heap} {v x : Value} {o : Obj} (X : KHas C h v x) (ho : h.get? kS = some o) (hn : o.cls = .type "list") (k : ∀ b o, b ≠ kS → h.get? b = some o → h'.get? b = some o) : KHas C h' v x := by
  run_tac Mine.Sh.mark
  focus
    obtain ⟨a, d, e, h1, h2⟩ := X
    refine ⟨a, d, e, k _ _ (fun q => ?_) h1, k _ _ (fun q => ?_) h2⟩
    · subst q; rw [ho] at h1; cases h1; cases hn
    · subst q; rw [ho] at h2; cases h2; exact absurd (Value.type.inj hn) (by decide)
  run_tac Mine.Sh.fin
noncomputable def CmpSpec (w : World) (B : Heap) (fc : Addr) (vs : List Value) (rk : Nat → Int) (dp un : Nat) : Prop :=
  ∀ (i j : Nat) (x y : Value), vs[i]? = some x → vs[j]? = some y → ∀ (dp' un' : Nat) (fr' : Option (List Env)) (gd' : Option (List Code)) (s : Shared) (Q' E' : Value → Shared → Prop), dp' ≤ dp → un' ≤ un → (∀ b o, B.get? b = some o → s.heap.get? b = some o) →
    (∀ (r : Int) (t : Tok) (h' : Heap) (tk' : Nat), (∀ b o, s.heap.get? b = some o → h'.get? b = some o) → (r < 0 ↔ rk i < rk j) → Q' (.int r t) { s with heap := h', toks := tk' }) →
    wpAny (model prg w) (TP dp' un' fr' gd') (call (.ref fc) [x, y]) Q' E' s
section
variable {w : World} {dp un : Nat} {fr : Option (List Env)} {gd : Option (List Code)} {A : Around} {E : Value → Shared → Prop} {s : Shared} {B h₀ : Heap} {a kS C fc : Addr} {vs : List Value} {keys : Array Value} {bl : List (Addr × Obj)} {e e1 : Nat} {P : PySem.Fin → Shared → Prop} {rk : Nat → Int}
theorem sk_tail {p : Array Nat} {st : SortSt} (kB : ∀ b o, B.get? b = some o → s.heap.get? b = some o) (Ba : B.get? a = none) (Bk : B.get? kS = none) (hka : kS ≠ a)
    (hk : s.heap.get? kS = some (seqObj "list" keys e)) (ha : s.heap.get? a = some (seqObj "list" #[] e1)) (hkz : keys.size = vs.length) (h64 : vs.length < 64) (hp : p.size = vs.length)
    (har : arrOf st = p.map (kas_item (keys.zip vs.toArray))) (hall : ∀ i ∈ p.toList, i < vs.length) (hfl : failedOf st = none)
    (h : ∀ h' c, (∀ b o, B.get? b = some o → h'.get? b = some o) → h'.get? a = some (seqObj "list" (List.toArray (p.toList.map fun i => vs.getD i Value.none)) c) → P (.done (.ret .none)) { s with heap := h' }) :
    wpAny (model prg w) A (ksk_tail a false e1 (.ref kS) st) P E s := by
  run_tac Mine.Sh.mark
  focus
    have hout : (arrOf st).map (·.2) = List.toArray (p.toList.map fun i => vs.getD i Value.none) := by
      apply Array.toList_inj.mp
      rw [har, Array.map_map, Array.toList_map]
      refine List.map_congr_left fun i hi => ?_
      have hi := hall i hi
      show (kas_item (keys.zip vs.toArray) i).2 = _
      unfold kas_item
      have hz : i < (keys.zip vs.toArray).size := by rw [Array.size_zip, hkz, List.size_toArray, Nat.min_self]; exact hi
      have hm : i < min keys.size vs.length := by omega
      simp [Array.getD, hm, hi]
    have s1 := Heap.SameBut.update s.heap kS (Obj.mapSeq fun _ => (#[] : Array Value))
    have na1 : (s.heap.update kS (Obj.mapSeq fun _ => (#[] : Array Value))).get? a = some (seqObj "list" #[] e1) := (s1.2 a hka.symm).trans ha
    have s2 := Heap.SameBut.update (s.heap.update kS (Obj.mapSeq fun _ => (#[] : Array Value))) a (Obj.mapSeq fun _ => List.toArray (p.toList.map fun i => vs.getD i Value.none))
    obtain ⟨c2, hc2⟩ : ∃ c2, ((s.heap.update kS (Obj.mapSeq fun _ => (#[] : Array Value))).update a (Obj.mapSeq fun _ => List.toArray (p.toList.map fun i => vs.getD i Value.none))).get? a = some (seqObj "list" (List.toArray (p.toList.map fun i => vs.getD i Value.none)) c2) :=
      ⟨_, get?_update_seq na1 fun _ => List.toArray (p.toList.map fun i => vs.getD i Value.none)⟩
    have hsz : (List.toArray (p.toList.map fun i => vs.getD i Value.none)).size = vs.length := by rw [List.size_toArray, List.length_map, Array.length_toList, hp]
    unfold ksk_tail
    dsimp only
    rw [hout]
    simp only [Bool.false_eq_true, if_false]
    refine wpAny_bind (listUpdate_at hk rfl ?_ (by rw [hkz, sizeLine_eq]; omega) (Nat.zero_le _))
    refine wpAny_bind (wpAny_letGo ?_)
    refine wpAny_bind (seqEpoch_at na1 rfl ?_)
    refine wpAny_bind (listUpdate_at na1 rfl ?_ (Nat.zero_le _) (Nat.le_trans (Nat.le_of_eq hsz) (by rw [sizeLine_eq]; omega)))
    rw [hfl]
    simp only [bne_self_eq_false, Bool.false_eq_true, if_false]
    refine wpAny_pure (h _ c2 (fun b o q => ?_) hc2)
    rw [s2.2 b (fun q2 => by rw [q2, Ba] at q; cases q), s1.2 b (fun q2 => by rw [q2, Bk] at q; cases q)]
    exact kB _ _ q
  run_tac Mine.Sh.fin
theorem sk_end (KL : KLt w h₀ bl C fc) (CS : CmpSpec w B fc vs rk (dp + 2) (un + 10)) (S0 : Sub h₀ B) (hbl : ∀ p ∈ bl, B.get? p.1 = some p.2) (hfc : FnAt fc B) (hin : ∀ x ∈ vs, handedIn x = true)
    (kB : ∀ b o, B.get? b = some o → s.heap.get? b = some o) (Ba : B.get? a = none) (Bk : B.get? kS = none) (hka : kS ≠ a)
    (hk : s.heap.get? kS = some (seqObj "list" keys e)) (ha : s.heap.get? a = some (seqObj "list" #[] e1)) (hkz : keys.size = vs.length) (h2 : 2 ≤ vs.length) (h64 : vs.length < 64)
    (hks : ∀ (j : Nat) (v x : Value), keys[j]? = some v → vs[j]? = some x → KHas C s.heap v x) (hd : dp + 20 < recursionLimit) (hu : un + 100 < cLine)
    (h : ∀ h' tk c, (∀ b o, B.get? b = some o → h'.get? b = some o) → h'.get? a = some (seqObj "list" (List.toArray ((kasRun (ltR rk) (kas_sort vs.length)).toList.map fun i => vs.getD i Value.none)) c) → P (.done (.ret .none)) { s with heap := h', toks := tk }) :
    wpAny (model prg w) (TP dp un fr gd) (ksk_end a false vs.toArray e1 (.ref kS) keys) P E s := by
  run_tac Mine.Sh.mark
  focus
    obtain ⟨si, R⟩ := sort_run rk (n := vs.length) (by omega)
    have hzs : (keys.zip vs.toArray).size = vs.length := by rw [Array.size_zip, hkz, List.size_toArray, Nat.min_self]
    unfold ksk_end
    dsimp only
    have hn2 : ¬ vs.toArray.size < 2 := by rw [List.size_toArray]; omega
    rw [if_neg hn2, if_neg hn2]
    simp only [Bool.false_eq_true, if_false]
    have hat : ∀ i, i < vs.length → ∃ v x, keys[i]? = some v ∧ vs[i]? = some x ∧ (kas_item (keys.zip vs.toArray) i).1 = v := fun i hi => by
      refine ⟨keys[i]'(by omega), vs[i], by simp [hkz, hi], by simp [hi], ?_⟩
      unfold kas_item
      have hz : i < (keys.zip vs.toArray).size := by rw [hzs]; exact hi
      have hm : i < min keys.size vs.length := by omega
      simp [Array.getD, hm]
    have ek : keys = keys.toList.toArray := by simp
    have hkind := kas_kind (M := model prg w) (A := TP dp un fr gd) (E := E) (s := s) (vs := keys.toList) (T := .ref C) (Q := fun k s' => k = oneType' ∧ s' = s) (by rw [Array.length_toList, hkz]; exact h2) (fun v hv => by
      obtain ⟨i, hi, e⟩ := List.getElem_of_mem hv
      rw [Array.length_toList, hkz] at hi
      obtain ⟨k, dx, rfl, h1, _⟩ := hks i v vs[i] (by rw [← e]; simp [hkz, hi]) (by simp [hi])
      exact fun A Q E s kk q => wpAny_typeOf_ref (kk _ _ h1) q) (by simp [bne]) (by simp) ⟨rfl, rfl⟩
    rw [← ek] at hkind
    refine wpAny_bind (wpAny_mono hkind ?_ fun _ _ e => e)
    rintro k1 s1 ⟨q1, q2⟩
    rw [q1, q2]
    clear q1 q2 k1 s1
    have est : SortSt.mk' oneType' (keys.zip vs.toArray) #[] 7 none = kas_st oneType' (keys.zip vs.toArray) (List.toArray (List.range vs.length)) := by
      have e := kas_range (keys.zip vs.toArray)
      rw [hzs] at e
      show _ = SortSt.mk' oneType' ((List.toArray (List.range vs.length)).map (kas_item (keys.zip vs.toArray))) #[] 7 none
      rw [e]
    have ask : (kas_sort vs.length).kasWp (kas_cmp prg w (TP dp un fr gd) oneType' (keys.zip vs.toArray)) (fun p' s' => p' = kasRun (ltR rk) (kas_sort vs.length) ∧ ∃ h' tk, s' = { s with heap := h', toks := tk } ∧ ∀ b o, s.heap.get? b = some o → h'.get? b = some o) s := by
      refine kasWp_run (lt := ltR rk) (n := vs.length) (inv := fun s' => ∃ h' tk, s' = { s with heap := h', toks := tk } ∧ ∀ b o, s.heap.get? b = some o → h'.get? b = some o) ?_ _ _ si ⟨s.heap, s.toks, rfl, fun _ _ q => q⟩ fun s' hi => ⟨rfl, hi⟩
      rintro i j G _ hi hj ⟨h', tk, rfl, k'⟩ hG
      obtain ⟨vi, xi, h1, h3, e1⟩ := hat i hi
      obtain ⟨vj, xj, h4, h5, e2⟩ := hat j hj
      obtain ⟨ki, di, rfl, g1, g2⟩ := hks i _ _ h1 h3
      obtain ⟨kj, dj, rfl, g3, g4⟩ := hks j _ _ h4 h5
      unfold kas_cmp
      rw [e1, e2]
      refine KL dp un fr gd _ _ _ ki kj xi xj di dj [] (fun r _ => r < 0 ↔ rk i < rk j) ⟨fun b o q => k' _ _ (kB _ _ (S0.stays _ _ q))⟩ (fun p hp => k' _ _ (kB _ _ (hbl p hp))) (fun _ q => nomatch q) (fun _ q => nomatch q)
        (fnAt_keep hfc fun b o q => k' _ _ (kB _ _ q)) (hin _ (List.mem_of_getElem? h3)) (hin _ (List.mem_of_getElem? h5)) (k' _ _ g1) (k' _ _ g2) (k' _ _ g3) (k' _ _ g4) hd hu ?_ ?_
      · intro dp' un' fr' gd' h tk2 Q' E' hdp hun kk hq
        exact CS i j xi xj h3 h5 dp' un' fr' gd' _ Q' E' hdp hun (fun b o q => kk _ _ (k' _ _ (kB _ _ q))) fun r t h2 tk3 k2 hr => hq r t h2 tk3 (fun b o _ q => k2 b o q) hr
      · intro r h2 tk2 k2 hr
        have : decide (r < 0) = ltR rk i j := by
          unfold ltR
          by_cases q : r < 0
          · rw [decide_eq_true q, decide_eq_true (hr.mp q)]
          · rw [decide_eq_false q, decide_eq_false fun q2 => q (hr.mpr q2)]
        rw [this]
        exact hG _ ⟨h2, tk2, rfl, fun b o q => k2 b o (fun _ q => nomatch q) (k' _ _ q)⟩
    have run := kas_runs (E := E) (Q := fun _ st' s' => arrOf st' = (kasRun (ltR rk) (kas_sort vs.length)).map (kas_item (keys.zip vs.toArray)) ∧ failedOf st' = none ∧ ∃ h' tk, s' = { s with heap := h', toks := tk } ∧ ∀ b o, s.heap.get? b = some o → h'.get? b = some o)
      h2 h64 (fun p' st' s' a1 a2 a3 a4 => ⟨by rw [a2, a4.1], a3, a4.2⟩) ask
    rw [← est] at run
    refine wpAny_bind (wpAny_mono run ?_ fun _ _ e => e)
    rintro ⟨⟨⟩, st'⟩ _ ⟨har, hf, h', tk, rfl, k'⟩
    dsimp only
    refine sk_tail (B := B) (vs := vs) (keys := keys) (e := e) (fun b o q => k' _ _ (kB _ _ q)) Ba Bk hka (k' _ _ hk) (k' _ _ ha) hkz h64 R.sz har (fun i hi => ?_) hf fun h2 c q1 q2 => h h2 tk c q1 q2
    obtain ⟨x, hx, e⟩ := List.getElem_of_mem hi
    rw [Array.length_toList, R.sz] at hx
    have := R.all (rk := rk) hx
    rw [at0_eq] at this
    have hx2 : x < (kasRun (ltR rk) (kas_sort vs.length)).size := by rw [R.sz]; exact hx
    rw [Array.getElem_toList] at e
    simp [hx2] at this
    omega
  run_tac Mine.Sh.fin
theorem sk_rest (KM : KMake w h₀ bl C) (KL : KLt w h₀ bl C fc) (CS : CmpSpec w B fc vs rk (dp + 2) (un + 10)) (S0 : Sub h₀ B) (hbl : ∀ p ∈ bl, B.get? p.1 = some p.2) (hfc : FnAt fc B) (hin : ∀ x ∈ vs, handedIn x = true)
    (kB : ∀ b o, B.get? b = some o → s.heap.get? b = some o) (Ba : B.get? a = none) (Bk : B.get? kS = none) (hka : kS ≠ a)
    (hk : s.heap.get? kS = some (seqObj "list" #[] 0)) (ha : s.heap.get? a = some (seqObj "list" #[] e1)) (h2 : 2 ≤ vs.length) (h64 : vs.length < 64)
    (hd : dp + 20 < recursionLimit) (hu : un + 100 < cLine)
    (h : ∀ h' tk c, (∀ b o, B.get? b = some o → h'.get? b = some o) → h'.get? a = some (seqObj "list" (List.toArray ((kasRun (ltR rk) (kas_sort vs.length)).toList.map fun i => vs.getD i Value.none)) c) → P (.done (.ret .none)) { s with heap := h', toks := tk }) :
    wpAny (model prg w) (TP dp un fr gd) (ksk_rest a (.ref C) false vs.toArray e1 (.ref kS)) P E s := by
  run_tac Mine.Sh.mark
  focus
    unfold ksk_rest
    refine wpAny_bind (wpAny_rule ?_)
    rw [List.forIn_toArray]
    refine wpAny_bind (ksk_fold (fun i s' => ∃ h' tk kA e, s' = { s with heap := h', toks := tk } ∧ (∀ b o, B.get? b = some o → h'.get? b = some o) ∧ h'.get? kS = some (seqObj "list" kA e) ∧ h'.get? a = some (seqObj "list" #[] e1) ∧ kA.size = i ∧
        ∀ (j : Nat) (v x : Value), kA[j]? = some v → vs[j]? = some x → KHas C h' v x) vs 0 s ⟨s.heap, s.toks, #[], 0, rfl, kB, hk, ha, rfl, fun j v x q => by simp at q⟩ ?step ?done)
    case step =>
      rintro j x s' hx ⟨h', tk, kA, e, rfl, k', hk', ha', hz, hks⟩
      simp only [Nat.zero_add] at hz ⊢
      have hj : j < vs.length := (List.getElem?_eq_some_iff.mp hx).1
      refine wpAny_bind (wpAny_attempt ?_)
      refine KM dp un fr gd _ _ _ x ⟨fun b o q => k' _ _ (S0.stays _ _ q)⟩ (fun p hp => k' _ _ (hbl p hp)) (by omega) (by omega) fun k h3 tk3 k3 hn hd3 => ?_
      obtain ⟨dx, g1, g2, g3⟩ := hd3
      dsimp only at k3 hn g3 ⊢
      have nk := k3 _ _ hk'
      have na := k3 _ _ ha'
      have s1 := Heap.SameBut.update h3 kS (Obj.mapSeq (·.push (.ref k)))
      obtain ⟨c2, hc2⟩ : ∃ c2, (h3.update kS (Obj.mapSeq (·.push (.ref k)))).get? kS = some (seqObj "list" (kA.push (.ref k)) c2) := ⟨_, get?_update_seq nk (·.push (.ref k))⟩
      refine wpAny_bind (listUpdate_at nk rfl ?_ (by rw [hz, sizeLine_eq]; omega) (Nat.le_trans (Nat.le_of_eq (Array.size_push ..)) (by rw [hz, sizeLine_eq]; omega)))
      have kk : ∀ b o, b ≠ kS → h3.get? b = some o → (h3.update kS (Obj.mapSeq (·.push (.ref k)))).get? b = some o := fun b o n q => (s1.2 b n).trans q
      refine wpAny_pure ⟨rfl, _, tk3, kA.push (.ref k), c2, rfl, fun b o q => kk _ _ (fun q2 => by rw [q2, Bk] at q; cases q) (k3 _ _ (k' _ _ q)), hc2, kk _ _ hka.symm na, by rw [Array.size_push, hz], fun i v y h4 h5 => ?_⟩
      rw [Array.getElem?_push] at h4
      split at h4
      · next hi =>
        cases h4
        rw [hz] at hi
        subst hi
        rw [hx] at h5
        cases h5
        exact KHas.keepsBut ⟨k, dx, rfl, g1, g2⟩ nk rfl kk
      · exact KHas.keepsBut ((hks i v y h4 h5).keeps k3) nk rfl kk
    case done =>
      rintro s' ⟨h', tk, kA, e, rfl, k', hk', ha', hz, hks⟩
      refine wpAny_bind (listItems_at hk' rfl ?_)
      exact sk_end KL CS S0 hbl hfc hin k' Ba Bk hka hk' ha' (by simpa using hz) h2 h64 hks hd hu fun h3 tk3 c q1 q2 => h h3 tk3 c q1 q2
  run_tac Mine.Sh.fin
theorem sk_sort {n : Nat} (KM : KMake w h₀ bl C) (KL : KLt w h₀ bl C fc) (CS : CmpSpec w B fc vs rk (dp + 2) (un + 10)) (S0 : Sub h₀ B) (hbl : ∀ p ∈ bl, B.get? p.1 = some p.2) (hfc : FnAt fc B) (hin : ∀ x ∈ vs, handedIn x = true)
    (kB : ∀ b o, B.get? b = some o → s.heap.get? b = some o) (ho : s.heap.get? a = some (seqObj "list" vs.toArray n)) (Ba : B.get? a = none) (hBs : B.objs.size ≤ s.heap.objs.size) (h2 : 2 ≤ vs.length) (h64 : vs.length < 64)
    (hd : dp + 20 < recursionLimit) (hu : un + 100 < cLine)
    (h : ∀ h' tk c, (∀ b o, B.get? b = some o → h'.get? b = some o) → h'.get? a = some (seqObj "list" (List.toArray ((kasRun (ltR rk) (kas_sort vs.length)).toList.map fun i => vs.getD i Value.none)) c) → P (.done (.ret .none)) { s with heap := h', toks := tk }) :
    wpAny (model prg w) (TP dp un fr gd) (ksk_tree a (.ref C) false) P E s := by
  run_tac Mine.Sh.mark
  focus
    have ha : a < s.heap.objs.size := Heap.lt_size ho
    have s1 := Heap.SameBut.update s.heap a (Obj.mapSeq fun _ => (#[] : Array Value))
    obtain ⟨e1, ho1⟩ : ∃ e1, (s.heap.update a (Obj.mapSeq fun _ => (#[] : Array Value))).get? a = some (seqObj "list" #[] e1) := ⟨_, get?_update_seq ho fun _ => #[]⟩
    have hkS : ((s.heap.update a (Obj.mapSeq fun _ => (#[] : Array Value))).push (seqObj "tuple" vs.toArray 0)).objs.size = s.heap.objs.size + 1 := by rw [size_push', Heap.size_update]
    unfold ksk_tree
    refine wpAny_bind (listItems_at ho rfl ?_)
    refine wpAny_bind (listUpdate_at ho rfl ?_ (by rw [List.size_toArray, sizeLine_eq]; omega) (Nat.zero_le _))
    refine wpAny_bind (seqEpoch_at ho1 rfl ?_)
    refine wpAny_bind (wpAny_newTuple ?_ (by show vs.length ≤ _; rw [sizeLine_eq]; omega))
    refine wpAny_bind (wpAny_newList ?_ (Nat.zero_le _))
    refine wpAny_holding ?_
    refine sk_rest (s := { s with heap := ((s.heap.update a (Obj.mapSeq fun _ => (#[] : Array Value))).push (seqObj "tuple" vs.toArray 0)).push (seqObj "list" #[] 0) }) (kS := ((s.heap.update a (Obj.mapSeq fun _ => (#[] : Array Value))).push (seqObj "tuple" vs.toArray 0)).objs.size)
      KM KL CS S0 hbl hfc hin (fun b o q => Heap.get?_push_of_some _ (Heap.get?_push_of_some _ ((s1.2 b (fun q2 => by rw [q2, Ba] at q; cases q)).trans (kB _ _ q)))) Ba ?_ (by rw [hkS]; exact Nat.ne_of_gt (Nat.lt_succ_of_lt ha)) (Heap.get?_push_size _ rfl) (Heap.get?_push_of_some _ (Heap.get?_push_of_some _ ho1)) h2 h64 hd hu h
    rw [hkS]
    exact Heap.get?_none_of_le (Nat.le_succ_of_le hBs)
  run_tac Mine.Sh.fin
theorem sorted_K {l : Addr} {Q : Value → Shared → Prop} (KM : KMake w h₀ bl C) (KL : KLt w h₀ bl C fc) (CS : CmpSpec w s.heap fc vs rk (dp + 2) (un + 12)) (S0 : Sub h₀ s.heap) (hbl : ∀ p ∈ bl, s.heap.get? p.1 = some p.2) (hfc : FnAt fc s.heap) (hin : ∀ x ∈ vs, handedIn x = true)
    (hl : s.heap.IsList l vs.toArray) (h2 : 2 ≤ vs.length) (h64 : vs.length < 64) (hd : dp + 20 < recursionLimit) (hu : un + 110 < cLine)
    (h : ∀ D h' tk c, (∀ b o, s.heap.get? b = some o → h'.get? b = some o) → s.heap.get? D = none → h'.get? D = some (seqObj "list" (List.toArray ((kasRun (ltR rk) (kas_sort vs.length)).toList.map fun i => vs.getD i Value.none)) c) → Q (.ref D) { s with heap := h', toks := tk }) :
    wpAny (model prg w) (TP dp un fr gd) (call (.builtin "sorted") [.ref l] [(Str.ofString "key", .ref C)]) Q E s := by
  run_tac Mine.Sh.mark
  focus
    refine call_function_entry_kw kind_sorted plain_sorted entry_sorted (ksk_s1 _ _) ?_
    unfold Builtin.«sorted»
    refine wpAny_bind (m := checkCount "sorted" 1 1 _) (wpAny_pure ?_)
    refine wpAny_bind (collect_list hl ?_ (by rw [sizeLine_eq]; omega))
    refine wpAny_bind (wpAny_newList ?_ (by rw [sizeLine_eq]; omega))
    have hsz : ((s.heap.push (seqObj "list" #[] 0)).update s.heap.objs.size (Obj.mapSeq (· ++ vs.toArray))).objs.size = s.heap.objs.size + 1 := by
      rw [Heap.size_update, size_push']
    have hoL : (((s.heap.push (seqObj "list" #[] 0)).update s.heap.objs.size (Obj.mapSeq (· ++ vs.toArray))).push (seqObj "list" vs.toArray 0)).get? (s.heap.objs.size + 1) = some (seqObj "list" vs.toArray 0) := by
      rw [← hsz]; exact Heap.get?_push_size _ rfl
    have keep : ∀ b o, s.heap.get? b = some o → (((s.heap.push (seqObj "list" #[] 0)).update s.heap.objs.size (Obj.mapSeq (· ++ vs.toArray))).push (seqObj "list" vs.toArray 0)).get? b = some o := fun b o q => by
      have hlt : b < s.heap.objs.size := Heap.lt_size q
      rw [Heap.get?_push_ne _ _ _ (by rw [hsz]; exact Nat.ne_of_lt (Nat.lt_succ_of_lt hlt)), Heap.get?_update_ne _ _ _ _ (Nat.ne_of_lt hlt), Heap.get?_push_ne _ _ _ (Nat.ne_of_lt hlt)]
      exact q
    show wpAny _ _ _ _ _ { s with heap := ((s.heap.push (seqObj "list" #[] 0)).update s.heap.objs.size (Obj.mapSeq (· ++ vs.toArray))).push (seqObj "list" vs.toArray 0) }
    rw [hsz]
    refine wpAny_bind (wpAny_holding (wpAny_call_entry_kw slot_list_sort ⟨_, hoL, rfl⟩ entry_list_sort ?body (ksk_l1 _ _)))
    case body =>
      have ht' := ksk_t1 C (s.heap.objs.size + 1)
      show wpAny (model prg w) (TP dp (un + 1 + 1) fr gd) (Builtin.«list.sort» ⟨[.ref (s.heap.objs.size + 1)], [(Str.ofString "key", .ref C)]⟩) _ _ _
      rw [ht']
      refine sk_sort (B := s.heap) (s := { s with heap := ((s.heap.push (seqObj "list" #[] 0)).update s.heap.objs.size (Obj.mapSeq (· ++ vs.toArray))).push (seqObj "list" vs.toArray 0) })
        KM KL CS S0 hbl hfc hin keep hoL (Heap.get?_none_of_le (Nat.le_succ _)) (by dsimp only; rw [size_push', hsz]; omega) h2 h64 hd (by omega) fun h' tk c k1 g1 => ⟨_, rfl, ?_⟩
      exact wpAny_pure ⟨_, rfl, h _ h' tk c k1 (Heap.get?_none_of_le (Nat.le_succ _)) g1⟩
  run_tac Mine.Sh.fin
end
end

section -- S3
noncomputable def TupAt (h : Heap) (v : Value) (ns : List Int) : Prop := ∃ a xs, v = .ref a ∧ h.get? a = some (tupO xs) ∧ IntsAre xs ns
noncomputable def lexLt : List Int → List Int → Bool
  | a :: x, b :: y => if a = b then lexLt x y else decide (a < b)
  | _, _ => false
section
variable {w : World} {dp un : Nat} {fr : Option (List Env)} {gd : Option (List Code)} {A : Around} {E : Value → Shared → Prop} {s : Shared} {a : Addr} {vs : List Value} {P : PySem.Fin → Shared → Prop} {rk : Nat → Int}
theorem lex_walk {ns : List Int} {xs : List Value} (hx : IntsAre xs ns) : ∀ {ms : List Int} {ys : List Value} {i : Nat} {Q : Bool → Shared → Prop}, IntsAre ys ms → ns.length = ms.length → Q (lexLt ns ms) s → KatLex prg w A true false Q (xs.zip ys) i s := by
  run_tac Mine.Sh.mark
  focus
    induction hx with
    | nil =>
      intro ms ys i Q hy hl h
      exact kat_nil h
    | cons n t _ ih =>
      intro ms ys i Q hy hl h
      cases hy with
      | nil => cases hl
      | cons k u hy' =>
        refine kat_cons (wpAny_eqBool_int ?_)
        refine kat_go (fun he => kat_yes (ih hy' (by simpa using hl) ?_)) (fun he => kat_no ?_)
        · have : n = k := by simpa using he
          unfold lexLt at h
          rw [if_pos this] at h
          exact h
        · have : ¬ n = k := by simpa using he
          unfold lexLt at h
          rw [if_neg this] at h
          cases hb : (true && i == 0) with
          | true => exact oneLt_int h
          | false => exact kat_one _ _ (lt_int h)
  run_tac Mine.Sh.fin
theorem st_tail {e1 : Nat} {p : Array Nat} {B : Heap} (kB : ∀ b o, B.get? b = some o → s.heap.get? b = some o) (Ba : B.get? a = none) (ha : s.heap.get? a = some (seqObj "list" #[] e1)) (hz : p.size < 64)
    (h : ∀ h' c, (∀ b o, B.get? b = some o → h'.get? b = some o) → h'.get? a = some (seqObj "list" (List.toArray (p.toList.map fun i => vs.getD i Value.none)) c) → P (.done (.ret .none)) { s with heap := h' }) {st : SortSt}
    (hout : (arrOf st).map (·.2) = List.toArray (p.toList.map fun i => vs.getD i Value.none)) (hf : failedOf st = none) :
    wpAny (model prg w) A (do
      let touched := (← seqEpoch a) != e1
      Builtin.List.listUpdate (.ref a) fun _ => (arrOf st).map (·.2)
      if let some e := failedOf st then rule "list.sort.comparison-raised"; throw e
      if touched then rule "list.sort.modified"; raiseError "ValueError" "list modified during sort"
      ret .none) P E s := by
  run_tac Mine.Sh.mark
  focus
    have hsz : (List.toArray (p.toList.map fun i => vs.getD i Value.none)).size = p.size := by rw [List.size_toArray, List.length_map, Array.length_toList]
    rw [hout, hf]
    have s2 := Heap.SameBut.update s.heap a (Obj.mapSeq fun _ => List.toArray (p.toList.map fun i => vs.getD i Value.none))
    obtain ⟨c2, hc2⟩ : ∃ c2, (s.heap.update a (Obj.mapSeq fun _ => List.toArray (p.toList.map fun i => vs.getD i Value.none))).get? a = some (seqObj "list" (List.toArray (p.toList.map fun i => vs.getD i Value.none)) c2) := ⟨_, get?_update_seq ha fun _ => List.toArray (p.toList.map fun i => vs.getD i Value.none)⟩
    refine wpAny_bind (seqEpoch_at ha rfl ?_)
    refine wpAny_bind (listUpdate_at ha rfl ?_ (Nat.zero_le _) (Nat.le_trans (Nat.le_of_eq hsz) (by rw [sizeLine_eq]; omega)))
    simp only [bne_self_eq_false, Bool.false_eq_true, if_false]
    exact wpAny_pure (h _ c2 (fun b o q => (s2.2 b (fun q2 => by rw [q2, Ba] at q; cases q)).trans (kB _ _ q)) hc2)
  run_tac Mine.Sh.fin
theorem sorted_T {l : Addr} {Q : Value → Shared → Prop} {ts : List (List Int)} {z : Nat} (hl : s.heap.IsList l vs.toArray) (hlen : ts.length = vs.length) (hz : ∀ t ∈ ts, t.length = z + 1) (ht : ∀ (i : Nat) (v : Value) (t : List Int), vs[i]? = some v → ts[i]? = some t → TupAt s.heap v t)
    (hrk : ∀ (i j : Nat) (t u : List Int), ts[i]? = some t → ts[j]? = some u → lexLt t u = decide (rk i < rk j)) (h1 : 1 ≤ vs.length) (h64 : vs.length < 64)
    (h : ∀ D h' c, (∀ b o, s.heap.get? b = some o → h'.get? b = some o) → s.heap.get? D = none → h'.get? D = some (seqObj "list" (List.toArray ((kasRun (ltR rk) (kas_sort vs.length)).toList.map fun i => vs.getD i Value.none)) c) → Q (.ref D) { s with heap := h' }) :
    wpAny (model prg w) A (call (.builtin "sorted") [.ref l]) Q E s := by
  run_tac Mine.Sh.mark
  focus
    obtain ⟨si, R⟩ := sort_run rk (n := vs.length) h1
    refine call_function_entry_kw kind_sorted plain_sorted entry_sorted (args_sorted1 _) ?_
    unfold Builtin.«sorted»
    refine wpAny_bind (m := checkCount "sorted" 1 1 _) (wpAny_pure ?_)
    refine wpAny_bind (collect_list hl ?_ (by rw [sizeLine_eq]; omega))
    refine wpAny_bind (wpAny_newList ?_ (by rw [sizeLine_eq]; omega))
    have hsz : ((s.heap.push (seqObj "list" #[] 0)).update s.heap.objs.size (Obj.mapSeq (· ++ vs.toArray))).objs.size = s.heap.objs.size + 1 := by
      rw [Heap.size_update, size_push']
    have hoL : (((s.heap.push (seqObj "list" #[] 0)).update s.heap.objs.size (Obj.mapSeq (· ++ vs.toArray))).push (seqObj "list" vs.toArray 0)).get? (s.heap.objs.size + 1) = some (seqObj "list" vs.toArray 0) := by
      rw [← hsz]; exact Heap.get?_push_size _ rfl
    have keep : ∀ b o, s.heap.get? b = some o → (((s.heap.push (seqObj "list" #[] 0)).update s.heap.objs.size (Obj.mapSeq (· ++ vs.toArray))).push (seqObj "list" vs.toArray 0)).get? b = some o := fun b o q => by
      have hlt : b < s.heap.objs.size := Heap.lt_size q
      rw [Heap.get?_push_ne _ _ _ (by rw [hsz]; exact Nat.ne_of_lt (Nat.lt_succ_of_lt hlt)), Heap.get?_update_ne _ _ _ _ (Nat.ne_of_lt hlt), Heap.get?_push_ne _ _ _ (Nat.ne_of_lt hlt)]
      exact q
    show wpAny _ _ _ _ _ { s with heap := ((s.heap.push (seqObj "list" #[] 0)).update s.heap.objs.size (Obj.mapSeq (· ++ vs.toArray))).push (seqObj "list" vs.toArray 0) }
    rw [hsz]
    have Ba : s.heap.get? (s.heap.objs.size + 1) = none := Heap.get?_none_of_le (Nat.le_succ _)
    generalize ((s.heap.push (seqObj "list" #[] 0)).update s.heap.objs.size (Obj.mapSeq (· ++ vs.toArray))).push (seqObj "list" vs.toArray 0) = H at keep hoL ⊢
    generalize s.heap.objs.size + 1 = a at hoL Ba ⊢
    refine wpAny_bind (wpAny_holding (wpAny_call_entry_kw slot_list_sort ⟨_, hoL, rfl⟩ entry_list_sort ?body (args_list_sort _)))
    show wpAny (model prg w) A.in1.in1 (Builtin.«list.sort» ⟨[.ref a], []⟩) _ _ _
    rw [list_sort_plain]
    have s1 := Heap.SameBut.update H a (Obj.mapSeq fun _ => (#[] : Array Value))
    obtain ⟨e1, ho1⟩ : ∃ e1, (H.update a (Obj.mapSeq fun _ => (#[] : Array Value))).get? a = some (seqObj "list" #[] e1) := ⟨_, get?_update_seq hoL fun _ => #[]⟩
    refine wpAny_bind (listItems_at hoL rfl ?_)
    refine wpAny_bind (listUpdate_at hoL rfl ?_ (by rw [List.size_toArray, sizeLine_eq]; omega) (Nat.zero_le _))
    refine wpAny_bind (seqEpoch_at ho1 rfl ?_)
    refine wpAny_bind (wpAny_newTuple ?_ (by show vs.length ≤ _; rw [sizeLine_eq]; omega))
    refine wpAny_bind (wpAny_newList ?_ (Nat.zero_le _))
    refine wpAny_holding ?_
    show wpAny _ _ _ _ _ { s with heap := ((H.update a (Obj.mapSeq fun _ => (#[] : Array Value))).push (seqObj "tuple" vs.toArray 0)).push (seqObj "list" #[] 0) }
    have kH : ∀ b o, s.heap.get? b = some o → (((H.update a (Obj.mapSeq fun _ => (#[] : Array Value))).push (seqObj "tuple" vs.toArray 0)).push (seqObj "list" #[] 0)).get? b = some o := fun b o q =>
      Heap.get?_push_of_some _ (Heap.get?_push_of_some _ ((s1.2 b (fun q2 => by rw [q2, Ba] at q; cases q)).trans (keep _ _ q)))
    have ho2 : (((H.update a (Obj.mapSeq fun _ => (#[] : Array Value))).push (seqObj "tuple" vs.toArray 0)).push (seqObj "list" #[] 0)).get? a = some (seqObj "list" #[] e1) := Heap.get?_push_of_some _ (Heap.get?_push_of_some _ ho1)
    generalize ((H.update a (Obj.mapSeq fun _ => (#[] : Array Value))).push (seqObj "tuple" vs.toArray 0)).push (seqObj "list" #[] 0) = H2 at kH ho2 ⊢
    dsimp only
    have hall : ∀ i ∈ (kasRun (ltR rk) (kas_sort vs.length)).toList, i < vs.length := fun i hi => by
      obtain ⟨x, hx, e⟩ := List.getElem_of_mem hi
      rw [Array.length_toList, R.sz] at hx
      have := R.all (rk := rk) hx
      rw [at0_eq] at this
      have hx2 : x < (kasRun (ltR rk) (kas_sort vs.length)).size := by rw [R.sz]; exact hx
      rw [Array.getElem_toList] at e
      simp [hx2] at this
      omega
    have fin : ∀ h' c, (∀ b o, s.heap.get? b = some o → h'.get? b = some o) → h'.get? a = some (seqObj "list" (List.toArray ((kasRun (ltR rk) (kas_sort vs.length)).toList.map fun i => vs.getD i Value.none)) c) →
        ∃ v, PySem.Fin.done (.ret .none) = .done (.ret v) ∧ wpAny (model prg w) A.in1 (pure (PySem.Fin.done (.ret (.ref a)))) (fun fin s' => ∃ v, fin = .done (.ret v) ∧ Q v s') E { s with heap := h' } := fun h' c k1 g1 => ⟨_, rfl, wpAny_pure ⟨_, rfl, h a h' c k1 Ba g1⟩⟩
    by_cases h2 : vs.toArray.size < 2
    · rw [if_pos h2, if_pos h2]
      rw [List.size_toArray] at h2
      refine wpAny_bind (wpAny_pure ?_)
      rw [StateT.run_pure]
      refine wpAny_bind (wpAny_pure ?_)
      obtain ⟨v, rfl⟩ : ∃ v, vs = [v] := List.length_eq_one_iff.mp (by omega)
      have hp : kasRun (ltR rk) (kas_sort [v].length) = #[0] := by
        have hs := R.sz
        have h0 := R.low 0 Nat.zero_lt_one
        rw [at0_eq] at h0
        generalize kasRun (ltR rk) (kas_sort [v].length) = q at hs h0
        have e : q = #[q[0]'(by rw [hs]; exact Nat.zero_lt_one)] := by
          refine Array.ext (by simpa using hs) fun i h1 h2 => ?_
          have : i = 0 := by simpa using h2
          subst this; simp
        have : q[0]'(by rw [hs]; exact Nat.zero_lt_one) = 0 := by
          have hlt : 0 < q.size := by rw [hs]; exact Nat.zero_lt_one
          simp [hlt] at h0
          omega
        rw [e, this]
      refine st_tail (p := kasRun (ltR rk) (kas_sort [v].length)) kH Ba ho2 (by rw [R.sz]; exact h64) (fun h' c k1 g1 => fin h' c k1 g1) ?_ rfl
      rw [hp]
      show Array.map (fun x => x.2) (#[v].zip #[v]) = _
      simp
    · rw [if_neg h2, if_neg h2]
      rw [List.size_toArray] at h2
      have htup : ∀ i, i < vs.length → ∃ t a' n xs, ts[i]? = some t ∧ vs.getD i Value.none = .ref a' ∧ H2.get? a' = some (tupO (n :: xs)) ∧ IntsAre (n :: xs) t := fun i hi => by
        obtain ⟨a', xs, e, g1, g2⟩ := ht i vs[i] (ts[i]'(by omega)) (by simp [hi]) (by simp [hlen, hi])
        have hzl := hz (ts[i]'(by omega)) (List.getElem_mem _)
        have := g2.length
        cases xs with
        | nil => rw [hzl] at this; cases this
        | cons n xs => exact ⟨_, a', n, xs, by simp [hlen, hi], by simp [hi, e], kH _ _ g1, g2⟩
      obtain ⟨fs, hfs, hfi⟩ : ∃ fs : List Value, KatTups H2 vs fs ∧ fs.length = vs.length ∧ ∀ v ∈ fs, ∃ k t, v = .int k t := by
        have go : ∀ us : List Value, (∀ u ∈ us, ∃ a' n xs t, u = .ref a' ∧ H2.get? a' = some (tupO (n :: xs)) ∧ IntsAre (n :: xs) t) → ∃ fs : List Value, KatTups H2 us fs ∧ fs.length = us.length ∧ ∀ v ∈ fs, ∃ k t, v = .int k t := by
          intro us
          induction us with
          | nil => intro _; exact ⟨[], .nil, rfl, fun _ h => nomatch h⟩
          | cons u us ih =>
            intro hu
            obtain ⟨fs, f1, f2, f3⟩ := ih fun v hv => hu v (.tail _ hv)
            obtain ⟨a', n, xs, t, rfl, g1, g2⟩ := hu u (.head _)
            refine ⟨n :: fs, .cons g1 rfl rfl rfl f1, by simp [f2], fun v hv => ?_⟩
            rcases List.mem_cons.mp hv with rfl | hv
            · cases g2 with
              | cons k t' _ => exact ⟨k, t', rfl⟩
            · exact f3 v hv
        refine go vs fun u hu => ?_
        obtain ⟨i, hi, e⟩ := List.getElem_of_mem hu
        obtain ⟨t, a', n, xs, _, e2, g1, g2⟩ := htup i hi
        exact ⟨a', n, xs, t, by rw [← e, ← e2]; simp [hi], g1, g2⟩
      refine wpAny_bind (wpAny_mono (kat_kind (M := model prg w) (A := A.in1.in1) (E := E) (s := { s with heap := H2 }) (T := .type "int") (Q := fun k s' => k = tuples' true ∧ s' = { s with heap := H2 }) hfs (by omega) (fun v hv => by
        obtain ⟨k, t, rfl⟩ := hfi.2 v hv
        exact fun A Q E s kk q => wpAny_typeOf (T := "int") (typeIs_int s k t) q) (by decide) ⟨congrArg tuples' (by decide), rfl⟩) ?_ fun _ _ e => e)
      rintro k1 s1 ⟨q1, q2⟩
      rw [q1, q2]
      clear q1 q2 k1 s1
      have ask : (kas_sort vs.length).kasWp (kas_ask prg w A.in1.in1 (tuples' true) vs) (fun p' s' => p' = kasRun (ltR rk) (kas_sort vs.length) ∧ s' = { s with heap := H2 }) { s with heap := H2 } := by
        refine kasWp_run (lt := ltR rk) (n := vs.length) (inv := fun s' => s' = { s with heap := H2 }) ?_ _ _ si rfl fun s' hi => ⟨rfl, hi⟩
        rintro i j G _ hi hj rfl hG
        obtain ⟨t, a', n, xs, e1, e2, g1, g2⟩ := htup i hi
        obtain ⟨u, b', m, ys, e3, e4, g3, g4⟩ := htup j hj
        unfold kas_ask
        rw [e2, e4]
        have hl2 : t.length = u.length := by rw [hz t (List.mem_of_getElem? e1), hz u (List.mem_of_getElem? e3)]
        have hx := g2.length
        have hy := g4.length
        refine kat_lt g1 rfl g3 rfl ?_
        rw [show decide ((n :: xs).toArray.size < (m :: ys).toArray.size) = false from decide_eq_false (by rw [List.size_toArray, List.size_toArray]; omega)]
        refine lex_walk g2 g4 hl2 ?_
        rw [hrk i j t u e1 e3]
        exact hG _ rfl
      refine wpAny_bind (wpAny_mono (kat_run (Q := fun st' s' => arrOf st' = (kasRun (ltR rk) (kas_sort vs.length)).map (kas_item (vs.toArray.zip vs.toArray)) ∧ failedOf st' = none ∧ s' = { s with heap := H2 })
        rfl (by omega) h64 (fun p' st' s' a1 a2 a3 a4 => ⟨by rw [a2, a4.1], a3, a4.2⟩) ask) ?_ fun _ _ e => e)
      rintro ⟨⟨⟩, st'⟩ _ ⟨har, hf, rfl⟩
      exact st_tail kH Ba ho2 (by rw [R.sz]; exact h64) (fun h' c k1 g1 => fin h' c k1 g1) (kat_snds rfl har) hf
  run_tac Mine.Sh.fin
end
end

section -- S4
theorem forIn2 {α β : Type} {M : Model} {A : Around} {E : Value → Shared → Prop} {s : Shared} {x y : α} {b : β} {f : α → β → Sem (ForInStep β)} {Q : β → Shared → Prop}
    (h : wpAny M A (f x b) (fun r s₁ => match r with
      | .done b' => Q b' s₁
      | .yield b' => wpAny M A (f y b') (fun r s₂ => match r with
        | .done b'' => Q b'' s₂
        | .yield b'' => Q b'' s₂) E s₁) E s) : wpAny M A (forIn [x, y] b f) Q E s := by
  run_tac Mine.Sh.mark
  focus
    rw [List.forIn_cons]
    refine wpAny_bind (wpAny_mono h (fun r s₁ h₁ => ?_) fun _ _ e => e)
    cases r with
    | done b' => exact wpAny_pure h₁
    | yield b' =>
      show wpAny M A (forIn [y] b' f) Q E s₁
      rw [List.forIn_cons]
      refine wpAny_bind (wpAny_mono h₁ (fun r s₂ h₂ => ?_) fun _ _ e => e)
      cases r with
      | done b'' => exact wpAny_pure h₂
      | yield b'' =>
        show wpAny M A (forIn [] b'' f) Q E s₂
        rw [List.forIn_nil]
        exact wpAny_pure h₂
  run_tac Mine.Sh.fin
theorem rich_lt {prog : Program} {w : World} {A : Around} {E : Value → Shared → Prop} {s : Shared} {a b : Int} {t u : Tok} {Q : Value → Shared → Prop} (h : Q (.bool (decide (a < b))) s) : wpAny (model prog w) A (richCompare .Lt (.int a t) (.int b u)) Q E s := lt_int h
theorem rich_le {prog : Program} {w : World} {A : Around} {E : Value → Shared → Prop} {s : Shared} {a b : Int} {t u : Tok} {Q : Value → Shared → Prop} (h : Q (.bool (decide (a ≤ b))) s) : wpAny (model prog w) A (richCompare .LtE (.int a t) (.int b u)) Q E s := le_int h
theorem rich_gt {prog : Program} {w : World} {A : Around} {E : Value → Shared → Prop} {s : Shared} {a b : Int} {t u : Tok} {Q : Value → Shared → Prop} (h : Q (.bool (decide (a > b))) s) : wpAny (model prog w) A (richCompare .Gt (.int a t) (.int b u)) Q E s := gt_int h
theorem forIn2' {α β : Type} {M : Model} {A : Around} {E : Value → Shared → Prop} {s : Shared} {l : List α} {x y : α} {b : β} {f : α → β → Sem (ForInStep β)} {Q : β → Shared → Prop} (hl : l = [x, y])
    (h : wpAny M A (f x b) (fun r s₁ => match r with
      | .done b' => Q b' s₁
      | .yield b' => wpAny M A (f y b') (fun r s₂ => match r with
        | .done b'' => Q b'' s₂
        | .yield b'' => Q b'' s₂) E s₁) E s) : wpAny M A (forIn l b f) Q E s := by subst hl; exact forIn2 h
theorem eqb {prog : Program} {w : World} {A : Around} {E : Value → Shared → Prop} {s : Shared} {a b : Int} {t u : Tok} {r : Bool} {Q : Bool → Shared → Prop} (hr : decide (a = b) = r) (h : Q r s) : wpAny (model prog w) A (eqBool (.int a t) (.int b u)) Q E s :=
  wpAny_eqBool_int (by rw [show (a == b) = decide (a = b) from rfl, hr]; exact h)
theorem tup_items {M : Model} {A : Around} {E : Value → Shared → Prop} {hp : Heap} {g : Array GenState} {dd : Drawn} {tk : Nat} {os : OsState} {l : Addr} {vs : List Value} {Q : Array Value → Shared → Prop} (hl : hp.get? l = some (tupO vs)) (h : Q vs.toArray ⟨hp, g, dd, tk, os⟩) : wpAny M A (Builtin.Tuple.tupleItemsOf (.ref l)) Q E ⟨hp, g, dd, tk, os⟩ := by
  wp_walk using wpAny_loadPart' hl
  exact h
theorem tup_le (l r : Addr) (a b c d : Int) (t u v z : Tok) :
    Meets (Builtin.«tuple.__le__» ⟨[.ref l, .ref r], []⟩)
      (fun A R s => s.heap.get? l = some (tupO [.int a t, .int b u]) ∧ s.heap.get? r = some (tupO [.int c v, .int d z]) ∧
        R (.ok (.ret (.bool (if a = c then (if b = d then true else decide (b ≤ d)) else decide (a ≤ c))))) s) :=
  .of_wp fun prog w A R s h => by
    obtain ⟨hp, g, dd, tk, os⟩ := s; obtain ⟨hl, hb, h⟩ := h
    have f2 := AutoSeq1.sub_tuple_tuple
    unfold Builtin.«tuple.__le__»
    refine bindHide fun F hF => ?_
    refine wpAny_of_eq (a := (.ref l, [.ref r])) (by first | rfl | kernel_rfl!) ?_
    subst hF
    dsimp only
    refine bindHide fun F hF => ?_
    refine wpAny_isInstance (T := "tuple") (b := true) ⟨_, hb, rfl⟩ f2 ?_
    subst hF
    dsimp only
    refine wpIfF rfl ?_
    refine bindHide fun F hF => ?_
    refine tup_items hl ?_
    subst hF
    refine bindHide fun F hF => ?_
    refine tup_items hb ?_
    subst hF
    refine bindHide fun F hF => ?_
    refine forIn2' (x := (Value.int a t, Value.int c v)) (y := (Value.int b u, Value.int d z)) rfl ?_
    refine bindHide fun G hG => ?_
    refine eqb (r := decide (a = c)) rfl ?_
    subst hG
    by_cases h1 : a = c
    · rw [if_pos h1] at h
      rw [decide_eq_true h1]
      refine wpIfF rfl ?_
      refine wpAny_pure ?_
      dsimp only
      refine bindHide fun G hG => ?_
      refine eqb (r := decide (b = d)) rfl ?_
      subst hG
      by_cases h2 : b = d
      · rw [if_pos h2] at h
        rw [decide_eq_true h2]
        refine wpIfF rfl ?_
        refine wpAny_pure ?_
        dsimp only
        subst hF
        exact wpAny_pure ⟨_, rfl, h⟩
      · rw [if_neg h2] at h
        rw [decide_eq_false h2]
        refine wpIfPos rfl ?_
        refine wpAny_bind (wpAny_rule ?_)
        refine bindHide fun G hG => ?_
        refine rich_le ?_
        subst hG
        refine wpAny_bind (wpAny_pure ?_)
        refine wpAny_pure ?_
        dsimp only
        subst hF
        exact wpAny_pure ⟨_, rfl, h⟩
    · rw [if_neg h1] at h
      rw [decide_eq_false h1]
      refine wpIfPos rfl ?_
      refine wpAny_bind (wpAny_rule ?_)
      refine bindHide fun G hG => ?_
      refine rich_le ?_
      subst hG
      refine wpAny_bind (wpAny_pure ?_)
      refine wpAny_pure ?_
      dsimp only
      subst hF
      exact wpAny_pure ⟨_, rfl, h⟩
theorem tup_lt (l r : Addr) (a b c d : Int) (t u v z : Tok) :
    Meets (Builtin.«tuple.__lt__» ⟨[.ref l, .ref r], []⟩)
      (fun A R s => s.heap.get? l = some (tupO [.int a t, .int b u]) ∧ s.heap.get? r = some (tupO [.int c v, .int d z]) ∧
        R (.ok (.ret (.bool (if a = c then (if b = d then false else decide (b < d)) else decide (a < c))))) s) :=
  .of_wp fun prog w A R s h => by
    obtain ⟨hp, g, dd, tk, os⟩ := s; obtain ⟨hl, hb, h⟩ := h
    have f2 := AutoSeq1.sub_tuple_tuple
    unfold Builtin.«tuple.__lt__»
    refine bindHide fun F hF => ?_
    refine wpAny_of_eq (a := (.ref l, [.ref r])) (by first | rfl | kernel_rfl!) ?_
    subst hF
    dsimp only
    refine bindHide fun F hF => ?_
    refine wpAny_isInstance (T := "tuple") (b := true) ⟨_, hb, rfl⟩ f2 ?_
    subst hF
    dsimp only
    refine wpIfF rfl ?_
    refine bindHide fun F hF => ?_
    refine tup_items hl ?_
    subst hF
    refine bindHide fun F hF => ?_
    refine tup_items hb ?_
    subst hF
    refine bindHide fun F hF => ?_
    refine forIn2' (x := (Value.int a t, Value.int c v)) (y := (Value.int b u, Value.int d z)) rfl ?_
    refine bindHide fun G hG => ?_
    refine eqb (r := decide (a = c)) rfl ?_
    subst hG
    by_cases h1 : a = c
    · rw [if_pos h1] at h
      rw [decide_eq_true h1]
      refine wpIfF rfl ?_
      refine wpAny_pure ?_
      dsimp only
      refine bindHide fun G hG => ?_
      refine eqb (r := decide (b = d)) rfl ?_
      subst hG
      by_cases h2 : b = d
      · rw [if_pos h2] at h
        rw [decide_eq_true h2]
        refine wpIfF rfl ?_
        refine wpAny_pure ?_
        dsimp only
        subst hF
        exact wpAny_pure ⟨_, rfl, h⟩
      · rw [if_neg h2] at h
        rw [decide_eq_false h2]
        refine wpIfPos rfl ?_
        refine wpAny_bind (wpAny_rule ?_)
        refine bindHide fun G hG => ?_
        refine rich_lt ?_
        subst hG
        refine wpAny_bind (wpAny_pure ?_)
        refine wpAny_pure ?_
        dsimp only
        subst hF
        exact wpAny_pure ⟨_, rfl, h⟩
    · rw [if_neg h1] at h
      rw [decide_eq_false h1]
      refine wpIfPos rfl ?_
      refine wpAny_bind (wpAny_rule ?_)
      refine bindHide fun G hG => ?_
      refine rich_lt ?_
      subst hG
      refine wpAny_bind (wpAny_pure ?_)
      refine wpAny_pure ?_
      dsimp only
      subst hF
      exact wpAny_pure ⟨_, rfl, h⟩
theorem tup_gt (l r : Addr) (a b c d : Int) (t u v z : Tok) :
    Meets (Builtin.«tuple.__gt__» ⟨[.ref l, .ref r], []⟩)
      (fun A R s => s.heap.get? l = some (tupO [.int a t, .int b u]) ∧ s.heap.get? r = some (tupO [.int c v, .int d z]) ∧
        R (.ok (.ret (.bool (if a = c then (if b = d then false else decide (b > d)) else decide (a > c))))) s) :=
  .of_wp fun prog w A R s h => by
    obtain ⟨hp, g, dd, tk, os⟩ := s; obtain ⟨hl, hb, h⟩ := h
    have f2 := AutoSeq1.sub_tuple_tuple
    unfold Builtin.«tuple.__gt__»
    refine bindHide fun F hF => ?_
    refine wpAny_of_eq (a := (.ref l, [.ref r])) (by first | rfl | kernel_rfl!) ?_
    subst hF
    dsimp only
    refine bindHide fun F hF => ?_
    refine wpAny_isInstance (T := "tuple") (b := true) ⟨_, hb, rfl⟩ f2 ?_
    subst hF
    dsimp only
    refine wpIfF rfl ?_
    refine bindHide fun F hF => ?_
    refine tup_items hl ?_
    subst hF
    refine bindHide fun F hF => ?_
    refine tup_items hb ?_
    subst hF
    refine bindHide fun F hF => ?_
    refine forIn2' (x := (Value.int a t, Value.int c v)) (y := (Value.int b u, Value.int d z)) rfl ?_
    refine bindHide fun G hG => ?_
    refine eqb (r := decide (a = c)) rfl ?_
    subst hG
    by_cases h1 : a = c
    · rw [if_pos h1] at h
      rw [decide_eq_true h1]
      refine wpIfF rfl ?_
      refine wpAny_pure ?_
      dsimp only
      refine bindHide fun G hG => ?_
      refine eqb (r := decide (b = d)) rfl ?_
      subst hG
      by_cases h2 : b = d
      · rw [if_pos h2] at h
        rw [decide_eq_true h2]
        refine wpIfF rfl ?_
        refine wpAny_pure ?_
        dsimp only
        subst hF
        exact wpAny_pure ⟨_, rfl, h⟩
      · rw [if_neg h2] at h
        rw [decide_eq_false h2]
        refine wpIfPos rfl ?_
        refine wpAny_bind (wpAny_rule ?_)
        refine bindHide fun G hG => ?_
        refine rich_gt ?_
        subst hG
        refine wpAny_bind (wpAny_pure ?_)
        refine wpAny_pure ?_
        dsimp only
        subst hF
        exact wpAny_pure ⟨_, rfl, h⟩
    · rw [if_neg h1] at h
      rw [decide_eq_false h1]
      refine wpIfPos rfl ?_
      refine wpAny_bind (wpAny_rule ?_)
      refine bindHide fun G hG => ?_
      refine rich_gt ?_
      subst hG
      refine wpAny_bind (wpAny_pure ?_)
      refine wpAny_pure ?_
      dsimp only
      subst hF
      exact wpAny_pure ⟨_, rfl, h⟩
section
variable {prog : Program} {w : World} {A : Around} {E : Value → Shared → Prop} {s : Shared} {l r : Addr} {a b c d : Int} {t u v z : Tok} {Q : Value → Shared → Prop}
theorem cmp_le (hl : s.heap.get? l = some (tupO [.int a t, .int b u])) (hr : s.heap.get? r = some (tupO [.int c v, .int d z])) (hu : A.units < cLine) (h : Q (.bool (if a = c then (if b = d then true else decide (b ≤ d)) else decide (a ≤ c))) s) :
    wpAny (model prog w) A (compareOp .LtE (.ref l) (.ref r)) Q E s :=
  richCompare_meets_room (op := .LtE) ⟨_, hl, rfl⟩ ⟨_, hr, rfl⟩ F.slot_tuple_le F.entry_tuple_le (F.args_tuple_le_2 _ _) (tup_le l r a b c d t u v z) ⟨hl, hr, ⟨(fun x => nomatch x), h⟩⟩ hu
theorem cmp_lt (hl : s.heap.get? l = some (tupO [.int a t, .int b u])) (hr : s.heap.get? r = some (tupO [.int c v, .int d z])) (hu : A.units < cLine) (h : Q (.bool (if a = c then (if b = d then false else decide (b < d)) else decide (a < c))) s) :
    wpAny (model prog w) A (compareOp .Lt (.ref l) (.ref r)) Q E s :=
  richCompare_meets_room (op := .Lt) ⟨_, hl, rfl⟩ ⟨_, hr, rfl⟩ F.slot_tuple_lt F.entry_tuple_lt (F.args_tuple_lt_2 _ _) (tup_lt l r a b c d t u v z) ⟨hl, hr, ⟨(fun x => nomatch x), h⟩⟩ hu
theorem cmp_gt (hl : s.heap.get? l = some (tupO [.int a t, .int b u])) (hr : s.heap.get? r = some (tupO [.int c v, .int d z])) (hu : A.units < cLine) (h : Q (.bool (if a = c then (if b = d then false else decide (b > d)) else decide (a > c))) s) :
    wpAny (model prog w) A (compareOp .Gt (.ref l) (.ref r)) Q E s :=
  richCompare_meets_room (op := .Gt) ⟨_, hl, rfl⟩ ⟨_, hr, rfl⟩ F.slot_tuple_gt F.entry_tuple_gt (F.args_tuple_gt_2 _ _) (tup_gt l r a b c d t u v z) ⟨hl, hr, ⟨(fun x => nomatch x), h⟩⟩ hu
end
end

section -- Gw
theorem whl_ind {prog : Program} {w : World} {A : Around} {E : Value → Shared → Prop} {env : Env} {test : PySem.Expr} {body orelse : List Stmt} {Q : Flow → Shared → Prop} (I : Nat → Shared → Prop)
   (h0 : ∀ s, I 0 s → WhlRest prog w A E env test body orelse Q 1 s)
   (hs : ∀ k s, I (k + 1) s → (∀ s', I k s' → WhlRest prog w A E env test body orelse Q (k + 1) s') → WhlRest prog w A E env test body orelse Q (k + 2) s) : ∀ k s, I k s → WhlRest prog w A E env test body orelse Q (k + 1) s
  | 0, s, h => h0 s h
  | k+1, s, h => hs k s h (whl_ind I h0 hs k)
end

section -- G5
theorem halt_any {α : Type} {l : List α} {f : α → Bool} {p q : Prop} (h : Halt (if (l.any f) = true then p else q)) : if (l.any f) = true then p else q := h
theorem ite_isTrue5 {b : Bool} {p q : Prop} (h : b = true) (hp : p) : if b = true then p else q := by rw [h]; exact hp
theorem sb1_ne5 {a b : Nat} (h : a ≠ b) : (S1 a == S1 b) = false := by rw [sb1]; exact decide_eq_false h
theorem mem2 {a b : Addr × Obj} {l : List (Addr × Obj)} (ha : a ∈ l) (hb : b ∈ l) : ∀ p ∈ [a, b], p ∈ l := fun p hp => by
  rcases List.mem_cons.mp hp with rfl | hp
  · exact ha
  · exact List.mem_singleton.mp hp ▸ hb
theorem typeIs_fn {h₀ h : Heap} {L : Addr} {m : Str → Option Value} {news : List (Addr × Obj)} {g : Array GenState} {d : Drawn} {t : Nat} {os : OsState} {f : Addr} {name qual : Str} {params : Arguments} {body : Expr} {scope : Scope} {clos : List (Str × Addr)} {pm ctv : Value} {c' : Addr} (F : Fr h₀ L h m) (N : News h₀ L h news) (hm : (f, kla_obj name qual params body scope clos pm c' ctv) ∈ news) :
   (⟨h, g, d, t, os⟩ : Shared).TypeIs (.ref f) "function" := ⟨_, N.get hm, rfl⟩
theorem triples_ne {ps : Array Value} {x : Str} {t : Tok} (h : TriplesOk ps.toList) (e : ps[1]? = some (.str x t)) : False := by
  run_tac Mine.Sh.mark
  focus
    rw [← Array.getElem?_toList] at e
    cases hl : ps.toList with
    | nil => rw [hl] at e; cases e
    | cons a r =>
      cases r with
      | nil => rw [hl] at e; cases e
      | cons b r =>
        rw [hl] at e h
        simp only [List.getElem?_cons_succ, List.getElem?_cons_zero, Option.some.injEq] at e
        subst e
        cases a <;> exact h
  run_tac Mine.Sh.fin
theorem mem4 {a b c d : Addr × Obj} {l : List (Addr × Obj)} (ha : a ∈ l) (hb : b ∈ l) (hc : c ∈ l) (hd : d ∈ l) : ∀ p ∈ [a, b, c, d], p ∈ l := fun p hp => by
  rcases List.mem_cons.mp hp with rfl | hp
  · exact ha
  · rcases List.mem_cons.mp hp with rfl | hp
    · exact hb
    · rcases List.mem_cons.mp hp with rfl | hp
      · exact hc
      · exact List.mem_singleton.mp hp ▸ hd
noncomputable abbrev qualL : Str := Str.ofString "_translate.<locals>.<lambda>"
theorem len_app (a b : Str) : (a ++ b).length = a.length + b.length := by
  show (a.cps ++ b.cps).size = _
  rw [Array.size_append]; rfl
theorem len_bs : (Str.ofString "\\").length = 1 := rfl
theorem len_s1 (c : Nat) : (S1 c).length = 1 := rfl
local macro_rules | `(tactic| walk_at $k) => Mine.Tx.look k.getString "ite ==> (k_here; k_extra \"ite\")
subscriptTail Name Name str int ==> (k_here; refine item_strE (by with_reducible assumption) (by exact fitsSsize_of (N := 9223372036854775808) (by omega) (by omega) (Int.le_refl _)) (by omega) (by omega) ?_; intro _ _ ptk')
subscriptTail Name Constant str int ==> (k_here; k_dflt (refine item_strE (by with_reducible assumption) (by decide) (by omega) (by first | omega | exact Int.zero_lt_one | exact (show (0 : Int) < ((1 : Nat) : Int) from by decide)) ?_); intro _ _ ptk')
subscriptTail Name UnaryOp str int ==> (k_here; k_dflt (refine item_strE (by with_reducible assumption) (by decide) (by first | omega | exact (show -((1 : Nat) : Int) ≤ -1 from by decide)) (by first | omega | exact (show (-1 : Int) < ((1 : Nat) : Int) from by decide)) ?_); intro _ _ ptk')
subscriptTail Name Constant str int ==> (k_here; k_dflt (refine item_strE (by with_reducible assumption) (by decide) (by first | omega | exact (show -((1 : Nat) : Int) ≤ 0 from by decide)) (by first | omega | exact Int.zero_lt_one | exact (show (0 : Int) < ((1 : Nat) : Int) from by decide)) ?_); intro _ _ ptk')
exec While Compare ==> (k_here; k_dflt (refine halt ?_))
WhlIf ==> (k_here; k_extra \"whl\")
WhlRest ==> (k_here; k_extra \"ih\"; refine halt ?_)
getAttr ref ==> (k_here; (with_reducible show wpAny _ _ (getAttr (Value.ref _) (Str.ofString \"append\") true) _ _ _); (k_dflt (refine' getattr_app ?F ?N ?hl ?_; (case F => k_asm); (case N => k_asm); (case hl => k_mem); k_whole)); intro x' h' tk' F' N' l1; (try k_lt l1))
callWith ref ==> (k_here; (with_reducible show wpAny _ _ (callWith _ (Value.ref _) _ (backTo _ (starEach (_ :: _) _)) []) _ _ _); k_dflt (refine' callWith_app ?kN ?kM ?_; (case kN => k_asm); (case kM => k_mem); k_whole))
And ==> ((with_reducible show AppAt _ _ _ ∧ _); k_dflt (refine ⟨appAt_of (by k_asm) (by k_mem), ?_⟩); (try dsimp only [List.nil_append, List.cons_append]))
call ref ==> (k_here; (with_reducible show wpAny _ _ (call (Value.ref _) [_]) _ _ _); (k_dflt (refine' call_app ?F ?N ?hu ?U ?_ ?z; (case F => k_asm); (case N => k_asm); (case hu => k_mem); (case U => k_upd); (case z => (first | size_fits | (simp only [List.size_toArray]; exact Nat.le_trans (by assumption) (by decide)))); k_whole)); intro h' F' N'; (try k_sweep))
call ref ==> (k_here; (with_reducible show wpAny _ _ (call (Value.ref 48) _) _ _ _); (refine with_tp (by first | with_reducible assumption | exact TokPos.succ _) ?_); (k_dflt (refine' law_escape _ _ _ _ _ _ _ _ _ _ _ _ _ _ ?hc ?X ?T ?hd ?hu ?_; (case hc => with_reducible assumption); (case X => exact Frag.In.keeps (by assumption) (Fr.keep (by assumption))); (case T => exact Top.keeps (by assumption) (Fr.keep (by assumption))); (case hd => ((try dsimp only); omega)); (case hu => ((try dsimp only); omega)); k_whole)); intro t' h' tk' S' ptk'; (dsimp only at ptk'); (have F' := call_fr (by with_reducible assumption) S'); (have N' := call_news (by with_reducible assumption) (by with_reducible assumption) S' Fresh.nil); (try simp only [List.cons_append, List.nil_append] at N'); (try dsimp only))
execs cons ==> (k_here; (try dsimp only); (k_dflt (refine gen_succ ?_)); intro tk' ptk')
execs nil ==> (k_here; (try dsimp only); (first | ((k_dflt (refine gen_succ ?_)); intro tk' ptk') | with_reducible refine wpAny_execs_nil ?_))
getMethod ref ==> (k_here; (with_reducible show wpAny _ _ (getMethod (Value.ref 36) _ _) _ _ _); k_dflt (refine gm_sub (Frag.In.keeps (by assumption) (Fr.keep (by assumption))) ?_))
getMethod ref ==> (k_here; (with_reducible show wpAny _ _ (getMethod (Value.ref _) _ _) _ _ _); k_dflt (refine gm_group (Fr.keep (by with_reducible assumption) _ _ (by with_reducible assumption)) ?_))
call builtin:re.Match.group ==> (k_here; k_dflt (refine call_groupE (by with_reducible assumption) (Fr.keep (by with_reducible assumption) _ _ (by with_reducible assumption)) (Fr.keep (by with_reducible assumption) _ _ (by with_reducible assumption)) ?_); intro _ _)
eval Lambda ==> (k_here; (k_dflt (refine' kla_eval ?d0 ?_; (case d0 => exact rfl))); (refine with_tp (by first | with_reducible assumption | exact TokPos.succ _) ?_); (k_dflt (refine' lam_K ?F ?N ?T ?C ?cd ?U ?t ?hL ?hLP ?hx ?hqq ?cl ?_; (case F => k_asm); (case N => k_asm); (case hx => with_reducible assumption); (case hqq => kernel_rfl!); (case T => k_asm); (case cd => exact rfl); (case C => with_reducible assumption); (case U => k_updF); (case t => with_reducible assumption); (case hL => k_mem); (case hLP => (show @Ne Nat _ _); omega); (case cl => exact rfl); k_whole)); intro f' c' ct' ps' cL' oL' h' tk' F' N' Tt' Tx' Tr' l1 l2 ptk'; (try dsimp only at N'); (try dsimp only at ptk'); (try k_lt l1); (try simp only [NeOr, and_true] at l2))
call builtin:re.Pattern.sub ==> (k_here; k_extra \"sub\"; (refine with_tp (by first | with_reducible assumption | exact TokPos.succ _) ?_); (k_dflt (refine call_subN (Frag.In.keeps (by with_reducible assumption) (Fr.keep (by with_reducible assumption))) (typeIs_fn (by with_reducible assumption) (by with_reducible assumption) (List.Mem.head _)) (by with_reducible assumption) ?_)); intro h' tk' t' S' ptk'; (dsimp only at ptk'); (have F' := call_fr (by with_reducible assumption) (Sub.mk S')); (have N' := call_news (by with_reducible assumption) (by with_reducible assumption) (Sub.mk S') Fresh.nil); (try simp only [List.cons_append, List.nil_append] at N'); (try dsimp only))
call builtin:str.replace ==> (k_here; (refine replaceE (by with_reducible assumption) (by first | with_reducible assumption | exact TokPos.succ _) (by first | exact Nat.succ_ne_zero _ | exact TokPos.ne (by with_reducible assumption)) (by first | exact Nat.succ_ne_zero _ | exact TokPos.ne (by with_reducible assumption)) (by first | exact ne_succ _ | ((show @Ne Nat _ _); omega)) (by decide +kernel) (by first | omega | (show (1 : Nat) ≤ _; decide)) (by decide +kernel) ?_); intro t' k' ptk')
truthy str ==> (k_here; (with_reducible show wpAny _ _ (PySem.truthy (Value.str _ _)) _ _ _); (k_dflt (refine KXt.truthy_pos (K := 99) (by first | exact Nat.le_refl 1 | omega) (by first | exact Nat.le_of_ble_eq_true rfl | omega) (by decide) ?_)); intro _)
exec If ==> (k_here; refine wpAny_If ?_)
subscriptTail Name Slice str ref ==> (k_here; (with_reducible show wpAny _ _ (subscriptTail _ (Expr.Slice (some _) (some _) none _) _ _) _ _ _); (with_reducible rename Fr _ _ _ _ => F'); (with_reducible rename News _ _ _ _ => N'); (refine slice_strN_ssE (hsz := ?hsz) (by with_reducible assumption) F' N' (by first | with_reducible assumption | exact TokPos.succ _) rfl rfl ?_); (case hsz => exact Nat.le_trans (m := 99) (by omega) (by decide)); intro _ _ _ _ _ ptk')
pyIter ref ==> ((with_reducible show wpAny _ _ (pyIter (Value.ref _)) (fun it s₂ => LoopAtV _ _ _ _ _ _ _ _ _ it s₂) _ _); k_here; l_hasStore; krs_unr)
subscriptTail Name BinOp ref int ==> (k_here; k_dflt (first | (refine' item_led0 ?N ?hm ?hk ?_; (case N => k_asm); (case hm => k_mem); (case hk => rfl)) | (refine' item_led1 ?N ?hm ?hk ?_; (case N => k_asm); (case hm => k_mem); (case hk => rfl))))
subscriptTail Name Name ref int ==> (k_here; k_dflt (first | (refine' item_led0 ?N ?hm ?hk ?_; (case N => k_asm); (case hm => k_mem); (case hk => rfl)) | (refine' item_led1 ?N ?hm ?hk ?_; (case N => k_asm); (case hm => k_mem); (case hk => rfl))))
UnrEnd ==> (k_dflt (refine unrEnd_tail (by with_reducible assumption) (by with_reducible assumption) ?_ ?_); (first | (simp only [NeAll, and_true]; and_intros <;> omega) | skip))
exec While BoolOp ==> (k_here; k_dflt (refine whl_start 100 ?_))
exec While Constant ==> (k_here; k_dflt (refine halt ?_))
formatField str ==> (k_here; (refine formatField_str ?_ (by first | size_fits | exact Nat.le_trans (m := 99) (by first | omega | (rw [len_app]; omega)) (by decide))); intro _ _)
call builtin:str.find ==> (k_here; (refine find4E (by with_reducible assumption) ?_); intro _ _ ptk')"
inductive TInv (g : Heap) (L l u : Addr) (P : Str) (n : Nat) (parts : List Str) (dr : Drawn) (os : OsState) (t1 t2 : Tok) (BG : Array GenState → Prop) (k : Nat) : Shared → Prop
  | mk (i : Int) (rs ds : List Str) (vs : List Value) (kk : Nat) (h : Heap) (gn : Array GenState) (tk : Nat) (m₀ : Str → Option Value) (ti tn : Tok) (ps : Array Value) (cL : Addr) (oL : Obj)
    (h1 : rs.length = k) (h2 : Pieces P n i rs) (h3 : ds ++ rs = parts) (h4 : StrVals vs ds) (h5 : 0 ≤ i) (h6 : TokPos tk) (h7 : BG gn) (h8 : TriplesOk ps.toList) (h9 : TabFact g posL qualL ps cL oL) (h10 : @Ne Nat cL l ∧ @Ne Nat cL 50)
    (F : Fr g L h (fun y => if y = Str.ofString "i" then some (.int i ti) else if y = Str.ofString "n" then some (.int (P.length : Int) tn) else if y = Str.ofString "add" then some (.ref u) else if y = Str.ofString "res" then some (.ref l) else if y = Str.ofString "pat" then some (.str P t1) else if y = Str.ofString "STAR" then some .none else if y = Str.ofString "QUESTION_MARK" then some (.str (Str.ofString ".") t2) else m₀ y))
    (N : News g L h [(u, boundApp l), (l, listOf vs.toArray kk), (50, tabObj ps), (cL, oL)]) : TInv g L l u P n parts dr os t1 t2 BG k ⟨h, gn, dr, tk, os⟩
theorem law_translate (w : World) (loose : List Str) (mean : ExcName → Option Value) (mg mb : Str → Option Value)
   (dp un : Nat) (fr : Option (List Env)) (gd : Option (List Code)) (s : Shared) (Q E : Value → Shared → Prop) (h₀ : Heap) (ps : Array Value)
   (P : Str) (n : Nat) (parts : List Str) (t1 t2 : Tok) (hP : P.length = n) (hn : n < 100) (hparts : parts.length ≤ 9) (Pc : Pieces P n 0 parts)
   (St : Sub h₀ s.heap) (Bs : Beside h₀ s.heap [(50, tabObj ps)]) (CH : CodeHd h₀ 54 50) (Tt : TriplesOk ps.toList) (Tr : ∀ cv, codeAmong posL ps.toList = some cv → s.heap.CodeRec cv qualL) (ptk : TokPos s.toks)
   (X : (Mine.hd.heap_39 w.params).In h₀) (T : Top topProg loose mean mg mb h₀)
   (hd : dp + 30 < recursionLimit) (hu : un + 200 < cLine)
   (hret : ∀ (a : Addr) (vs : List Value) (k : Nat) (ps' : Array Value) (h' : Heap) (gn' : Array GenState) (tk' : Nat), StrVals vs parts → (∀ b o, b ≠ 50 → s.heap.get? b = some o → h'.get? b = some o) → h'.get? 50 = some (tabObj ps') → TriplesOk ps'.toList → (∀ cv, codeAmong posL ps'.toList = some cv → h'.CodeRec cv qualL) →
      Fresh s.heap h' [(a, listOf vs.toArray k)] → TokPos tk' → (AllBare s.gens → AllBare gn') → Q (.ref a) { s with heap := h', gens := gn', toks := tk' }) :
   wpAny (model prg w) (TP dp un fr gd) (call (.ref 55) [.str P t1, .none, .str (Str.ofString ".") t2]) Q E s := by
  run_tac Mine.Sh.mark
  focus
    obtain ⟨hp, gn, dr, tk, os⟩ := s
    dsimp only at St Bs Tr ptk hret ⊢
    obtain ⟨BG, hBG⟩ : ∃ BG : Array GenState → Prop, BG = fun x => AllBare gn → AllBare x := ⟨_, rfl⟩
    have BG0 : BG gn := by rw [hBG]; exact fun x => x
    obtain ⟨g, Sg, S, hle, Bs, Cv⟩ := hideUp St Bs
    have X := X.keeps Sg.stays
    have T := T.keeps Sg.stays
    have CH := CH.keeps Sg.stays
    have Tx : ∀ cL oL, TabFact g posL qualL ps cL oL := fun cL oL cv e => .inl (by
      obtain ⟨c', oc, vs, t, rfl, g1, g2, g3⟩ := Tr cv e
      rcases Cv _ _ g1 with g4 | g4
      · exact ⟨c', oc, vs, t, rfl, g4, g2, g3⟩
      · exfalso
        cases List.mem_singleton.mp g4
        cases g2
        exact triples_ne Tt g3)
    clear Sg St
    tb_start
    k_steps
    unfold Halt
    rename Fr _ _ _ _ => F'
    rename News _ _ _ _ => N'
    rename_i L h1 x1 tk1 p1 l h2 x2 h3 tk2 p2 u h4 tk3 x3 h5 tkb p3 D h6 x4 h7 h8 h9 tk9 p9
    have F1 := Fr.wrap (Fr.wrap (Fr.wrap F' (Str.ofString "QUESTION_MARK") (some (.str (Str.ofString ".") t2)) (by kernel_rfl!)) (Str.ofString "STAR") (some .none) (by kernel_rfl!)) (Str.ofString "pat") (some (.str P t1)) (by kernel_rfl!)
    have F2 := Fr.wrap (Fr.wrap (Fr.wrap (Fr.wrap F1 (Str.ofString "res") (some (.ref l)) (by kernel_rfl!)) (Str.ofString "add") (some (.ref u)) (by kernel_rfl!)) (Str.ofString "n") (some (.int (P.length : Int) (tkb + 1 + 1))) (by kernel_rfl!)) (Str.ofString "i") (some (.int 0 tkb)) (by kernel_rfl!)
    have N2 := News.sub N' (mem4 (a := (u, boundApp l)) (b := (l, listOf #[] 0)) (c := (50, tabObj ps)) (by k_mem) (by k_mem) (by k_mem) (List.Mem.head _))
    clear F' N' F1
    refine whl_start (parts.length + 1) (whl_ind (fun k s => TInv g L l u P n parts dr os t1 t2 BG k s) ?_ ?_ parts.length _ (.mk 0 parts [] [] 0 _ _ _ _ _ _ _ _ _ rfl Pc rfl .nil (Int.le_refl _) ?_ BG0 Tt (Tx _ _) ?_ F2 N2))
    · rintro s ⟨i, rs, ds, vs, kk, h, gn, tk, m₀, ti, tn, ps, cL, oL, hk, Pcs, hds, Vs, hi0, ptk, bgn, Tt, Tx, hcL, F', N'⟩
      obtain rfl : rs = [] := List.length_eq_zero_iff.mp hk
      cases Pcs with
      | nil hin =>
      k_with_none
      k_with "whl" => first
        | refine WhlIf.yes (by with_reducible assumption) ?_
        | refine WhlIf.no (by with_reducible assumption) ?_
        | refine WhlIf.yes (decide_eq_true (by omega)) ?_
        | refine WhlIf.no (decide_eq_false (by omega)) ?_
        | refine WhlIf.yes (by kernel_rfl!) ?_
        | refine WhlIf.no (by kernel_rfl!) ?_
      k_with "ite" => first
        | refine ite_isFalse (by with_reducible assumption) ?_
        | refine ite_isTrue5 (by with_reducible assumption) ?_
        | refine ite_isTrue5 (decide_eq_true (by omega)) ?_
        | refine ite_isFalse (decide_eq_false (by omega)) ?_
        | refine ite_isTrue5 (by kernel_rfl!) ?_
        | refine ite_isFalse (by kernel_rfl!) ?_
      k_steps
      rename Fr _ _ _ _ => F'
      rename News _ _ _ _ => N'
      have hl50 : l ≠ 50 := fun e => by rw [e] at x2; exact Nat.lt_irrefl _ x2
      have Nl := N' (l, listOf vs.toArray kk) (.tail _ (.head _))
      have N50 := N' (50, tabObj ps) (.tail _ (.tail _ (.head _)))
      refine hret l vs kk ps _ _ _ (by rw [← hds, List.append_nil]; exact Vs) (fun b o hb e => ?_) N50.1 Tt (fun cv e => Tx.rec F' N' (.tail _ (.tail _ (.tail _ (.head _)))) e) (fun p hp' => ?_) (by first | with_reducible assumption | exact TokPos.succ _) (by rw [hBG] at bgn; exact bgn)
      · rcases Cv b o e with e | e
        · exact F'.keep _ _ e
        · cases List.mem_singleton.mp e; exact absurd rfl hb
      · obtain rfl := List.mem_singleton.mp hp'
        refine ⟨Nl.1, ?_⟩
        cases e : hp.get? l with
        | none => rfl
        | some o =>
          rcases Cv l o e with e | e
          · have := Nl.2.2; rw [e] at this; cases this
          · cases List.mem_singleton.mp e; exact absurd rfl hl50
    · rintro k s ⟨i, rs, ds, vs, kk, h, gn, tk, m₀, ti, tn, ps, cL, oL, hk, Pcs, hds, Vs, hi0, ptk, bgn, Tt, Tx, hcL, F', N'⟩ ih
      cases Pcs with
      | nil _ => cases hk
      | @cons _ i' r rs' pc hlt hle' rest =>
      have hvl : vs.length ≤ 9 := by
        have e1 := congrArg List.length hds
        rw [List.length_append, ← Vs.length] at e1
        omega
      k_with_none
      k_with "whl" => first
        | refine WhlIf.yes (by with_reducible assumption) ?_
        | refine WhlIf.no (by with_reducible assumption) ?_
        | refine WhlIf.yes (decide_eq_true (by omega)) ?_
        | refine WhlIf.no (decide_eq_false (by omega)) ?_
        | refine WhlIf.yes (by kernel_rfl!) ?_
        | refine WhlIf.no (by kernel_rfl!) ?_
      k_with "ite" => first
        | refine ite_isFalse (by with_reducible assumption) ?_
        | refine ite_isTrue5 (by with_reducible assumption) ?_
        | refine ite_isTrue5 (decide_eq_true (by omega)) ?_
        | refine ite_isFalse (decide_eq_false (by omega)) ?_
        | refine ite_isTrue5 (by kernel_rfl!) ?_
        | refine ite_isFalse (by kernel_rfl!) ?_
        | (with_reducible refine halt_any ?_)
      k_with "ih" => refine ih _ ?_
      have fin : ∀ (h : Heap) (gn : Array GenState) (tk : Nat) (m₀ : Str → Option Value) (ti tn t : Tok) (ps : Array Value) (cL : Addr) (oL : Obj), TokPos tk → BG gn → TriplesOk ps.toList → TabFact g posL qualL ps cL oL → (@Ne Nat cL l ∧ @Ne Nat cL 50) → Fr g L h (fun y => if y = Str.ofString "i" then some (.int i' ti) else if y = Str.ofString "n" then some (.int (P.length : Int) tn) else if y = Str.ofString "add" then some (.ref u) else if y = Str.ofString "res" then some (.ref l) else if y = Str.ofString "pat" then some (.str P t1) else if y = Str.ofString "STAR" then some .none else if y = Str.ofString "QUESTION_MARK" then some (.str (Str.ofString ".") t2) else m₀ y) →
        News g L h [(u, boundApp l), (l, listOf (vs.toArray.push (.str r t)) (kk + 1)), (50, tabObj ps), (cL, oL)] →
        TInv g L l u P n parts dr os t1 t2 BG k ⟨h, gn, dr, tk, os⟩ := fun h gn tk m₀ ti tn t ps cL oL a1 ab a2 a3 a4 FF NN =>
          .mk i' rs' (ds ++ [r]) (vs ++ [.str r t]) (kk + 1) h gn tk m₀ ti tn ps cL oL (Nat.succ.inj hk) rest (by rw [← hds, List.append_assoc]; rfl) (Vs.snoc r t) (by omega) a1 ab a2 a3 a4 FF (by rw [← List.push_toArray]; exact NN)
      cases pc with
      | q p0 =>
        k_steps
        rename Fr _ _ _ _ => F'
        rename News _ _ _ _ => N'
        unfold Halt
        refine fin _ _ _ _ _ _ _ _ _ _ (by with_reducible assumption) (by with_reducible assumption) (by with_reducible assumption) (by with_reducible assumption) (by omega) (Fr.wrap (Fr.wrap (Fr.wrap (Fr.wrap (Fr.wrap (Fr.wrap (Fr.wrap F' (Str.ofString "QUESTION_MARK") _ (by kernel_rfl!)) (Str.ofString "STAR") _ (by kernel_rfl!)) (Str.ofString "pat") _ (by kernel_rfl!)) (Str.ofString "res") _ (by kernel_rfl!)) (Str.ofString "add") _ (by kernel_rfl!)) (Str.ofString "n") _ rfl) (Str.ofString "i") _ rfl) (News.sub N' (mem4 (by k_mem) (by k_mem) (by k_mem) (by k_mem)))
      | sign c hc p0 c1 c2 c3 =>
        k_steps
        rename Fr _ _ _ _ => F'
        rename News _ _ _ _ => N'
        unfold Halt
        refine fin _ _ _ _ _ _ _ _ _ _ (by with_reducible assumption) (by with_reducible assumption) (by with_reducible assumption) (by with_reducible assumption) (by omega) (Fr.wrap (Fr.wrap (Fr.wrap (Fr.wrap (Fr.wrap (Fr.wrap (Fr.wrap F' (Str.ofString "QUESTION_MARK") _ (by kernel_rfl!)) (Str.ofString "STAR") _ (by kernel_rfl!)) (Str.ofString "pat") _ (by kernel_rfl!)) (Str.ofString "res") _ (by kernel_rfl!)) (Str.ofString "add") _ (by kernel_rfl!)) (Str.ofString "n") _ rfl) (Str.ofString "i") _ rfl) (News.sub N' (mem4 (by k_mem) (by k_mem) (by k_mem) (by k_mem)))
      | set c hat p0 p1 p2 sl c1 c2 c3 c4 o1 r1 i0 sn =>
        k_with "sub" => skip
        have lc := len_s1 c
        k_steps
        unfold Halt
        cases hat
        · k_steps
          rename Fr _ _ _ _ => F'
          rename News _ _ _ _ => N'
          unfold Halt
          refine fin _ _ _ _ _ _ _ _ _ _ (by with_reducible assumption) (by with_reducible assumption) (by with_reducible assumption) (by with_reducible assumption) (by omega) (Fr.wrap (Fr.wrap (Fr.wrap (Fr.wrap (Fr.wrap (Fr.wrap (Fr.wrap F' (Str.ofString "QUESTION_MARK") _ (by kernel_rfl!)) (Str.ofString "STAR") _ (by kernel_rfl!)) (Str.ofString "pat") _ (by kernel_rfl!)) (Str.ofString "res") _ (by kernel_rfl!)) (Str.ofString "add") _ (by kernel_rfl!)) (Str.ofString "n") _ rfl) (Str.ofString "i") _ rfl) (News.sub N' (mem4 (by k_mem) (by k_mem) (by k_mem) (by k_mem)))
        · have lb := len_bs
          k_steps
          rename Fr _ _ _ _ => F'
          rename News _ _ _ _ => N'
          unfold Halt
          refine fin _ _ _ _ _ _ _ _ _ _ (by with_reducible assumption) (by with_reducible assumption) (by with_reducible assumption) (by with_reducible assumption) (by omega) (Fr.wrap (Fr.wrap (Fr.wrap (Fr.wrap (Fr.wrap (Fr.wrap (Fr.wrap F' (Str.ofString "QUESTION_MARK") _ (by kernel_rfl!)) (Str.ofString "STAR") _ (by kernel_rfl!)) (Str.ofString "pat") _ (by kernel_rfl!)) (Str.ofString "res") _ (by kernel_rfl!)) (Str.ofString "add") _ (by kernel_rfl!)) (Str.ofString "n") _ rfl) (Str.ofString "i") _ rfl) (News.sub N' (mem4 (by k_mem) (by k_mem) (by k_mem) (by k_mem)))
      | brk B C p0 p1 p2 p3 sl lB lC o1 r1 sn c1 i0 =>
        k_with "sub" => skip
        k_steps
        rename Fr _ _ _ _ => F'
        rename News _ _ _ _ => N'
        unfold Halt
        refine fin _ _ _ _ _ _ _ _ _ _ (by with_reducible assumption) (by with_reducible assumption) (by with_reducible assumption) (by with_reducible assumption) (by omega) (Fr.wrap (Fr.wrap (Fr.wrap (Fr.wrap (Fr.wrap (Fr.wrap (Fr.wrap F' (Str.ofString "QUESTION_MARK") _ (by kernel_rfl!)) (Str.ofString "STAR") _ (by kernel_rfl!)) (Str.ofString "pat") _ (by kernel_rfl!)) (Str.ofString "res") _ (by kernel_rfl!)) (Str.ofString "add") _ (by kernel_rfl!)) (Str.ofString "n") _ rfl) (Str.ofString "i") _ rfl) (News.sub N' (mem4 (by k_mem) (by k_mem) (by k_mem) (by k_mem)))
      | rng a b e hat X y z y2 z2 J K p0 p1 p2 p3 p4 a1 a2 a3 b1 sl lX o1 f1 f2 sa sb ia ib gt r1 r2 r3 r4 ly lz ly2 lz2 hJ jok lJ st lK1 lK2 k1 ik k2 hh =>
        have la := len_s1 a
        have lb := len_s1 b
        have le := len_s1 e
        k_steps
        unfold Halt
        refine whl_start 3 ?_
        k_steps
        refine with_tp (by first | with_reducible assumption | exact TokPos.succ _) ?_
        k_dflt (refine' genexp_T (Ft := fun i y => ∃ t, y = Value.str (bif i == 0 then z else z2) t) ?F ?N ?T ?C ?hcode ?hge ?U ?ht ?hl ?hh ?hco ?hclos ?hcell ?h0 ?hx ?hkind ?hroom ?hit ?helt ?h ?hs)
        case F => k_asm
        case N => k_asm
        case T => k_asm
        case C => with_reducible assumption
        case hcode => exact rfl
        case hge => exact rfl
        case U => k_updF
        case ht => with_reducible assumption
        case hl => k_mem
        case hh => exact rfl
        case hco => exact rfl
        case hclos => exact rfl
        case hcell => decide
        case h0 => exact rfl
        case hx => exact rfl
        case hkind => exact rfl
        case hroom => (first | omega | ktr_room | ((try dsimp only); omega))
        case hs => (intro _; exact rfl)
        case hit =>
          intro Q' hq
          clear ih fin
          walk1
          exact hq
        case helt =>
          rename Fr _ _ _ _ => Fo
          rename News _ _ _ _ => No
          clear Fo No ih fin
          intro C' cd A' E' i' v t m₂ hA hD hU ht' hiv hF hm
          obtain ⟨h9, g9, d9, t9, o9⟩ := t
          dsimp only at ht' hF hD hU
          have hd' : A'.depth + 10 < recursionLimit := Nat.lt_of_le_of_lt (Nat.add_le_add_right hD 10) (by show dp + 1 + 1 + 10 < _; omega)
          have hu' : A'.units + 80 < cLine := Nat.lt_of_le_of_lt (Nat.add_le_add_right hU 80) (by show un + _ + 8 + 80 < _; omega)
          have ptk9 : TokPos t9 := ht'
          have N9 : News g C' h9 [] := fun _ h => nomatch h
          have F9 := Fr.wrap hF (Str.ofString "s") _ hm
          clear hF
          match i', hiv with
          | 0, hiv =>
            obtain rfl := Option.some.inj (show some _ = some v from hiv)
            exact gen_elt w loose mean mg mb A' E' _ g C' cd _ _ m₂ h9 g9 d9 t9 o9 (S1 a) y z _ (by omega) ly r1 r2 (by assumption) (by assumption) F9 N9 hA hd' hu' ptk9 (fun t' k => ⟨⟨_, rfl⟩, ⟨_, _, rfl, fun _ _ e => e⟩⟩)
          | 1, hiv =>
            obtain rfl := Option.some.inj (show some _ = some v from hiv)
            exact gen_elt w loose mean mg mb A' E' _ g C' cd _ _ m₂ h9 g9 d9 t9 o9 (S1 b) y2 z2 _ (by omega) ly2 r3 r4 (by assumption) (by assumption) F9 N9 hA hd' hu' ptk9 (fun t' k => ⟨⟨_, rfl⟩, ⟨_, _, rfl, fun _ _ e => e⟩⟩)
          | n9 + 2, hiv => cases hiv
        case h =>
          rename Fr _ _ _ _ => Fo
          rename News _ _ _ _ => No
          clear Fo No
          intro ga s₅ ps5 K5 e1 e2 F' N' Gw hLK hnK Gn bb5 ptk5
          obtain ⟨h5, g5, d5, t5, o5⟩ := s₅
          dsimp only at e1 e2 F' N' Gw Gn bb5 ptk5
          subst e1 e2
          have Tt5 := Gw.1
          have Tx5 := TabFact.grown Tx Gw (by decide)
          clear Tt Tx Gw
          k_steps
          refine join_E F' N' ptk5 Gn hLK hnK (fun j => bif j == 0 then z else z2) (fun _ _ h => h) jok hJ (by show 2 ≤ sizeLine; decide) ?_
          clear Gn hLK hnK F' N' ptk5 p0 p1 p2 p3 p4 a1 a2 a3 b1 sl lX o1 f1 f2 sa sb ia ib gt r1 r2 r3 r4 ly lz ly2 lz2 hJ jok
          intro h6 g6 t6 t7 bb6 F' N' ptk6
          have bgn6 : BG g6 := by
            rw [hBG] at bgn ⊢
            exact fun x => bb6 (bb5 (bgn x))
          clear bb5 bb6 bgn
          cases st with
          | hit z =>
            k_steps
            refine with_tp (by first | with_reducible assumption | exact TokPos.succ _) ?_
            refine call_sub_match (Frag.In.keeps (by with_reducible assumption) (Fr.keep (by with_reducible assumption))) (typeIs_fn (by with_reducible assumption) (by with_reducible assumption) (List.Mem.head _)) z.h0 z.hf z.hm z.h0' z.hf' z.hd z.hs z.hok ?hcall ?_
            case hcall =>
              have hx := z.hx
              rename Fr _ _ _ _ => Fo
              rename News _ _ _ _ => No
              have lf := No.get (List.Mem.head _)
              have kF := Fo.keep
              clear No ih fin z
              intro mo tu s' Q' E' m1 m2 m3 hq
              obtain ⟨h9, g9, d9, t9, o9⟩ := s'
              dsimp only at m1 m2 m3 hq
              have T9 := T.keeps fun b o e => m3 b o (kF b o e)
              have lf9 := m3 _ _ lf
              rename Heap.CodeRec _ _ _ => cr
              have cr9 := cr.keeps m3
              clear lf cr kF Fo
              refine wpAny_call ?_
              refine enterL (K := Mine.hd.heap_39 w.params) (binds := [(Str.ofString "_m", .ref mo)]) (g := h9) T9 (Sub.refl _) (Nat.le_refl _) Beside.nil lf9 cr9 ?hroom ?hbind ?hloc ?_ rfl rfl rfl ?hcell
              case hroom => (show dp + _ < _; omega)
              case hbind => exact rfl
              case hloc => exact locs rfl
              case hcell => decide
              intro L9 h10 F' N' l1
              clear l1
              try dsimp only
              k_steps
              rename Fr _ _ _ _ => F'
              exact hq _ _ _ F'.keep
            intro h8 tk8 t8 S8 ptk8
            dsimp only at ptk8
            rw [z.hj]
            have F' := call_fr (by with_reducible assumption) (Sub.mk S8)
            have N' := call_news (by with_reducible assumption) (by with_reducible assumption) (Sub.mk S8) Fresh.nil
            simp only [List.nil_append] at N'
            clear z
            k_steps
            unfold Halt
            cases hat
            · k_steps
              rename Fr _ _ _ _ => F'
              rename News _ _ _ _ => N'
              unfold Halt
              refine fin _ _ _ _ _ _ _ _ _ _ (by with_reducible assumption) (by with_reducible assumption) (by with_reducible assumption) (by with_reducible assumption) (by omega) (Fr.wrap (Fr.wrap (Fr.wrap (Fr.wrap (Fr.wrap (Fr.wrap (Fr.wrap F' (Str.ofString "QUESTION_MARK") _ (by kernel_rfl!)) (Str.ofString "STAR") _ (by kernel_rfl!)) (Str.ofString "pat") _ (by kernel_rfl!)) (Str.ofString "res") _ (by kernel_rfl!)) (Str.ofString "add") _ (by kernel_rfl!)) (Str.ofString "n") _ rfl) (Str.ofString "i") _ rfl) (News.sub N' (mem4 (by k_mem) (by k_mem) (by k_mem) (by k_mem)))
            · have lb := len_bs
              k_steps
              rename Fr _ _ _ _ => F'
              rename News _ _ _ _ => N'
              unfold Halt
              refine fin _ _ _ _ _ _ _ _ _ _ (by with_reducible assumption) (by with_reducible assumption) (by with_reducible assumption) (by with_reducible assumption) (by omega) (Fr.wrap (Fr.wrap (Fr.wrap (Fr.wrap (Fr.wrap (Fr.wrap (Fr.wrap F' (Str.ofString "QUESTION_MARK") _ (by kernel_rfl!)) (Str.ofString "STAR") _ (by kernel_rfl!)) (Str.ofString "pat") _ (by kernel_rfl!)) (Str.ofString "res") _ (by kernel_rfl!)) (Str.ofString "add") _ (by kernel_rfl!)) (Str.ofString "n") _ rfl) (Str.ofString "i") _ rfl) (News.sub N' (mem4 (by k_mem) (by k_mem) (by k_mem) (by k_mem)))
          | none sn =>
          k_with "sub" => skip
          k_steps
          unfold Halt
          cases hat
          · k_steps
            rename Fr _ _ _ _ => F'
            rename News _ _ _ _ => N'
            unfold Halt
            refine fin _ _ _ _ _ _ _ _ _ _ (by with_reducible assumption) (by with_reducible assumption) (by with_reducible assumption) (by with_reducible assumption) (by omega) (Fr.wrap (Fr.wrap (Fr.wrap (Fr.wrap (Fr.wrap (Fr.wrap (Fr.wrap F' (Str.ofString "QUESTION_MARK") _ (by kernel_rfl!)) (Str.ofString "STAR") _ (by kernel_rfl!)) (Str.ofString "pat") _ (by kernel_rfl!)) (Str.ofString "res") _ (by kernel_rfl!)) (Str.ofString "add") _ (by kernel_rfl!)) (Str.ofString "n") _ rfl) (Str.ofString "i") _ rfl) (News.sub N' (mem4 (by k_mem) (by k_mem) (by k_mem) (by k_mem)))
          · have lb := len_bs
            k_steps
            rename Fr _ _ _ _ => F'
            rename News _ _ _ _ => N'
            unfold Halt
            refine fin _ _ _ _ _ _ _ _ _ _ (by with_reducible assumption) (by with_reducible assumption) (by with_reducible assumption) (by with_reducible assumption) (by omega) (Fr.wrap (Fr.wrap (Fr.wrap (Fr.wrap (Fr.wrap (Fr.wrap (Fr.wrap F' (Str.ofString "QUESTION_MARK") _ (by kernel_rfl!)) (Str.ofString "STAR") _ (by kernel_rfl!)) (Str.ofString "pat") _ (by kernel_rfl!)) (Str.ofString "res") _ (by kernel_rfl!)) (Str.ofString "add") _ (by kernel_rfl!)) (Str.ofString "n") _ rfl) (Str.ofString "i") _ rfl) (News.sub N' (mem4 (by k_mem) (by k_mem) (by k_mem) (by k_mem)))
    · assumption
    · exact ⟨by omega, by omega⟩
  run_tac Mine.Sh.fin
end

section -- V1
noncomputable def CodesAt (h : Heap) (cd : Addr) (n : Nat) (PS : Nat → List (Int × Int) × List (Int × Int)) : Prop :=
  ∃ cvs : List Value, h.IsList cd cvs.toArray ∧ cvs.length = n ∧ ∀ k, k < n → ∃ (a a1 a2 : Addr) (vs1 vs2 : List Value), cvs[k]? = some (.ref a) ∧ h.IsList a [.ref a1, .ref a2].toArray ∧ h.IsList a1 vs1.toArray ∧ h.IsList a2 vs2.toArray ∧
    vs1.toArray.size ≤ sizeLine ∧ vs2.toArray.size ≤ sizeLine ∧ PairB h vs1 (PS k).1 ∧ PairB h vs2 (PS k).2
theorem isList_keeps {h h' : Heap} {l : Addr} {its : Array Value} (x : h.IsList l its) (k : ∀ b o, h.get? b = some o → h'.get? b = some o) : h'.IsList l its := let ⟨o, ho, r⟩ := x; ⟨o, k _ _ ho, r⟩
theorem PairB.keeps {h h' : Heap} {vs : List Value} {ps : List (Int × Int)} (x : PairB h vs ps) (k : ∀ b o, h.get? b = some o → h'.get? b = some o) : PairB h' vs ps := by
  run_tac Mine.Sh.mark
  focus
    induction x with
    | nil => exact .nil
    | cons ht _ ih => exact .cons (k _ _ ht) ih
  run_tac Mine.Sh.fin
theorem CodesAt.keeps {h h' : Heap} {cd : Addr} {n : Nat} {PS : Nat → List (Int × Int) × List (Int × Int)} (x : CodesAt h cd n PS) (k : ∀ b o, h.get? b = some o → h'.get? b = some o) : CodesAt h' cd n PS := by
  run_tac Mine.Sh.mark
  focus
    obtain ⟨cvs, hl, hn, hk⟩ := x
    refine ⟨cvs, isList_keeps hl k, hn, fun i hi => ?_⟩
    obtain ⟨a, a1, a2, vs1, vs2, e, l, l1, l2, z1, z2, b1, b2⟩ := hk i hi
    exact ⟨a, a1, a2, vs1, vs2, e, isList_keeps l k, isList_keeps l1 k, isList_keeps l2 k, z1, z2, b1.keeps k, b2.keeps k⟩
  run_tac Mine.Sh.fin
noncomputable def Takes (PS : Nat → List (Int × Int) × List (Int × Int)) (c d : Nat) (k : Int) : Prop := Hit (PS k.toNat).1 c ∧ Hit (PS k.toNat).2 d
local macro_rules | `(tactic| walk_at $k) => Mine.Tx.look k.getString "exec While BoolOp ==> (k_here; refine halt ?_)
compareOp NotEq ref ref ==> (k_here; refine halt ?_)
call ref ==> (k_here; refine halt ?_)
WhlRest ==> (k_here; refine halt ?_)"
section
variable {prog : Program} {w : World} {A : Around} {E : Value → Shared → Prop} {h₀ hp : Heap} {gn : Array GenState} {dr : Drawn} {tk : Nat} {os : OsState} {L : Addr} {m : Str → Option Value} {u : Tok} {value slice : PySem.Expr} {news : List (Addr × Obj)}
theorem item_last {l : Addr} {its : List Value} {n : Nat} {v : Value} {Q : Value → Shared → Prop} (N : News h₀ L hp news) (hm : (l, listOf its.toArray n) ∈ news) (hv : its.getLast? = some v) (hsz : its.length < 2 ^ 62) (h : Q v ⟨hp, gn, dr, tk, os⟩)
    (hs : subscripted slice false (.ref l) (.int (-1) u) = operate [.ref l, .int (-1) u] (getItem (.ref l) (.int (-1) u)) := by with_unfolding_all rfl) :
    wpAny (model prog w) A (subscriptTail value slice (.ref l) (.int (-1) u)) Q E ⟨hp, gn, dr, tk, os⟩ := by
  run_tac Mine.Sh.mark
  focus
    have hl : (⟨hp, gn, dr, tk, os⟩ : Shared).heap.IsList l its.toArray := News.isList N hm
    have hne : its ≠ [] := by rintro rfl; cases hv
    have hpos : 0 < its.length := List.length_pos_iff.mpr hne
    refine tail_any hl.typeIs slot_list_getitem.lookup (wpAny_getItem_list_neg hl (by decide) (by rw [List.size_toArray]; omega) (by decide) ?_ h) hs
    rw [List.size_toArray, show ((-1 : Int) + (its.length : Int)).toNat = its.length - 1 from by omega, List.getElem?_toArray, ← List.getLast?_eq_getElem?]
    exact hv
  run_tac Mine.Sh.fin
end
local macro_rules | `(tactic| walk_at "subscriptTail Name UnaryOp ref int") => Mine.Tx.line "(k_here; refine halt ?_)"
theorem ints_take {vs : List Value} {ns : List Int} (h : IntsAre vs ns) (n : Nat) : IntsAre (vs.take n) (ns.take n) := by
  run_tac Mine.Sh.mark
  focus
    induction h generalizing n with
    | nil => rw [List.take_nil, List.take_nil]; exact .nil
    | cons k t _ ih => cases n with
      | zero => exact .nil
      | succ n => exact .cons k t (ih n)
  run_tac Mine.Sh.fin
theorem ints_at {vs : List Value} {ns : List Int} (h : IntsAre vs ns) : ∀ {i : Nat} {k : Int}, ns[i]? = some k → ∃ t, vs[i]? = some (.int k t) := by
  run_tac Mine.Sh.mark
  focus
    induction h with
    | nil => intro i k e; cases e
    | cons n t _ ih =>
      intro i k e
      cases i with
      | zero => cases e; exact ⟨t, rfl⟩
      | succ i => exact ih (by simpa using e)
  run_tac Mine.Sh.fin
theorem law_chain (w : World) (loose : List Str) (mean : ExcName → Option Value) (mg mb : Str → Option Value)
   (dp un : Nat) (fr : Option (List Env)) (gd : Option (List Code)) (s : Shared) (Q E : Value → Shared → Prop) (h₀ : Heap)
   (cl cd : Addr) (vs : List Value) (ks : List Int) (kc : Nat) (tk : Tok) (c d n : Nat) (hc : c < 256) (hdd : d < 256) (PS : Nat → List (Int × Int) × List (Int × Int))
   (Ki : IntsAre vs ks) (hks : ∀ k ∈ ks, 0 ≤ k ∧ k < n) (hz : vs.length ≤ 9) (hn : n ≤ 9) (Cd : CodesAt h₀ cd n PS)
   (St : Sub h₀ s.heap) (Bs : Beside h₀ s.heap [(cl, listOf vs.toArray kc)])
   (X : (Mine.hd.heap_39 w.params).In h₀) (T : Top topProg loose mean mg mb h₀)
   (hd : dp + 30 < recursionLimit) (hu : un + 200 < cLine)
   (hret : ∀ (D : Addr) (m kk : Nat) (h' : Heap) (tk' : Nat), m ≤ vs.length → h'.get? D = some (listOf (vs.take m).toArray kk) → (D = cl ∨ s.heap.get? D = none) →
      (∀ i k, m ≤ i → ks[i]? = some k → ¬ Takes PS c d k) → (∀ i k, i + 1 = m → ks[i]? = some k → Takes PS c d k) → Sub s.heap h' → Q (.ref D) { s with heap := h', toks := tk' }) :
   wpAny (model prg w) (TP dp un fr gd) (call (.ref 132) [.ref cl, .ref cd, .str (S2 c d) tk]) Q E s := by
  run_tac Mine.Sh.mark
  focus
    obtain ⟨hp, gn, dr, tk0, os⟩ := s
    dsimp only at St Bs hret ⊢
    obtain ⟨g, Sg, S, hle, Bs, Cv⟩ := hideUp St Bs
    have X := X.keeps Sg.stays
    have T := T.keeps Sg.stays
    have Cd := Cd.keeps Sg.stays
    clear Sg St
    tb_start
    k_steps
    unfold Halt
    rename Fr _ _ _ _ => Fo
    rename News _ _ _ _ => No
    rename_i L h1 l1
    have F1 := Fr.wrap (Fr.wrap (Fr.wrap Fo (Str.ofString "text") (some (.str (S2 c d) tk)) (by kernel_rfl!)) (Str.ofString "codes") (some (.ref cd)) (by kernel_rfl!)) (Str.ofString "chain") (some (.ref cl)) (by kernel_rfl!)
    have hkl := Ki.length
    have N1 : News g L h1 [(cl, listOf (vs.take vs.length).toArray kc), (cl, listOf vs.toArray kc)] := by
      rw [List.take_length]
      intro p hp
      rcases List.mem_cons.mp hp with rfl | hp
      · exact No _ (.head _)
      · exact No _ hp
    clear Fo No
    refine whl_start (vs.length + 1) (whl_ind (fun k s => ∃ (D : Addr) (kk : Nat) (h : Heap) (tkk : Nat) (m₀ : Str → Option Value), k ≤ vs.length ∧ s = ⟨h, gn, dr, tkk, os⟩ ∧
       Fr g L h (fun y => if y = Str.ofString "chain" then some (.ref D) else if y = Str.ofString "codes" then some (.ref cd) else if y = Str.ofString "text" then some (.str (S2 c d) tk) else m₀ y) ∧
       News g L h [(D, listOf (vs.take k).toArray kk), (cl, listOf vs.toArray kc)] ∧ (D = cl ∨ hp.get? D = none) ∧ (∀ i k', k ≤ i → ks[i]? = some k' → ¬ Takes PS c d k')) ?h0 ?hs vs.length _ ⟨cl, kc, h1, _, _, Nat.le_refl _, rfl, F1, N1, .inl rfl, fun i k' hi e => by rw [List.getElem?_eq_none (by omega)] at e; cases e⟩)
    case h0 =>
      rintro s ⟨D, kk, h, tkk, m₀, hk, rfl, F', N', hD, hall⟩
      clear F1 N1
      refine whl_turn (by first | passes_own | with_unfolding_all passes_own) ?_
      k_steps
      unfold Halt
      rename Fr _ _ _ _ => Fo
      rename News _ _ _ _ => No
      k_here
      refine ke_ne_ints (xs := []) (ys := []) (ns := []) (ms := []) (News.isList No (by k_mem)) (News.isList No (by k_mem)) .nil .nil (show un + 3 + 64 < cLine from by omega) ?_
      k_steps
      rename Fr _ _ _ _ => Fe
      rename News _ _ _ _ => Ne
      exact hret D 0 kk _ _ (Nat.zero_le _) (Ne (D, _) (by k_mem)).1 hD (fun i k' hi e => hall i k' hi e) (fun i k' hi _ => absurd hi (Nat.succ_ne_zero i)) (Sub.ofB Cv Fe Ne fun p hp => List.mem_singleton.mp hp ▸ (by k_mem))
    case hs =>
      rintro k s ⟨D, kk, h, tkk, m₀, hk, rfl, F', N', hD, hall⟩ hrec
      clear F1 N1
      refine whl_turn (by first | passes_own | with_unfolding_all passes_own) ?_
      k_steps
      unfold Halt
      rename Fr _ _ _ _ => Fo
      rename News _ _ _ _ => No
      k_here
      refine ke_ne_ints (xs := vs.take (k + 1)) (ys := []) (ns := ks.take (k + 1)) (ms := []) (News.isList No (by k_mem)) (News.isList No (by k_mem)) (ints_take Ki _) .nil (show un + 3 + 64 < cLine from by omega) ?_
      rw [show decide (ks.take (k + 1) = []) = false from decide_eq_false (by intro e; have := congrArg List.length e; rw [List.length_take, List.length_nil] at this; omega)]
      obtain ⟨kv, hkv⟩ : ∃ kv, ks[k]? = some kv := ⟨_, List.getElem?_eq_getElem (by omega)⟩
      obtain ⟨tv, htv⟩ : ∃ t, vs[k]? = some (.int kv t) := ints_at Ki hkv
      have hkn := hks kv (List.mem_of_getElem? hkv)
      have hlast : (vs.take (k + 1)).getLast? = some (.int kv tv) := by
        rw [List.getLast?_eq_getElem?, List.length_take, Nat.min_eq_left hk, List.getElem?_take, if_pos (by omega)]
        exact htv
      obtain ⟨cvs, hlc, hcn, hcc⟩ := id Cd
      obtain ⟨a, a1, a2, vs1, vs2, ea, La, La1, La2, z1, z2, B1, B2⟩ := hcc kv.toNat (by omega)
      k_steps
      unfold Halt
      k_here
      refine item_last No (by k_mem) hlast (by rw [List.length_take]; omega) ?_
      k_steps
      rename Fr _ _ _ _ => Fo
      rename News _ _ _ _ => No
      k_here
      refine item_baseL kv.toNat hlc Fo (by omega) (by omega) (by simpa using ea) ?_
      k_steps
      unfold Halt
      rename Fr _ _ _ _ => Fo
      rename News _ _ _ _ => No
      k_here
      refine law_takes w loose mean mg mb _ _ _ _ _ _ _ a a1 a2 vs1 vs2 tk c d hc hdd z1 z2 (isList_keeps La Fo.keep) (isList_keeps La1 Fo.keep) (isList_keeps La2 Fo.keep) (PS kv.toNat).1 (PS kv.toNat).2 (B1.keeps Fo.keep) (B2.keeps Fo.keep)
        (X.keeps Fo.keep) (T.keeps Fo.keep) (show dp + 1 + 10 < recursionLimit from by omega) (show un + 3 + 80 < cLine from by omega) fun bt h9 tk9 hbt S9 => ?_
      have F9 := call_fr Fo S9
      have N9 := call_news Fo No S9 Fresh.nil
      simp only [List.nil_append] at N9
      clear Fo No
      cases bt with
      | true =>
        have ht : Takes PS c d kv := hbt.mp rfl
        k_steps
        rename Fr _ _ _ _ => Fe
        rename News _ _ _ _ => Ne
        refine hret D (k + 1) kk _ _ hk (Ne (D, _) (by k_mem)).1 hD (fun i k' hi e => hall i k' hi e) (fun i k' hi e => ?_) (Sub.ofB Cv Fe Ne fun p hp => List.mem_singleton.mp hp ▸ (by k_mem))
        obtain rfl : i = k := by omega
        rw [hkv] at e; cases e
        exact ht
      | false =>
        have hno : ∀ b, h9.objs.size ≤ b → hp.get? b = none := fun b hb => by
          cases q : hp.get? b with
          | none => rfl
          | some o =>
            rcases Cv _ _ q with q | q
            · exact absurd (Heap.lt_size (F9.keep _ _ q)) (Nat.not_lt.mpr hb)
            · have hb2 : b = cl := congrArg Prod.fst (List.mem_singleton.mp q)
              exact absurd (Heap.lt_size (N9 (cl, listOf vs.toArray kc) (by k_mem)).1) (Nat.not_lt.mpr (hb2 ▸ hb))
        have ht : ¬ Takes PS c d kv := fun q => Bool.false_ne_true (hbt.mpr q)
        k_steps
        unfold Halt
        rename Fr _ _ _ _ => Fe
        rename News _ _ _ _ => Ne
        dsimp only at Fe Ne ⊢
        have hnew := hno (h9.objs.size + 1) (Nat.le_succ _)
        generalize h9.objs.size + 1 = D' at Fe Ne hnew
        have epick := slicePick_butLast (vs.take (k + 1)).toArray 1 (Nat.le_refl _)
        rw [show (-((1 : Nat) : Int)) = -1 from rfl] at epick
        rw [epick, List.size_toArray, List.length_take, Nat.min_eq_left hk, Nat.add_sub_cancel, List.take_take, Nat.min_eq_left (Nat.le_succ k)] at Ne
        refine hrec _ ⟨D', 0, _, _, _, by omega, rfl, Fr.wrap (Fr.wrap (Fr.wrap Fe (Str.ofString "text") (some (.str (S2 c d) tk)) (by kernel_rfl!)) (Str.ofString "codes") (some (.ref cd)) (by kernel_rfl!)) (Str.ofString "chain") (some (.ref D')) (by kernel_rfl!), ?_, .inr hnew, fun i k' hi e => ?_⟩
        · intro p hp'
          rcases List.mem_cons.mp hp' with rfl | hp'
          · exact Ne _ (.head _)
          · obtain rfl := List.mem_singleton.mp hp'
            exact Ne _ (by k_mem)
        · by_cases hik : k + 1 ≤ i
          · exact hall i k' hik e
          · obtain rfl : i = k := by omega
            rw [hkv] at e; cases e
            exact ht
  run_tac Mine.Sh.fin
end

section -- Cg
section
variable {prog : Program} {w : World} {A : Around} {E : Value → Shared → Prop} {R : Result → Shared → Prop} {s : Shared} {env : Env}
theorem own_list {M : Model} {r : Addr} {target : PySem.Expr} {v : Value} {o : Obj} {fs : Array Value} {Q : Unit → Shared → Prop} (ho : s.heap.get? r = some o) (hc : o.cls = .type "list_iterator") (hd : o.data = .fields fs) (h : Q () s) : wpAny M A (letOwnedTupleGo target (.ref r) v) Q E s := by
  run_tac Mine.Sh.mark
  focus
    have key : ∀ a : Addr, wpAny M A (do
        let o ← load r
        match o.cls, o.data with
        | .type n, .fields vs =>
          if ["enumerate", "zip", "dict_itemiterator", "dict_reverseitemiterator", "odict_iterator", "itertools.zip_longest", "itertools.pairwise"].contains n && vs[0]? == some (rawInt a) then
            rule "for.unpacks-the-owned-tuple"
            updateField r 0 .none
        | _, _ => pure ()) Q E s := fun a => by
      refine wpAny_bind (wpAny_load ho ?_)
      rw [hc, hd]
      dsimp only
      rw [if_neg (by simp)]
      exact wpAny_pure h
    unfold letOwnedTupleGo
    cases target <;> first | exact wpAny_pure h | (cases v <;> first | exact wpAny_pure h | exact key _)
  run_tac Mine.Sh.fin
theorem compLoop_own {elt target iter : PySem.Expr} {scope : Scope} {pos : Pos} {it acc : Value} (I : Nat → Shared → Prop)
    (turn : ∀ n s, I n s → wpAny (model prog w) A (pyNext it) (fun r s₁ => match r with
      | none => R (.ok .next) s₁
      | some v => wpAny (model prog w) A (letOwnedTupleGo target it v) (fun _ s₁' => wpAny (model prog w) A (assign target env v) (fun _ s₂ => wpAny (model prog w) A (eval elt env) (fun x s₃ =>
          wpAny (model prog w) A (call (.builtin "list.append") [acc, x]) (fun _ s₄ => ∃ m, m < n ∧ I m s₄) (notedBy (model prog w) A env fun e s' => R (.error e) s') s₃)
          (notedBy (model prog w) A env fun e s' => R (.error e) s') s₂) (notedBy (model prog w) A env fun e s' => R (.error e) s') s₁') (notedBy (model prog w) A env fun e s' => R (.error e) s') s₁) (notedBy (model prog w) A env fun e s' => R (.error e) s') s)
    (n : Nat) (h : I n s) :
    codeAny (model prog w) A (.compLoop (.ListComp elt [⟨target, iter, [], 0⟩] scope pos) 0 it acc env) R s := by
  run_tac Mine.Sh.mark
  focus
    refine codeAny_loop rfl I (fun n s hI => ?_) n h
    show wpAny _ _ ((compTurn (.ListComp elt [⟨target, iter, [], 0⟩] scope pos) 0 it acc env).onRaise (fun x => do noteFrame x env; theTreesLotGoes x)) _ _ s
    refine wpAny_noted ?_
    rw [compTurn_list1]
    refine wpAny_bind (wpAny_standAt (wpAny_bind (wpAny_mono (turn n s hI) (fun r s₁ h₁ => ?_) fun _ _ h' => h')))
    cases r with
    | none => exact wpAny_pure h₁
    | some v =>
      refine wpAny_bind (wpAny_mono h₁ (fun _ s₁' h₁' => ?_) fun _ _ h' => h')
      exact wpAny_bind (wpAny_mono h₁' (fun _ s₂ h₂ => wpAny_bind (wpAny_bind (wpAny_mono h₂ (fun x s₃ h₃ => wpAny_bind (wpAny_mono h₃
        (fun _ s₄ h₄ => wpAny_pure (wpAny_pure ⟨rfl, h₄⟩)) fun _ _ h' => h')) fun _ _ h' => h'))) fun _ _ h' => h')
  run_tac Mine.Sh.fin
noncomputable def CEnd (g : Heap) (C I D : Addr) (oI : Obj) (ys : List Value) (i : Nat) (J : Nat → List Value → List (Addr × Obj) → Array GenState → Prop) (s₁ : Shared) (y : Value) (s₃ : Shared) : Prop :=
  ∃ (h' : Heap) (gn' : Array GenState) (tk' : Nat) (tl' : List (Addr × Obj)) (m' : Str → Option Value), s₃ = { s₁ with heap := h', gens := gn', toks := tk' } ∧ Fr g C h' m' ∧ News g C h' ((I, oI) :: (D, LCg.lst ys) :: tl') ∧ (∀ p ∈ tl', p.1 ≠ I ∧ p.1 ≠ D) ∧ J (i + 1) (ys ++ [y]) tl' gn'
noncomputable def CTurn (prog : Program) (w : World) (A : Around) (env : Env) (elt target : PySem.Expr) (scope : Scope) (cl : List (Str × Addr)) (g : Heap) (items : Array Value) (J : Nat → List Value → List (Addr × Obj) → Array GenState → Prop) (s₁ : Shared) : Prop :=
  ∀ (i : Nat) (v : Value) (ys : List Value) (tl : List (Addr × Obj)) (C I D : Addr) (oI : Obj) (h : Heap) (gn : Array GenState) (m : Str → Option Value) (tk : Nat) (E' : Value → Shared → Prop), items[i]? = some v → J i ys tl gn → Fr g C h m → News g C h ((I, oI) :: (D, LCg.lst ys) :: tl) → (∀ p ∈ tl, p.1 ≠ I ∧ p.1 ≠ D) → @Ne Nat I D → ys.length = i →
    wpAny (model prog w) A (assign target (compEnvC scope cl C env) v) (fun _ s₂ => wpAny (model prog w) A (eval elt (compEnvC scope cl C env)) (CEnd g C I D oI ys i J s₁) E' s₂) E' { s₁ with heap := h, gens := gn, toks := tk }
noncomputable def CTurnL (prog : Program) (w : World) (A : Around) (env : Env) (elt target : PySem.Expr) (scope : Scope) (cl : List (Str × Addr)) (g : Heap) (l : Addr) (items : Array Value) (J : Nat → List Value → List (Addr × Obj) → Array GenState → Prop) (s₁ : Shared) : Prop :=
  ∀ (i : Nat) (v : Value) (ys : List Value) (tl : List (Addr × Obj)) (C I D : Addr) (oI : Obj) (h : Heap) (gn : Array GenState) (m : Str → Option Value) (tk : Nat) (E' : Value → Shared → Prop), items[i]? = some v → J i ys tl gn → Fr g C h m → News g C h ((I, oI) :: (D, LCg.lst ys) :: tl) → (∀ p ∈ tl, p.1 ≠ I ∧ p.1 ≠ D) → @Ne Nat I D → ys.length = i → LIt oI l (i + 1) →
    wpAny (model prog w) A (assign target (compEnvC scope cl C env) v) (fun _ s₂ => wpAny (model prog w) A (eval elt (compEnvC scope cl C env)) (CEnd g C I D oI ys i J s₁) E' s₂) E' { s₁ with heap := h, gens := gn, toks := tk }
theorem CTurn.known {prog : Program} {w : World} {A : Around} {env : Env} {elt target : PySem.Expr} {scope : Scope} {cl : List (Str × Addr)} {g : Heap} {l : Addr} {items : Array Value} {J : Nat → List Value → List (Addr × Obj) → Array GenState → Prop} {s₁ : Shared} (h : CTurn prog w A env elt target scope cl g items J s₁) : CTurnL prog w A env elt target scope cl g l items J s₁ :=
  fun i v ys tl C I D oI hh gn m tk E' a b c d e f k _ => h i v ys tl C I D oI hh gn m tk E' a b c d e f k
noncomputable def CSrc (prog : Program) (w : World) (A : Around) (env : Env) (elt target : PySem.Expr) (scope : Scope) (cl : List (Str × Addr)) (Q : Value → Shared → Prop) (xv : Value) (s₁ : Shared) : Prop :=
  ∃ (g : Heap) (l : Addr) (items : Array Value) (tl0 : List (Addr × Obj)) (J : Nat → List Value → List (Addr × Obj) → Array GenState → Prop), xv = .ref l ∧ A.handled = none ∧ Sub g s₁.heap ∧ g.objs.size ≤ s₁.heap.objs.size ∧ Beside g s₁.heap tl0 ∧ g.IsList l items ∧ items.size ≤ sizeLine ∧ J 0 [] tl0 s₁.gens ∧
    CTurn prog w A env elt target scope cl g items J s₁ ∧
    ∀ (D : Addr) (h : Heap) (gn : Array GenState) (tk : Nat) (ys : List Value) (tl : List (Addr × Obj)), J items.size ys tl gn → Sub g h → s₁.heap.get? D = none → h.get? D = some (LCg.lst ys) → ys.length = items.size → (∀ p ∈ tl, h.get? p.1 = some p.2 ∧ g.get? p.1 = none ∧ p.1 ≠ D) → Q (.ref D) { s₁ with heap := h, gens := gn, toks := tk }
theorem comp_block {elt target iter : PySem.Expr} {scope : Scope} {cl : List (Str × Addr)} {pos : Pos} {R : Value → Addr → Result → Shared → Prop} {s₁ : Shared} {g : Heap} {l : Addr} {items : Array Value} {tl0 : List (Addr × Obj)} {J : Nat → List Value → List (Addr × Obj) → Array GenState → Prop}
    (hcell : ∀ y ∈ scope.names, y.2 ≠ .cell) (hkind : scope.kind = .function)
    (hh : A.handled = none) (Sg : Sub g s₁.heap) (hle : g.objs.size ≤ s₁.heap.objs.size) (Bs : Beside g s₁.heap tl0) (hl : g.IsList l items) (hsz : items.size ≤ sizeLine) (J0 : J 0 [] tl0 s₁.gens) (turn : CTurnL prog w A env elt target scope cl g l items J s₁)
    (fin : ∀ (D C : Addr) (h : Heap) (gn : Array GenState) (tk : Nat) (ys : List Value) (tl : List (Addr × Obj)) (m : Str → Option Value), J items.size ys tl gn → h.Ns C m → Sub g h → s₁.heap.get? D = none → s₁.heap.get? C = none → @Ne Nat D C → h.get? D = some (LCg.lst ys) → ys.length = items.size →
      (∀ p ∈ tl, h.get? p.1 = some p.2 ∧ g.get? p.1 = none ∧ p.1 ≠ D ∧ p.1 ≠ C) → R (.ref D) C (.ok .next) { s₁ with heap := h, gens := gn, toks := tk }) :
    wpAny (model prog w) A (pyIter (.ref l)) (fun it s₂ => wpAny (model prog w) A (newList []) (fun acc s₃ => wpAny (model prog w) A (newFunctionEnv scope env.globals cl [] env.qual none .none (some env)) (fun cenv s₄ =>
      codeAny (model prog w) A (.compStart (.ListComp elt [⟨target, iter, [], 0⟩] scope pos) 0 it acc { cenv with scope := relabel scope env }) (R acc cenv.locals) s₄) E s₃) E s₂) E s₁ := by
  run_tac Mine.Sh.mark
  focus
    have hl1 : s₁.heap.IsList l items := let ⟨o, ho, r⟩ := hl; ⟨o, Sg.stays _ _ ho, r⟩
    refine wpAny_pyIter_list hl1 ?_
    refine wpAny_newObj_type (wpAny_newFunctionEnv hcell (by intro y hy; simp at hy) (fun h₁ hns₁ hsb₁ => ?_) hkind)
    dsimp only at hns₁ hsb₁ ⊢
    obtain ⟨I, hI⟩ : ∃ I : Addr, s₁.heap.objs.size = I := ⟨_, rfl⟩
    generalize hH1 : s₁.heap.push { cls := .type "list_iterator", dict := none, data := .fields #[.ref l, .int 0 0] } = H1 at hns₁ hsb₁ ⊢
    have hD : H1.objs.size = I + 1 := by rw [← hH1, Heap.size_push, hI]
    generalize hH2 : H1.push { cls := .type "list", dict := none, data := .seq ([] : List Value).toArray } = H2 at hns₁ hsb₁ ⊢
    have hC : H2.objs.size = I + 2 := by rw [← hH2, Heap.size_push, hD]
    have low : ∀ b o, s₁.heap.get? b = some o → h₁.get? b = some o := fun b o e => by
      have hb := Heap.lt_size e
      rw [hI] at hb
      refine hsb₁.extBut b o (by rw [hC]; exact Nat.ne_of_lt (Nat.lt_add_right 2 hb)) (Heap.get?_push_of_some _ ?_)
      rw [← hH2]; refine Heap.get?_push_of_some _ ?_
      rw [← hH1]; exact Heap.get?_push_of_some _ e
    have eI : h₁.get? I = some ⟨.type "list_iterator", none, .fields #[.ref l, .int 0 0], #[]⟩ := by
      refine hsb₁.extBut _ _ (by rw [hC]; exact Nat.ne_of_lt (Nat.lt_succ_of_lt (Nat.lt_succ_self I))) (Heap.get?_push_of_some _ ?_)
      rw [← hH2]; refine Heap.get?_push_of_some _ ?_
      rw [← hH1, ← hI]; exact Heap.get?_push_size _ rfl
    have eD : h₁.get? (I + 1) = some (LCg.lst []) := by
      refine hsb₁.extBut _ _ (by rw [hC]; exact Nat.ne_of_lt (Nat.lt_succ_self _)) (Heap.get?_push_of_some _ ?_)
      rw [← hH2, ← hD]; exact Heap.get?_push_size _ rfl
    rw [hC] at hns₁ ⊢
    rw [hD]
    rw [hI]
    have hgn : ∀ b : Addr, @LE.le Nat _ I b → g.get? b = none := fun b hb => Heap.get?_none_of_le (Nat.le_trans (hI ▸ hle) hb)
    have above : g.objs.size ≤ I + 2 := Nat.le_trans (hI ▸ hle) (Nat.le_add_right _ _)
    have htl : ∀ p ∈ tl0, @LT.lt Nat _ p.1 I := fun p hp => hI ▸ Heap.lt_size (Bs p hp).1
    have loop : ∀ s₃ : Shared, s₃ = { s₁ with heap := h₁, toks := s₁.toks + ([] : List (Str × Value)).length } →
        codeAny (model prog w) A (.compLoop (.ListComp elt [⟨target, iter, [], 0⟩] scope pos) 0 (.ref I) (.ref (I + 1)) (compEnvC scope cl (I + 2) env))
          (R (.ref (I + 1)) (I + 2)) s₃ := by
      rintro s₃ rfl
      refine compLoop_own (fun k s' => ∃ (h' : Heap) (gn : Array GenState) (tk i : Nat) (ys : List Value) (tl : List (Addr × Obj)) (m : Str → Option Value) (oI : Obj), s' = { s₁ with heap := h', gens := gn, toks := tk } ∧ i ≤ items.size ∧ k = items.size + 1 - i ∧ ys.length = i ∧ LIt oI l i ∧
        Fr g (I + 2) h' m ∧ News g (I + 2) h' ((I, oI) :: (I + 1, LCg.lst ys) :: tl) ∧ (∀ p ∈ tl, p.1 ≠ I ∧ p.1 ≠ I + 1) ∧ J i ys tl gn) ?_ (items.size + 1)
        ⟨h₁, s₁.gens, _, 0, [], tl0, _, (⟨.type "list_iterator", none, .fields #[.ref l, .int 0 0], #[]⟩ : Obj), rfl, Nat.zero_le _, rfl, rfl, ⟨rfl, rfl⟩, ⟨hns₁, fun b o e => low b o (Sg.stays _ _ e), above⟩, fun p hp => ?_, fun p hp => ⟨Nat.ne_of_lt (htl p hp), Nat.ne_of_lt (Nat.lt_succ_of_lt (htl p hp))⟩, J0⟩
      · rintro k s' ⟨h', gn, tk, i, ys, tl, m, oI, rfl, hi, rfl, hyl, hit, F', N', off, hJ⟩
        have zI := N' (I, oI) (.head _)
        by_cases hlt : i < items.size
        · obtain ⟨v, hv⟩ : ∃ v, items[i]? = some v := ⟨_, Array.getElem?_eq_getElem hlt⟩
          refine wpAny_pyNext_list_item ⟨oI, zI.1, hit.cls, hit.data⟩ (let ⟨o, ho, r⟩ := hl; ⟨o, F'.keep _ _ ho, r⟩) hv fun h₂ hit₂ hs₂ => ?_
          obtain ⟨oJ, g1, g2, g3⟩ := hit₂
          dsimp only
          refine own_list g1 g2 g3 ?_
          have F₂ : Fr g (I + 2) h₂ m := fo_fr F' (show ¬ (@Eq Nat I (I + 2)) from by omega) zI.2.2 hs₂.extBut
          have N₂ : News g (I + 2) h₂ ((I, oJ) :: (I + 1, LCg.lst ys) :: tl) := fun p hp => by
            rcases List.mem_cons.mp hp with rfl | hp
            · exact ⟨g1, zI.2⟩
            · refine ⟨hs₂.extBut _ _ ?_ (N' p (.tail _ hp)).1, (N' p (.tail _ hp)).2⟩
              rcases List.mem_cons.mp hp with rfl | hp
              · exact (show ¬ (@Eq Nat (I + 1) I) from by omega)
              · exact (off p hp).1
          refine wpAny_mono (turn i v ys tl (I + 2) I (I + 1) oJ h₂ gn m tk _ hv hJ F₂ N₂ off (Nat.ne_of_lt (Nat.lt_succ_self I)) hyl ⟨g2, g3⟩) (fun _ s₂ h₂ => wpAny_mono h₂ (fun y s₃ h₃ => ?_) fun _ _ e => e) fun _ _ e => e
          obtain ⟨h₄, gn₄, tk₄, tl₄, m₄, rfl, F₄, N₄, off₄, J₄⟩ := h₃
          have zD := N₄ (I + 1, LCg.lst ys) (.tail _ (.head _))
          refine append_at (hsz := by show ys.toArray.size ≤ sizeLine; rw [List.size_toArray, hyl]; exact Nat.le_trans hi hsz) zD.1 fun h₅ hs₅ hD₅ => ?_
          refine ⟨items.size + 1 - (i + 1), by omega, h₅, gn₄, tk₄, i + 1, ys ++ [y], tl₄, m₄, oJ, rfl, hlt, rfl, by rw [List.length_append, List.length_singleton, hyl], ⟨g2, g3⟩, fo_fr F₄ (show ¬ (@Eq Nat (I + 1) (I + 2)) from by omega) zD.2.2 hs₅.extBut, fun p hp => ?_, off₄, J₄⟩
          rcases List.mem_cons.mp hp with rfl | hp
          · exact ⟨hs₅.extBut _ _ (show ¬ (@Eq Nat I (I + 1)) from by omega) (N₄ _ (.head _)).1, (N₄ _ (.head _)).2⟩
          · rcases List.mem_cons.mp hp with rfl | hp
            · exact ⟨hD₅.trans (congrArg some (LCg.lst_snoc ys y)), zD.2⟩
            · exact ⟨hs₅.extBut _ _ (off₄ p hp).2 (N₄ p (.tail _ (.tail _ hp))).1, (N₄ p (.tail _ (.tail _ hp))).2⟩
        · obtain rfl : i = items.size := Nat.le_antisymm hi (Nat.not_lt.mp hlt)
          refine wpAny_pyNext_list_end hh ⟨oI, zI.1, hit.cls, hit.data⟩ (items := items) (let ⟨o, ho, r⟩ := hl; ⟨o, F'.keep _ _ ho, r⟩) (by simp) fun h₂ hk₂ => ?_
          have F₂ : Fr g (I + 2) h₂ m := fo_fr F' (show ¬ (@Eq Nat I (I + 2)) from by omega) zI.2.2 hk₂
          have kk : ∀ b o, b ≠ I → h'.get? b = some o → h₂.get? b = some o := fun b o n1 e => hk₂ _ _ n1 e
          refine fin (I + 1) (I + 2) h₂ gn tk ys tl m hJ F₂.ns ⟨F₂.keep⟩ (Heap.get?_none_of_le (by rw [hI]; exact Nat.le_succ _)) (Heap.get?_none_of_le (by rw [hI]; exact Nat.le_add_right _ _)) (Nat.ne_of_lt (Nat.lt_succ_self _)) (kk _ _ (show ¬ (@Eq Nat (I + 1) I) from by omega) (N' _ (.tail _ (.head _))).1) hyl fun p hp => ⟨kk _ _ (off p hp).1 (N' p (.tail _ (.tail _ hp))).1, (N' p (.tail _ (.tail _ hp))).2.2, (off p hp).2, (N' p (.tail _ (.tail _ hp))).2.1⟩
      · rcases List.mem_cons.mp hp with rfl | hp
        · exact ⟨eI, (show ¬ (@Eq Nat I (I + 2)) from by omega), hgn _ (Nat.le_refl _)⟩
        · rcases List.mem_cons.mp hp with rfl | hp
          · exact ⟨eD, (show ¬ (@Eq Nat (I + 1) (I + 2)) from by omega), hgn _ (Nat.le_succ _)⟩
          · exact ⟨low _ _ (Bs p hp).1, Nat.ne_of_lt (Nat.lt_add_right 2 (htl p hp)), (Bs p hp).2⟩
    exact codeAny_compStart_list (loop _ rfl) (wpAny_pyIter_listiter ⟨_, eI, rfl, rfl⟩ (loop _ rfl))
  run_tac Mine.Sh.fin
theorem comp_list {elt target iter : PySem.Expr} {scope : Scope} {cl : List (Str × Addr)} {pos : Pos} {Q : Value → Shared → Prop}
    (hclos : closureFor scope env = pure cl) (hcell : ∀ y ∈ scope.names, y.2 ≠ .cell) (hkind : scope.kind = .function)
    (hnames : ∀ y ∈ scope.names, y.2 = .local → scope.names.lookup y.1 = some .local)
    (h : wpAny (model prog w) A (eval iter env) (CSrc prog w A env elt target scope cl Q) E s)
    (hs : ∀ x, foldedSetIterable iter env x = pure x := by intro _; rfl) :
    wpAny (model prog w) A (eval (.ListComp elt [⟨target, iter, [], 0⟩] scope pos) env) Q E s := by
  run_tac Mine.Sh.mark
  focus
    rw [eval_ListComp]
    refine wpAny_comprehension_free (use := none) rfl hs hclos hkind hnames (wpAny_mono h (fun xv s₁ h₁ => ?_) fun _ _ e => e)
    obtain ⟨g, l, items, tl0, J, rfl, hh, Sg, hle, Bs, hl, hsz, J0, turn, fin⟩ := h₁
    refine comp_block hcell hkind hh Sg hle Bs hl hsz J0 turn.known fun D C h gn tk ys tl m hJ hns S hD hC hDC gD hyl htl => ?_
    refine ⟨m, hns, fun h'' hs'' => ?_⟩
    refine fin D h'' gn tk ys tl hJ ⟨fun b o e => hs''.extBut _ _ (fun q => ?_) (S.stays _ _ e)⟩ hD (hs''.extBut _ _ hDC gD) hyl fun p hp => ⟨hs''.extBut _ _ (htl p hp).2.2.2 (htl p hp).1, (htl p hp).2.1, (htl p hp).2.2.1⟩
    subst q
    have := Sg.stays _ _ e
    rw [hC] at this; cases this
  run_tac Mine.Sh.fin
noncomputable def CSrcL (prog : Program) (w : World) (A : Around) (env : Env) (elt target : PySem.Expr) (scope : Scope) (cl : List (Str × Addr)) (Q : Value → Shared → Prop) (xv : Value) (s₁ : Shared) : Prop :=
  ∃ (g : Heap) (l : Addr) (items : Array Value) (tl0 : List (Addr × Obj)) (J : Nat → List Value → List (Addr × Obj) → Array GenState → Prop), xv = .ref l ∧ A.handled = none ∧ Sub g s₁.heap ∧ g.objs.size ≤ s₁.heap.objs.size ∧ Beside g s₁.heap tl0 ∧ g.IsList l items ∧ items.size ≤ sizeLine ∧ J 0 [] tl0 s₁.gens ∧
    CTurnL prog w A env elt target scope cl g l items J s₁ ∧
    ∀ (D : Addr) (h : Heap) (gn : Array GenState) (tk : Nat) (ys : List Value) (tl : List (Addr × Obj)), J items.size ys tl gn → Sub g h → s₁.heap.get? D = none → h.get? D = some (LCg.lst ys) → ys.length = items.size → (∀ p ∈ tl, h.get? p.1 = some p.2 ∧ g.get? p.1 = none ∧ p.1 ≠ D) → Q (.ref D) { s₁ with heap := h, gens := gn, toks := tk }
theorem comp_listL {elt target iter : PySem.Expr} {scope : Scope} {cl : List (Str × Addr)} {pos : Pos} {Q : Value → Shared → Prop}
    (hclos : closureFor scope env = pure cl) (hcell : ∀ y ∈ scope.names, y.2 ≠ .cell) (hkind : scope.kind = .function)
    (hnames : ∀ y ∈ scope.names, y.2 = .local → scope.names.lookup y.1 = some .local)
    (h : wpAny (model prog w) A (eval iter env) (CSrcL prog w A env elt target scope cl Q) E s)
    (hs : ∀ x, foldedSetIterable iter env x = pure x := by intro _; rfl) :
    wpAny (model prog w) A (eval (.ListComp elt [⟨target, iter, [], 0⟩] scope pos) env) Q E s := by
  run_tac Mine.Sh.mark
  focus
    rw [eval_ListComp]
    refine wpAny_comprehension_free (use := none) rfl hs hclos hkind hnames (wpAny_mono h (fun xv s₁ h₁ => ?_) fun _ _ e => e)
    obtain ⟨g, l, items, tl0, J, rfl, hh, Sg, hle, Bs, hl, hsz, J0, turn, fin⟩ := h₁
    refine comp_block hcell hkind hh Sg hle Bs hl hsz J0 turn fun D C h gn tk ys tl m hJ hns S hD hC hDC gD hyl htl => ?_
    refine ⟨m, hns, fun h'' hs'' => ?_⟩
    refine fin D h'' gn tk ys tl hJ ⟨fun b o e => hs''.extBut _ _ (fun q => ?_) (S.stays _ _ e)⟩ hD (hs''.extBut _ _ hDC gD) hyl fun p hp => ⟨hs''.extBut _ _ (htl p hp).2.2.2 (htl p hp).1, (htl p hp).2.1, (htl p hp).2.2.1⟩
    subst q
    have := Sg.stays _ _ e
    rw [hC] at this; cases this
  run_tac Mine.Sh.fin
noncomputable def CSrcA (prog : Program) (w : World) (A : Around) (env : Env) (elt target : PySem.Expr) (scope : Scope) (cl : List (Str × Addr)) (y : Str) (m : Str → Option Value) (Q : Flow → Shared → Prop) (xv : Value) (s₁ : Shared) : Prop :=
  ∃ (g : Heap) (l : Addr) (items : Array Value) (tl0 : List (Addr × Obj)) (J : Nat → List Value → List (Addr × Obj) → Array GenState → Prop), xv = .ref l ∧ A.handled = none ∧ Sub g s₁.heap ∧ g.objs.size ≤ s₁.heap.objs.size ∧ Beside g s₁.heap tl0 ∧ g.IsList l items ∧ items.size ≤ sizeLine ∧ J 0 [] tl0 s₁.gens ∧
    CTurn prog w A env elt target scope cl g items J s₁ ∧ g.Ns env.locals m ∧ g.objs.size ≤ s₁.heap.objs.size ∧
    ∀ (D : Addr) (h : Heap) (gn : Array GenState) (tk : Nat) (ys : List Value) (tl : List (Addr × Obj)), J items.size ys tl gn → (∀ b o, b ≠ env.locals → g.get? b = some o → h.get? b = some o) → h.Ns env.locals (fun z => if z = y then some (.ref D) else m z) → s₁.heap.get? D = none → h.get? D = some (LCg.lst ys) → ys.length = items.size →
      (∀ p ∈ tl, h.get? p.1 = some p.2 ∧ g.get? p.1 = none ∧ p.1 ≠ D) → Q .next { s₁ with heap := h, gens := gn, toks := tk }
theorem comp_assign {elt target iter : PySem.Expr} {y : Str} {py spos : Pos} {scope : Scope} {cl : List (Str × Addr)} {pos : Pos} {m : Str → Option Value} {Q : Flow → Shared → Prop}
    (hsw : swapsWith (.ListComp elt [⟨target, iter, [], 0⟩] scope pos) (some (.Name y py)) spos.line env = pure true)
    (hclos : closureFor scope env = pure cl) (hcell : ∀ y ∈ scope.names, y.2 ≠ .cell) (hkind : scope.kind = .function)
    (hnames : ∀ y ∈ scope.names, y.2 = .local → scope.names.lookup y.1 = some .local)
    (hy : env.kindOf y = some .local) (hp : (env.scope.kind == .class || (env.scope.kind == .module && env.locals != env.globals)) = false)
    (h : wpAny (model prog w) A (eval iter env) (CSrcA prog w A env elt target scope cl y m Q) E s)
    (hs : ∀ x, foldedSetIterable iter env x = pure x := by intro _; rfl) :
    wpAny (model prog w) A (exec (.Assign [.Name y py] (.ListComp elt [⟨target, iter, [], 0⟩] scope pos) spos) env) Q E s := by
  run_tac Mine.Sh.mark
  focus
    rw [exec_Assign_Name_used _ _ _ _ hsw]
    refine wpAny_bind (wpAny_standAt (wpAny_bind ?_))
    show wpAny _ A (do let _ ← comprehension (.ListComp elt [⟨target, iter, [], 0⟩] scope pos) scope env _ (newList []) false (eval iter env) (some (assign (.Name y py) env))) _ _ s
    refine wpAny_bind (wpAny_mono (wpAny_comprehension_free (use := some (assign (.Name y py) env)) (Q := fun _ s' => Q .next s') rfl hs hclos hkind hnames
      (wpAny_mono h (fun xv s₁ h₁ => ?_) fun _ _ e => e)) (fun _ s' hq => wpAny_pure (wpAny_pure hq)) fun _ _ e => e)
    obtain ⟨g, l, items, tl0, J, rfl, hh, Sg, hle, Bs, hl, hsz, J0, turn, hns0, _, fin⟩ := h₁
    have hL0 : ∃ o, g.get? env.locals = some o := let ⟨o, _, _, e, _⟩ := hns0; ⟨o, e⟩
    obtain ⟨oL, hL0⟩ := hL0
    have hL1 := Sg.stays _ _ hL0
    refine comp_block hcell hkind hh Sg hle Bs hl hsz J0 turn.known fun D C h gn tk ys tl m' hJ hns S hD hC hDC gD hyl htl => ?_
    have hCL : C ≠ env.locals := fun q => by rw [q, hL1] at hC; cases hC
    have hDL : D ≠ env.locals := fun q => by rw [q, hL1] at hD; cases hD
    show wpAny _ A (assign (.Name y py) env (.ref D)) _ _ _
    refine wpAny_assign_Name (wpAny_storeName_local hy (hns0.at fun o e => S.stays _ _ e) (fun h₂ hn₂ hs₂ => ?_) hp)
    refine ⟨m', hns.sameBut hs₂ hCL, fun h'' hs'' => ?_⟩
    have kk : ∀ b o, b ≠ env.locals → b ≠ C → h.get? b = some o → h''.get? b = some o := fun b o n1 n2 e => hs''.extBut _ _ n2 (hs₂.extBut _ _ n1 e)
    refine fin D h'' gn _ ys tl hJ (fun b o n1 e => kk b o n1 (fun q => ?_) (S.stays _ _ e)) (hn₂.sameBut hs'' hCL.symm) hD (kk _ _ hDL hDC gD) hyl fun p hp' => ⟨kk _ _ (fun q => ?_) (htl p hp').2.2.2 (htl p hp').1, (htl p hp').2.1, (htl p hp').2.2.1⟩
    · subst q
      have := Sg.stays _ _ e
      rw [hC] at this; cases this
    · have := (htl p hp').2.1
      rw [q, hL0] at this; cases this
  run_tac Mine.Sh.fin
end
end

section -- Cn
section
variable {M : Model} {A : Around} {E : Value → Shared → Prop} {s : Shared} {g : Heap} {C : Addr} {m mg mb : Str → Option Value} {scope : Scope} {cl : List (Str × Addr)} {env : Env} {x : Str} {pos : Pos} {v : Value} {news : List (Addr × Obj)} {K : Frag} {p : Program} {loose : List Str} {mean : ExcName → Option Value}
theorem cn_store {Q : Unit → Shared → Prop} (F : Fr g C s.heap m) (N : News g C s.heap news) (hx : (compEnvC scope cl C env).kindOf x = some .local) (hk : scope.kind = .function)
    (h : ∀ h' tk', Fr g C h' (fun y => if y = x then some v else m y) → News g C h' news → Q () { s with heap := h', toks := tk' }) : wpAny M A (storeName (compEnvC scope cl C env) x v) Q E s := by
  run_tac Mine.Sh.mark
  focus
    refine wpAny_storeName_local hx F.ns (fun h₃ hn₃ hs₃ => ?_) (by simp [compEnvC, relabel, hk])
    have hC₀ : g.get? C = none := Heap.get?_none_of_le F.above
    exact h h₃ _ ⟨hn₃, fun b o e => hs₃.extBut b o (fun q => by rw [q] at e; rw [show (compEnvC scope cl C env).locals = C from rfl, hC₀] at e; cases e) (F.keep b o e), F.above⟩ fun p hp => ⟨hs₃.extBut _ _ (N p hp).2.1 (N p hp).1, (N p hp).2⟩
  run_tac Mine.Sh.fin
theorem cn_local {Q : Value → Shared → Prop} (F : Fr g C s.heap m) (hx : (compEnvC scope cl C env).kindOf x = some .local) (hv : m x = some v) (hk : scope.kind = .function) (h : Q v s) (hd : (x == ("__debug__" : Str)) = false := by decide) :
    wpAny M A (eval (.Name x pos) (compEnvC scope cl C env)) Q E s := wpAny_Name (wpAny_loadName_local hk hx F.ns hv h) hd
theorem cn_cell {Q : Value → Shared → Prop} {c : Addr} {o : Obj} (F : Fr g C s.heap m) (hx : (compEnvC scope cl C env).kindOf x = some .cell) (hc : cl.lookup x = some c) (hv : g.get? c = some o) (hdd : o.data = .cell (some v)) (hk : scope.kind = .function) (h : Q v s) (hd : (x == ("__debug__" : Str)) = false := by decide) :
    wpAny M A (eval (.Name x pos) (compEnvC scope cl C env)) Q E s := wpAny_Name (wpAny_loadName_cell hk hx hc ⟨_, F.keep _ _ hv, hdd⟩ h) hd
theorem cn_free {Q : Value → Shared → Prop} {c : Addr} {o : Obj} (F : Fr g C s.heap m) (hx : (compEnvC scope cl C env).kindOf x = some .free) (hc : cl.lookup x = some c) (hv : g.get? c = some o) (hdd : o.data = .cell (some v)) (hk : scope.kind = .function) (h : Q v s) (hd : (x == ("__debug__" : Str)) = false := by decide) (hn : (x == ("__classdict__" : Str)) = false := by decide) :
    wpAny M A (eval (.Name x pos) (compEnvC scope cl C env)) Q E s := wpAny_Name (wpAny_loadName_free hk hx hc ⟨_, F.keep _ _ hv, hdd⟩ h hn) hd
theorem cn_global {Q : Value → Shared → Prop} (F : Fr g C s.heap m) (X : K.In g) (T : TopRead p loose mg mb g) (e : nsIn K mainGlobals x = some (some v)) (hx : (compEnvC scope cl C env).kindOf x = some .globalImplicit) (hg : env.globals = mainGlobals) (hk : scope.kind = .function) (h : Q v s) (hd : (x == ("__debug__" : Str)) = false := by decide) :
    wpAny M A (eval (.Name x pos) (compEnvC scope cl C env)) Q E s :=
  Name_function_global hk hx (loadGlobal_global (env := compEnvC scope cl C env) (by show s.heap.Ns env.globals mg; rw [hg]; exact T.g.keeps F.keep) (mg_of X T.g e) h) hd
theorem cn_builtin {Q : Value → Shared → Prop} (F : Fr g C s.heap m) (X : K.In g) (T : TopRead p loose mg mb g) (e : nsIn K mainGlobals x = some none) (hv : bootBuiltins x = some v) (hx : (compEnvC scope cl C env).kindOf x = some .globalImplicit) (hg : env.globals = mainGlobals) (hb : env.builtins = builtinsNs) (hk : scope.kind = .function) (h : Q v s) (hn : x ≠ "__name__" := by decide) (hd : (x == ("__debug__" : Str)) = false := by decide) :
    wpAny M A (eval (.Name x pos) (compEnvC scope cl C env)) Q E s :=
  Name_function_global hk hx (loadGlobal_builtin (env := compEnvC scope cl C env) (by show s.heap.Ns env.globals mg; rw [hg]; exact T.g.keeps F.keep) (mg_none_of X T.g e) (by show s.heap.Ns env.builtins mb; rw [hb]; exact T.b.keeps F.keep) ((T.builtins x hn).trans hv) h) hd
end
end

section -- V2
noncomputable def RulesAt (h : Heap) (rl : Addr) (rs : List Rule) : Prop :=
  ∃ rvs : List Value, h.IsList rl rvs.toArray ∧ rvs.length = rs.length ∧ ∀ (j : Nat) (r : Rule), rs[j]? = some r → ∃ a t1 t2 t3, rvs[j]? = some (.ref a) ∧ h.get? a = some (tupO [.int r.b t1, .int r.h t2, .int r.l t3])
theorem RulesAt.keeps {h h' : Heap} {rl : Addr} {rs : List Rule} (x : RulesAt h rl rs) (k : ∀ b o, h.get? b = some o → h'.get? b = some o) : RulesAt h' rl rs := by
  run_tac Mine.Sh.mark
  focus
    obtain ⟨rvs, hl, hn, hk⟩ := x
    refine ⟨rvs, isList_keeps hl k, hn, fun j r e => ?_⟩
    obtain ⟨a, t1, t2, t3, e1, e2⟩ := hk j r e
    exact ⟨a, t1, t2, t3, e1, k _ _ e2⟩
  run_tac Mine.Sh.fin
local macro_rules | `(tactic| walk_at $k) => Mine.Tx.look k.getString "exec For Name Call cons nil ==> (k_here; k_dflt (refine for_start ?_))
pyIter ref ==> (k_here; refine halt2 ?_)
ForRest ==> (refine halt2 ?_)
call builtin:len ==> (k_here; refine halt2 ?_)
call type:range ==> (k_here; (k_dflt (refine' range_led ?F ?N ?_; (case F => k_asm); (case N => k_asm))); intro r' h' tk' t' u' v' F' N' l1; (try k_lt l1); (try k_sweep))"
section
variable {prog : Program} {w : World} {A : Around} {E : Value → Shared → Prop} {h₀ hp : Heap} {gn : Array GenState} {dr : Drawn} {tk : Nat} {os : OsState} {L : Addr} {m : Str → Option Value} {u : Tok} {value slice : PySem.Expr}
theorem item_base3 {t : Addr} {a b c : Value} {k : Int} {w' : Value} {Q : Value → Shared → Prop} (j : Nat) (ht : h₀.get? t = some (tupO [a, b, c])) (F : Fr h₀ L hp m) (hk : seqIndex? k 3 = some j) (hlo : -(2 ^ 63) ≤ k) (hhi : k < 2 ^ 63) (hj : [a, b, c][j]? = some w') (h : Q w' ⟨hp, gn, dr, tk, os⟩)
    (hs : subscripted slice false (.ref t) (.int k u) = operate [.ref t, .int k u] (getItem (.ref t) (.int k u)) := by with_unfolding_all rfl) (hg : ∀ r, letTemporaryGo value (.ref t) r = pure () := by intro _; with_unfolding_all rfl) :
    wpAny (model prog w) A (subscriptTail value slice (.ref t) (.int k u)) Q E ⟨hp, gn, dr, tk, os⟩ := by
  have ht : IsTup (⟨hp, gn, dr, tk, os⟩ : Shared).heap t #[a, b, c] := ⟨_, F.keep _ _ ht, rfl, 0, rfl⟩
  exact item_tuple ht hlo hhi hk (by simpa using hj) h hs hg
end
theorem small_n : ∀ n : Fin 10, Builtin.Range.small 0 (n.val : Int) 1 = true ∧ Builtin.Range.rangeSize 0 (n.val : Int) 1 = n.val := by decide
local macro_rules | `(tactic| walk_at $k) => Mine.Tx.look k.getString "subscriptTail Name Name ref int ==> (k_here; k_dflt (refine item_baseL _ (by with_reducible assumption) (by with_reducible assumption) rfl (by with_reducible assumption) (by with_reducible assumption) ?_))
subscriptTail Name Constant ref int ==> ((try dsimp only); (with_reducible show wpAny _ _ (subscriptTail _ _ (Value.ref _) (Value.int _ _)) _ _ _); k_dflt (first | refine item_base3 0 (by with_reducible assumption) (by with_reducible assumption) (by rfl) (by decide) (by decide) (by rfl) ?_ | refine item_base3 1 (by with_reducible assumption) (by with_reducible assumption) (by rfl) (by decide) (by decide) (by rfl) ?_ | refine item_base3 2 (by with_reducible assumption) (by with_reducible assumption) (by rfl) (by decide) (by decide) (by rfl) ?_))"
theorem headOf {g h : Heap} {L a : Addr} {o : Obj} {l : List (Addr × Obj)} {P : Prop} (N : News g L h ((a, o) :: l)) (k : ∀ a', a' = a → P) : P := k a rfl
theorem memE2 {a b : Addr × Obj} {l : List (Addr × Obj)} (ha : a ∈ l) (hb : b ∈ l) : ∀ p ∈ [a, b], p ∈ l := fun p hp => by
  rcases List.mem_cons.mp hp with rfl | hp
  · exact ha
  · exact List.mem_singleton.mp hp ▸ hb
local macro_rules | `(tactic| walk_at $k) => Mine.Tx.look k.getString "ForPost ==> (dsimp only [ForPost])
ForNext ==> (dsimp only [ForNext])
letOwnedTupleGo ==> (refine wpAny_of_eq (a := ()) rfl ?_)
assign Name ==> (refine wpAny_assign_Name ?_)
call builtin:sorted ==> (k_here; refine halt2 ?_)
eval ListComp ==> (k_here; refine halt2 ?_)"
local macro_rules | `(tactic| k_all) => Mine.Tx.line "assumption"
noncomputable def HeldIn (tl : List (Addr × Obj)) (vs : List Value) (ps : List (Int × Int)) : Prop := vs.length = ps.length ∧ ∀ (i : Nat) (p : Int × Int), ps[i]? = some p → ∃ a t1 t2, vs[i]? = some (.ref a) ∧ (a, tupO [.int p.1 t1, .int p.2 t2]) ∈ tl
noncomputable def first (b : Int) (r : Rule) : Int := Int.fdiv (256 * r.h + r.l) (2 ^ (16 - b).toNat)
noncomputable def holdsB (rs : List Rule) (k : Nat) (j : Nat) : Bool := match rs[j]?, rs[k]? with
  | some r, some q => decide (first r.b r = first r.b q) && (decide (r.b < q.b) || (decide (r.b = q.b) && decide (j ≤ k)))
  | _, _ => false
noncomputable def heldL (rs : List Rule) (k n : Nat) : List (Int × Int) := ((List.range n).filter (holdsB rs k)).filterMap fun (j : Nat) => (rs[j]?).map fun (r : Rule) => (r.b, (j : Int))
local macro_rules | `(tactic| walk_at $k) => Mine.Tx.look k.getString "storeName ==> (k_here; (k_dflt (refine' cn_store ?F ?N ?hx ?hk ?_; (case F => k_asm); (case N => k_asm); (case hx => rfl); (case hk => rfl))); intro h' tk' F' N'; (try k_sweep))
eval Name ==> (k_here; first | k_dflt (refine' cn_local ?F ?hx ?hv ?hk ?_; (case F => k_asm); (case hx => rfl); (case hv => exact rfl); (case hk => rfl)) | k_dflt (refine' cn_cell ?F ?hx ?hc ?hv ?hd ?hk ?_; (case F => k_asm); (case hx => rfl); (case hc => rfl); (case hv => with_reducible assumption); (case hd => with_reducible assumption); (case hk => rfl)) | k_dflt (refine' cn_global ?F ?X ?T ?e ?hx ?hg ?hk ?_; (case F => k_asm); (case X => k_asm); (case T => k_asm); (case e => k_is); (case hx => rfl); (case hg => rfl); (case hk => rfl)) | k_dflt (refine' cn_builtin ?F ?X ?T ?e ?hv ?hx ?hg ?hb ?hk ?_; (case F => k_asm); (case X => k_asm); (case T => k_asm); (case e => k_is); (case hv => boot_by_name); (case hx => rfl); (case hg => rfl); (case hb => rfl); (case hk => rfl)))"
noncomputable def rkP (ps : List (Int × Int)) (i : Nat) : Int := 32 * (ps.getD i (0, 0)).1 + (ps.getD i (0, 0)).2
noncomputable def sortP (ps : List (Int × Int)) : List (Int × Int) := (kasRun (ltR (rkP ps)) (kas_sort ps.length)).toList.map fun i => ps.getD i (0, 0)
theorem sortP_len {ps : List (Int × Int)} (h : 1 ≤ ps.length) : (sortP ps).length = ps.length := by
  run_tac Mine.Sh.mark
  focus
    obtain ⟨_, R⟩ := sort_run (rkP ps) h
    unfold sortP
    rw [List.length_map, Array.length_toList, R.sz]
  run_tac Mine.Sh.fin
theorem sort_at {rk : Nat → Int} {n : Nat} (h : 1 ≤ n) {i : Nat} (hi : i < n) : ∃ j, (kasRun (ltR rk) (kas_sort n)).toList[i]? = some j ∧ j < n := by
  run_tac Mine.Sh.mark
  focus
    obtain ⟨_, R⟩ := sort_run rk h
    have h1 := R.all (rk := rk) hi
    rw [at0_eq] at h1
    have hs : i < (kasRun (ltR rk) (kas_sort n)).size := by rw [R.sz]; exact hi
    refine ⟨(kasRun (ltR rk) (kas_sort n))[i], by simp [hs], ?_⟩
    simpa [hs] using h1
  run_tac Mine.Sh.fin
theorem lex2 {a b c d : Int} (b0 : 0 ≤ b) (b1 : b < 32) (d0 : 0 ≤ d) (d1 : d < 32) : lexLt [a, b] [c, d] = decide (32 * a + b < 32 * c + d) := by
  run_tac Mine.Sh.mark
  focus
    simp only [lexLt]
    by_cases h : a = c
    · subst h
      simp only [if_true]
      by_cases h2 : b = d
      · subst h2; simp
      · simp only [h2, if_false]
        by_cases h3 : b < d
        · rw [decide_eq_true h3, decide_eq_true (by omega)]
        · rw [decide_eq_false h3, decide_eq_false (by omega)]
    · simp only [h, if_false]
      by_cases h3 : a < c
      · rw [decide_eq_true h3, decide_eq_true (by omega)]
      · rw [decide_eq_false h3, decide_eq_false (by omega)]
  run_tac Mine.Sh.fin
theorem held_len (rs : List Rule) (k : Nat) : ∀ n, (heldL rs k n).length ≤ n := fun n => by
  unfold heldL
  refine Nat.le_trans (List.length_filterMap_le _ _) (Nat.le_trans (List.length_filter_le _ _) ?_)
  rw [List.length_range]; exact Nat.le_refl _
theorem held_mem {rs : List Rule} {k n : Nat} {p : Int × Int} (h : p ∈ heldL rs k n) : ∃ j r, j < n ∧ rs[j]? = some r ∧ holdsB rs k j = true ∧ p = (r.b, (j : Int)) := by
  run_tac Mine.Sh.mark
  focus
    unfold heldL at h
    obtain ⟨j, hj, e⟩ := List.mem_filterMap.mp h
    obtain ⟨h1, h2⟩ := List.mem_filter.mp hj
    obtain ⟨r, hr, e⟩ := Option.map_eq_some_iff.mp e
    exact ⟨j, r, List.mem_range.mp h1, hr, h2, e.symm⟩
  run_tac Mine.Sh.fin
theorem held_of {rs : List Rule} {k n j : Nat} {r : Rule} (hj : j < n) (hr : rs[j]? = some r) (hb : holdsB rs k j = true) : (r.b, (j : Int)) ∈ heldL rs k n :=
  List.mem_filterMap.mpr ⟨j, List.mem_filter.mpr ⟨List.mem_range.mpr hj, hb⟩, by rw [hr]; rfl⟩
theorem held_succ (rs : List Rule) (k j : Nat) : heldL rs k (j + 1) = heldL rs k j ++ (if holdsB rs k j = true then (match rs[j]? with | some r => [(r.b, (j : Int))] | none => []) else []) := by
  run_tac Mine.Sh.mark
  focus
    unfold heldL
    rw [List.range_succ, List.filter_append, List.filterMap_append]
    congr 1
    by_cases h : holdsB rs k j = true
    · rw [if_pos h]
      simp only [List.filter_cons, h, if_true, List.filter_nil, List.filterMap_cons, List.filterMap_nil]
      cases rs[j]? <;> rfl
    · rw [if_neg h]
      simp only [List.filter_cons, h, List.filter_nil]
      rfl
  run_tac Mine.Sh.fin
theorem held_pos {rs : List Rule} {k n : Nat} (hk : k < rs.length) (hn : k < n) : 1 ≤ (heldL rs k n).length := by
  run_tac Mine.Sh.mark
  focus
    obtain ⟨r, hr⟩ : ∃ r, rs[k]? = some r := ⟨_, List.getElem?_eq_getElem hk⟩
    have : (r.b, (k : Int)) ∈ heldL rs k n := held_of hn hr (by unfold holdsB; rw [hr]; simp)
    exact List.length_pos_of_mem this
  run_tac Mine.Sh.fin
noncomputable def holdersL (rs : List Rule) (k : Nat) : List Int := (sortP (heldL rs k rs.length)).map fun p => p.2
theorem law_holders (w : World) (loose : List Str) (mean : ExcName → Option Value) (mg mb : Str → Option Value)
   (dp un : Nat) (fr : Option (List Env)) (gd : Option (List Code)) (s : Shared) (Q E : Value → Shared → Prop)
   (rl : Addr) (rs : List Rule) (k : Nat) (tq : Tok) (hk : k < rs.length) (hn : rs.length ≤ 9) (hok : ∀ r ∈ rs, r.ok)
   (Ra : RulesAt s.heap rl rs)
   (X : (Mine.hd.heap_39 w.params).In s.heap) (T : Top topProg loose mean mg mb s.heap)
   (hd : dp + 30 < recursionLimit) (hu : un + 200 < cLine)
   (hret : ∀ (D : Addr) (vs : List Value) (kk : Nat) (h' : Heap) (tk' : Nat), Sub s.heap h' → s.heap.get? D = none → h'.get? D = some (listOf vs.toArray kk) → IntsAre vs (holdersL rs k) → Q (.ref D) { s with heap := h', toks := tk' }) :
   wpAny (model prg w) (TP dp un fr gd) (call (.ref 144) [.ref rl, .int (k : Int) tq]) Q E s := by
  run_tac Mine.Sh.mark
  focus
    obtain ⟨hp, gn, dr, tk0, os⟩ := s
    dsimp only at X T Ra hret ⊢
    obtain ⟨rvs, hRl, hRn, hRt⟩ := id Ra
    tb_start
    k_steps
    unfold Halt2
    rename Fr _ _ _ _ => Fo
    rename News _ _ _ _ => No
    k_here
    refine len_baseL (n := rs.length) hRl Fo (by rw [List.size_toArray]; exact hRn) (by omega) ?_
    intro t1 k1
    k_steps
    unfold Halt2
    rename Fr _ _ _ _ => Fo
    rename News _ _ _ _ => No
    rename_i LL hx0 lx0 lh hx1 lx1 hx2 l1 la1 h2 l2 h3 r l3
    k_here
    obtain ⟨sm1, sm2⟩ := small_n ⟨rs.length, by omega⟩
    dsimp only at sm1 sm2
    refine iter_range Fo No (News.get No (by k_mem)) sm1 sm2 fun I h4 F4 N4 l4 => ?_
    clear Fo No
    obtain ⟨q, hq⟩ : ∃ q, rs[k]? = some q := ⟨_, List.getElem?_eq_getElem hk⟩
    obtain ⟨ak, t1k, t2k, t3k, ek, gk⟩ := hRt k q hq
    have ek : rvs.toArray[k]? = some (.ref ak) := by simpa using ek
    have k63 : (k : Int) < 2 ^ 63 := by omega
    have F5 := Fr.wrap (Fr.wrap (Fr.wrap F4 (Str.ofString "k") (some (.int (k : Int) tq)) (by kernel_rfl!)) (Str.ofString "rules") (some (.ref rl)) (by kernel_rfl!)) (Str.ofString "held") (some (.ref lh)) (by kernel_rfl!)
    have hIl : @LT.lt Nat _ lh I := l4 (lh, listOf #[] 0) (by k_mem)
    have N5 := News.sub N4 (memE2 (a := (I, rIt 0 (rs.length : Int) 1)) (b := (lh, listOf #[] 0)) (by k_mem) (by k_mem))
    clear N4 F4 l4
    refine for_ind rs.length (fun j s' => ∃ (h : Heap) (tkk : Nat) (m₀ : Str → Option Value) (vs : List Value) (kk : Nat) (tl : List (Addr × Obj)), s' = ⟨h, gn, dr, tkk, os⟩ ∧
       Fr hp LL h (fun y => if y = Str.ofString "held" then some (.ref lh) else if y = Str.ofString "rules" then some (.ref rl) else if y = Str.ofString "k" then some (.int (k : Int) tq) else m₀ y) ∧
       News hp LL h ((I, rIt (j : Int) ((rs.length : Int) - j) 1) :: (lh, listOf vs.toArray kk) :: tl) ∧ HeldIn tl vs (heldL rs k j) ∧ (∀ p ∈ tl, p.1 ≠ lh) ∧ (∀ p ∈ tl, p.1 ≠ I) ∧ vs.length ≤ j) ?h0 ?hs 0 _ (Nat.zero_le _)
       ⟨_, _, _, [], 0, [], rfl, F5, by simpa using N5, ⟨rfl, by simp [heldL]⟩, by simp, by simp, Nat.le_refl _⟩
    case h0 =>
      rintro s' ⟨h, tkk, m₀, vs, kk, tl, rfl, F6, N6, hH, hne1, hne2, hvl⟩
      clear F5 N5
      refine for_turn (by first | passes_own | with_unfolding_all passes_own) ?_
      k_here
      refine end_range rfl F6 N6 (.head _) (by omega) fun h7 F7 N7 => ?_
      clear F6 N6
      k_steps
      unfold Halt2
      rename Fr _ _ _ _ => Fo
      rename News _ _ _ _ => No
      refine comp_list (by exact rfl) (by decide) rfl (by decide) ?_
      k_steps
      unfold Halt2
      rename Fr _ _ _ _ => Fo
      rename News _ _ _ _ => No
      obtain ⟨hH1, hH2⟩ := hH
      have hpos := held_pos (n := rs.length) hk hk
      have hlen9 := held_len rs k rs.length
      have hmem := @held_mem rs k rs.length
      have hkeepB : ∀ b o, hp.get? b = some o → _ := fun b o e => Fo.keep b o e
      have htl : ∀ p ∈ tl, _ := fun p hp' => No p (.tail _ (.tail _ hp'))
      generalize hps : heldL rs k rs.length = ps at hH1 hH2 hpos hlen9 hmem
      have hholds : holdersL rs k = (sortP ps).map fun p => p.2 := by unfold holdersL; rw [hps]
      rw [hholds] at hret
      clear hps hholds
      have bnd : ∀ (i : Nat) (p : Int × Int), ps[i]? = some p → 0 ≤ p.2 ∧ p.2 < 32 := fun i p e => by
        obtain ⟨j, r, hj, _, _, rfl⟩ := hmem (List.mem_of_getElem? e)
        exact ⟨Int.natCast_nonneg _, by show (j : Int) < 32; omega⟩
      k_here
      refine sorted_T (vs := vs) (ts := ps.map fun p => [p.1, p.2]) (z := 1) (rk := rkP ps) (News.isList No (.tail _ (.head _))) (by rw [List.length_map, hH1]) (fun t ht => ?_) (fun i v t e1 e2 => ?_) (fun i j t u e1 e2 => ?_) (by omega) (by omega) fun D h9 c9 k9 hn9 g9 => ?_
      · obtain ⟨p, _, rfl⟩ := List.mem_map.mp ht; rfl
      · rw [List.getElem?_map] at e2
        obtain ⟨p, hp', rfl⟩ := Option.map_eq_some_iff.mp e2
        obtain ⟨a, t1, t2, e3, hm⟩ := hH2 i p hp'
        rw [e1] at e3; cases e3
        exact ⟨a, _, rfl, (htl _ hm).1, .cons _ _ (.cons _ _ .nil)⟩
      · rw [List.getElem?_map] at e1 e2
        obtain ⟨p, hp', rfl⟩ := Option.map_eq_some_iff.mp e1
        obtain ⟨q', hq', rfl⟩ := Option.map_eq_some_iff.mp e2
        unfold rkP
        rw [List.getD_eq_getElem?_getD, List.getD_eq_getElem?_getD, hp', hq']
        exact lex2 (bnd i p hp').1 (bnd i p hp').2 (bnd j q' hq').1 (bnd j q' hq').2
      have hT9 : ∀ (i : Nat) (p : Int × Int), ps[i]? = some p → ∃ a t1 t2, vs[i]? = some (.ref a) ∧ h9.get? a = some (tupO [.int p.1 t1, .int p.2 t2]) := fun i p e => by
        obtain ⟨a, t1, t2, e3, hm⟩ := hH2 i p e
        exact ⟨a, t1, t2, e3, k9 _ _ (htl _ hm).1⟩
      have sub9 : Sub hp h9 := ⟨fun b o e => k9 _ _ (hkeepB b o e)⟩
      have T9 := T.keeps sub9.stays
      rw [hH1] at g9
      have hsz9 : (kasRun (ltR (rkP ps)) (kas_sort ps.length)).size = ps.length := (sort_run (rkP ps) hpos).2.sz
      clear hkeepB htl Fo No
      refine ⟨h9, D, _, [], fun i ys tl gn' => gn' = gn ∧ tl = [] ∧ IntsAre ys (((sortP ps).take i).map fun p => p.2), rfl, rfl, Sub.refl _, Nat.le_refl _, Beside.nil, ⟨_, g9, rfl, _, rfl⟩, ?hz, ⟨rfl, rfl, .nil⟩, ?turn, ?fin⟩
      case hz =>
        rw [List.size_toArray, List.length_map, Array.length_toList, hsz9, sizeLine_eq]; omega
      case turn =>
        rintro i v ys tl' C J D' oJ h10 gn10 m10 tk10 E' hv ⟨rfl, rfl, hys⟩ F10 N10 off10 ne10 hyl
        have hi : i < ps.length := by
          have := (Array.getElem?_eq_some_iff.mp hv).1
          rw [List.size_toArray, List.length_map, Array.length_toList, hsz9] at this
          exact this
        obtain ⟨j, hj, hjn⟩ := sort_at (rk := rkP ps) hpos (i := i) hi
        obtain ⟨p, hp9⟩ : ∃ p, ps[j]? = some p := ⟨_, List.getElem?_eq_getElem hjn⟩
        obtain ⟨a, t1, t2, e3, g3⟩ := hT9 j p hp9
        obtain rfl : v = .ref a := by
          rw [List.getElem?_toArray, List.getElem?_map, hj] at hv
          simp [e3] at hv
          exact hv.symm
        have hit9 : IsTup h10 a #[.int p.1 t1, .int p.2 t2] := ⟨_, F10.keep _ _ g3, rfl, 0, rfl⟩
        k_steps
        rename Fr _ _ _ _ => Fe
        rename News _ _ _ _ => Ne
        have hsi : (sortP ps)[i]? = some p := by
          unfold sortP
          rw [List.getElem?_map, hj]
          simp [hp9]
        refine ⟨_, _, _, [], _, rfl, Fe, Ne, by simp, rfl, rfl, ?_⟩
        rw [List.take_add_one, hsi, List.map_append]
        exact ksk_snoc hys
      case fin =>
        rintro D' h10 gn10 tk10 ys tl' ⟨rfl, rfl, hys⟩ S10 hn10 g10 hyl htl10
        rw [List.size_toArray, List.length_map, Array.length_toList, hsz9, List.take_of_length_le (Nat.le_of_eq (sortP_len hpos))] at hys
        k_steps
        refine hret D' ys ys.length h10 tk10 (sub9.trans S10) ?_ g10 hys
        cases q9 : hp.get? D' with
        | none => rfl
        | some o => have := sub9.stays _ _ q9; rw [hn10] at this; cases this
    case hs =>
      rintro j s' hj ⟨h, tkk, m₀, vs, kk, tl, rfl, F6, N6, hH, hne1, hne2, hvl⟩ hrec
      clear F5 N5
      obtain ⟨rj, hrj⟩ : ∃ r, rs[j]? = some r := ⟨_, List.getElem?_eq_getElem hj⟩
      obtain ⟨aj, t1j, t2j, t3j, ej, gj⟩ := hRt j rj hrj
      have ej : rvs.toArray[j]? = some (.ref aj) := by simpa using ej
      have j63 : (j : Int) < 2 ^ 63 := by omega
      obtain ⟨bj0, bj1, hj0, hj1, lj0, lj1⟩ := hok rj (List.mem_of_getElem? hrj)
      obtain ⟨bk0, bk1, hk0, hk1, lk0, lk1⟩ := hok q (List.mem_of_getElem? hq)
      refine for_turn (by first | passes_own | with_unfolding_all passes_own) ?_
      k_here
      refine next_range F6 N6 (UpdF.head (fun p hp' => ?_)) (show (0 : Int) < (rs.length : Int) - j from by omega) rfl rfl fun h7 t7 tk7 F7 N7 => ?_
      · rcases List.mem_cons.mp hp' with rfl | hp'
        · exact Nat.ne_of_lt hIl
        · exact hne2 p hp'
      clear F6 N6
      have fin0 : holdsB rs k j = false → HeldIn tl vs (heldL rs k (j + 1)) := fun hb => by
        rw [held_succ, hb, if_neg (by decide), List.append_nil]; exact hH
      have hj1' : ((j + 1 : Nat) : Int) = (j : Int) + 1 := by omega
      have hj2' : (rs.length : Int) - ((j : Int) + 1) = (rs.length : Int) - j - 1 := by omega
      have hbe : holdsB rs k j = (decide (first rj.b rj = first rj.b q) && (decide (rj.b < q.b) || (decide (rj.b = q.b) && decide (j ≤ k)))) := by
        unfold holdsB; rw [hrj, hq]
      k_steps
      · rename Fr _ _ _ _ => Fo
        rename News _ _ _ _ => No
        k_here
        refine cmp_le (News.get No (.tail _ (.head _))) (News.get No (.head _)) (show un + 3 < cLine from by omega) ?_
        k_steps
        · unfold Halt2
          rename Fr _ _ _ _ => Fe
          rename News _ _ _ _ => Ne
          rename (_ = true) => hle
          rename (Int.fdiv _ _ = Int.fdiv _ _) => hlk
          have hb : holdsB rs k j = true := by
            rw [hbe, decide_eq_true (show first rj.b rj = first rj.b q from hlk), Bool.true_and]
            by_cases hbb : rj.b = q.b
            · rw [if_pos hbb] at hle
              rw [decide_eq_true hbb, Bool.true_and, Bool.or_eq_true]
              right
              by_cases hjk : (j : Int) = k
              · exact decide_eq_true (by omega)
              · rw [if_neg hjk] at hle
                exact decide_eq_true (by have := of_decide_eq_true hle; omega)
            · rw [if_neg hbb] at hle
              rw [decide_eq_true (show rj.b < q.b from by have := of_decide_eq_true hle; omega), Bool.true_or]
          refine headOf Ne fun D3 hD3 => ?_
          subst hD3
          refine hrec _ ⟨_, _, _, vs ++ [.ref D3], kk + 1, (D3, tupO [.int rj.b t1j, .int (j : Int) t7]) :: tl, rfl, Fr.wrap (Fr.wrap (Fr.wrap Fe (Str.ofString "k") (some (.int (k : Int) tq)) (by kernel_rfl!)) (Str.ofString "rules") (some (.ref rl)) (by kernel_rfl!)) (Str.ofString "held") (some (.ref lh)) (by kernel_rfl!), fun p hp' => ?_, ?_, ?_, ?_, ?_⟩
          · rw [hj1', hj2'] at hp'
            rcases List.mem_cons.mp hp' with rfl | hp'
            · exact Ne _ (by k_mem)
            · rcases List.mem_cons.mp hp' with rfl | hp'
              · have e := Ne (lh, _) (.tail _ (.tail _ (.tail _ (.tail _ (.head _)))))
                rw [List.push_toArray] at e
                exact e
              · rcases List.mem_cons.mp hp' with rfl | hp'
                · exact Ne _ (.head _)
                · exact Ne _ (.tail _ (.tail _ (.tail _ (.tail _ (.tail _ hp')))))
          · rw [held_succ, if_pos hb, hrj]
            refine ⟨by simp [hH.1], fun i p e => ?_⟩
            rcases Nat.lt_trichotomy i (heldL rs k j).length with hi | hi | hi
            · rw [List.getElem?_append_left hi] at e
              obtain ⟨a, t1, t2, e2, hm⟩ := hH.2 i p e
              exact ⟨a, t1, t2, by rw [List.getElem?_append_left (by rw [hH.1]; exact hi)]; exact e2, .tail _ hm⟩
            · subst hi
              rw [List.getElem?_append_right (Nat.le_refl _), Nat.sub_self] at e
              cases e
              exact ⟨_, t1j, t7, by rw [← hH.1, List.getElem?_append_right (Nat.le_refl _), Nat.sub_self]; rfl, .head _⟩
            · rw [List.getElem?_eq_none (by rw [List.length_append, List.length_singleton]; omega)] at e; cases e
          · intro p hp'
            rcases List.mem_cons.mp hp' with rfl | hp'
            · exact (show ¬ (@Eq Nat D3 lh) from by omega)
            · exact hne1 p hp'
          · intro p hp'
            rcases List.mem_cons.mp hp' with rfl | hp'
            · exact (show ¬ (@Eq Nat D3 I) from by omega)
            · exact hne2 p hp'
          · rw [List.length_append, List.length_singleton]; omega
        · unfold Halt2
          rename Fr _ _ _ _ => Fe
          rename News _ _ _ _ => Ne
          rename (_ = false) => hle
          have hb : holdsB rs k j = false := by
            rw [hbe, Bool.and_eq_false_iff]
            right
            rw [Bool.or_eq_false_iff]
            by_cases hbb : rj.b = q.b
            · rw [if_pos hbb] at hle
              refine ⟨decide_eq_false (by omega), ?_⟩
              rw [decide_eq_true hbb, Bool.true_and]
              by_cases hjk : (j : Int) = k
              · rw [if_pos hjk] at hle; cases hle
              · rw [if_neg hjk] at hle
                exact decide_eq_false (by have := of_decide_eq_false hle; omega)
            · rw [if_neg hbb] at hle
              refine ⟨decide_eq_false (by have := of_decide_eq_false hle; omega), ?_⟩
              rw [decide_eq_false hbb, Bool.false_and]
          refine hrec _ ⟨_, _, _, vs, kk, tl, rfl, Fr.wrap (Fr.wrap (Fr.wrap Fe (Str.ofString "k") (some (.int (k : Int) tq)) (by kernel_rfl!)) (Str.ofString "rules") (some (.ref rl)) (by kernel_rfl!)) (Str.ofString "held") (some (.ref lh)) (by kernel_rfl!), fun p hp' => ?_, fin0 hb, hne1, hne2, Nat.le_succ_of_le hvl⟩
          rw [hj1', hj2'] at hp'
          exact Ne p (.tail _ (.tail _ hp'))
      · unfold Halt2
        rename Fr _ _ _ _ => Fe
        rename News _ _ _ _ => Ne
        rename (Int.fdiv _ _ ≠ Int.fdiv _ _) => hlk
        have hb : holdsB rs k j = false := by
          rw [hbe, Bool.and_eq_false_iff]
          exact .inl (decide_eq_false hlk)
        refine hrec _ ⟨_, _, _, vs, kk, tl, rfl, Fr.wrap (Fr.wrap (Fr.wrap Fe (Str.ofString "k") (some (.int (k : Int) tq)) (by kernel_rfl!)) (Str.ofString "rules") (some (.ref rl)) (by kernel_rfl!)) (Str.ofString "held") (some (.ref lh)) (by kernel_rfl!), fun p hp' => ?_, fin0 hb, hne1, hne2, Nat.le_succ_of_le hvl⟩
        rw [hj1', hj2'] at hp'
        exact Ne p hp'
  run_tac Mine.Sh.fin
end

section -- P1
structure Lam (n : Nat) (N H B M : Nat → Int) : Prop where
  n32 : n ≤ 32
  b0 : ∀ i, i < n → 0 ≤ B i
  mpos : ∀ i, i < n → 0 < M i
  nh : ∀ i, i < n → H i ≤ N i ∧ N i < H i + M i
  mul : ∀ i, i < n → ∃ a, H i = M i * a
  div : ∀ i j, i < n → j < n → B j ≤ B i → ∃ c, 0 < c ∧ M j = M i * c
theorem mul_le_of {m a b : Int} (hm : 0 < m) (h : m * a < m * b + m) : m * a ≤ m * b := by
  run_tac Mine.Sh.mark
  focus
    have h1 : m * a < m * (b + 1) := by rw [Int.mul_add, Int.mul_one]; exact h
    have h2 : a < b + 1 := Int.lt_of_mul_lt_mul_left h1 (Int.le_of_lt hm)
    exact Int.mul_le_mul_of_nonneg_left (Int.le_of_lt_add_one h2) (Int.le_of_lt hm)
  run_tac Mine.Sh.fin
section
variable {n : Nat} {N H B M : Nat → Int} (X : Lam n N H B M)
include X
theorem Lam.both {i j : Nat} (hi : i < n) (hj : j < n) (h : B j ≤ B i) : ∃ a b c, H i = M i * a ∧ H j = M i * b ∧ M j = M i * c ∧ 0 < c := by
  run_tac Mine.Sh.mark
  focus
    obtain ⟨a, ha⟩ := X.mul i hi
    obtain ⟨b, hb⟩ := X.mul j hj
    obtain ⟨c, hc, e⟩ := X.div i j hi hj h
    exact ⟨a, c * b, c, ha, by rw [hb, e, Int.mul_assoc], e, hc⟩
  run_tac Mine.Sh.fin
noncomputable def Pre (N H M : Nat → Int) (j k : Nat) : Prop := H j ≤ N k ∧ N k < H j + M j
theorem Lam.f1 {j k : Nat} (hj : j < n) (hk : k < n) (hb : B j ≤ B k) (h : Pre N H M j k) : H j ≤ H k ∧ H k < H j + M j := by
  run_tac Mine.Sh.mark
  focus
    obtain ⟨a, b, c, e1, e2, e3, hc⟩ := X.both hk hj hb
    have hp := X.mpos k hk
    have h1 := X.nh k hk
    obtain ⟨h2, h3⟩ := h
    refine ⟨?_, by omega⟩
    rw [e1, e2] at *
    exact mul_le_of hp (by omega)
  run_tac Mine.Sh.fin
theorem Lam.f1' {j k : Nat} (hj : j < n) (hk : k < n) (hb : B j ≤ B k) (h1 : H j ≤ H k) (h2 : H k < H j + M j) : Pre N H M j k := by
  run_tac Mine.Sh.mark
  focus
    obtain ⟨a, b, c, e1, e2, e3, hc⟩ := X.both hk hj hb
    have hp := X.mpos k hk
    have h3 := X.nh k hk
    refine ⟨by omega, ?_⟩
    rw [e1, e2, e3] at h2
    rw [← Int.mul_add] at h2
    have h4 := Int.lt_of_mul_lt_mul_left h2 (Int.le_of_lt hp)
    have h5 : M k * (a + 1) ≤ M k * (b + c) := Int.mul_le_mul_of_nonneg_left h4 (Int.le_of_lt hp)
    rw [Int.mul_add, Int.mul_one, Int.mul_add, ← e1, ← e2, ← e3] at h5
    omega
  run_tac Mine.Sh.fin
theorem Lam.f2 {j k : Nat} (hj : j < n) (hk : k < n) (hb : B k ≤ B j) (h : Pre N H M j k) : H k ≤ H j := by
  run_tac Mine.Sh.mark
  focus
    obtain ⟨a, b, c, e1, e2, e3, hc⟩ := X.both hj hk hb
    have hp := X.mpos j hj
    have h1 := X.nh k hk
    obtain ⟨h2, h3⟩ := h
    have h4 : M j * b < M j * a + M j := by rw [← e1, ← e2]; omega
    rw [e1, e2]
    exact mul_le_of hp h4
  run_tac Mine.Sh.fin
theorem Lam.f3 {j k : Nat} (hj : j < n) (hk : k < n) (hb : B k ≤ B j) (h2 : H k < H j + M j) : H k ≤ H j := by
  run_tac Mine.Sh.mark
  focus
    obtain ⟨a, b, c, e1, e2, e3, hc⟩ := X.both hj hk hb
    have hp := X.mpos j hj
    have h4 : M j * b < M j * a + M j := by rw [← e1, ← e2]; exact h2
    rw [e1, e2]
    exact mul_le_of hp h4
  run_tac Mine.Sh.fin
theorem Lam.refl {k : Nat} (hk : k < n) : Pre N H M k k := X.nh k hk
end
noncomputable def Bef (H B : Nat → Int) (i j : Nat) : Prop := H i < H j ∨ (H i = H j ∧ (B i < B j ∨ (B i = B j ∧ i < j)))
noncomputable def Les (B : Nat → Int) (i j : Nat) : Prop := B i < B j ∨ (B i = B j ∧ i < j)
theorem Les.trans {B : Nat → Int} {i j k : Nat} (h : Les B i j) (h2 : Les B j k) : Les B i k := by unfold Les at *; omega
theorem Les.irrefl {B : Nat → Int} {i : Nat} (h : Les B i i) : False := by unfold Les at h; omega
noncomputable def Hold (N H B M : Nat → Int) (j k : Nat) : Prop := Pre N H M j k ∧ (Les B j k ∨ j = k)
section
variable {n : Nat} {N H B M : Nat → Int} (X : Lam n N H B M)
include X
theorem Lam.hold_bef {j k : Nat} (hj : j < n) (hk : k < n) (h : Hold N H B M j k) (ne : j ≠ k) : Bef H B j k := by
  run_tac Mine.Sh.mark
  focus
    obtain ⟨h1, h2⟩ := h
    have h2 : Les B j k := h2.resolve_right ne
    have hb : B j ≤ B k := by unfold Les at h2; omega
    have := X.f1 hj hk hb h1
    unfold Bef
    unfold Les at h2
    omega
  run_tac Mine.Sh.fin
theorem Lam.bef_hold {j k : Nat} (hj : j < n) (hk : k < n) (h : Pre N H M j k) (hb : Bef H B j k) : Les B j k := by
  run_tac Mine.Sh.mark
  focus
    by_cases hbb : B j ≤ B k
    · rcases Int.lt_or_eq_of_le hbb with h1 | h1
      · exact .inl h1
      · have h3 := X.f2 hj hk (Int.le_of_eq h1.symm) h
        unfold Bef at hb
        unfold Les
        omega
    · have h3 := X.f2 hj hk (by omega) h
      unfold Bef at hb
      omega
  run_tac Mine.Sh.fin
theorem Lam.between {j o k : Nat} (hj : j < n) (ho : o < n) (hk : k < n) (h : Hold N H B M j k) (h1 : Bef H B j o) (h2 : Bef H B o k) : Hold N H B M j o := by
  run_tac Mine.Sh.mark
  focus
    obtain ⟨hp, hl⟩ := h
    have hkk : H j ≤ H k ∧ H k < H j + M j := X.f1 hj hk (by
      rcases hl with hl | rfl
      · unfold Les at hl; omega
      · exact Int.le_refl _) hp
    have ho1 : H j ≤ H o := by unfold Bef at h1; omega
    have ho2 : H o ≤ H k := by unfold Bef at h2; omega
    have hbb : B j ≤ B o := by
      by_cases hb : B j ≤ B o
      · exact hb
      · have h3 := X.f3 hj ho (by omega) (by omega)
        unfold Bef at h1
        omega
    have hpo := X.f1' hj ho hbb ho1 (by omega)
    exact ⟨hpo, .inl (X.bef_hold hj ho hpo h1)⟩
  run_tac Mine.Sh.fin
theorem Lam.widen {i j k : Nat} (hi : i < n) (hj : j < n) (hk : k < n) (h : Hold N H B M i j) (hp : Pre N H M j k) (ne : i ≠ j) : Pre N H M i k := by
  run_tac Mine.Sh.mark
  focus
    obtain ⟨h1, h2⟩ := h
    have h2 : Les B i j := h2.resolve_right ne
    have hb : B i ≤ B j := by unfold Les at h2; omega
    obtain ⟨a, b, c, e1, e2, e3, hc⟩ := X.both hj hi hb
    have h3 := X.f1 hi hj hb h1
    have hpos := X.mpos j hj
    obtain ⟨p1, p2⟩ := hp
    refine ⟨by omega, ?_⟩
    obtain ⟨_, h4⟩ := h3
    rw [e1, e2, e3, ← Int.mul_add] at h4
    have h5 := Int.lt_of_mul_lt_mul_left h4 (Int.le_of_lt hpos)
    have h6 : M j * (a + 1) ≤ M j * (b + c) := Int.mul_le_mul_of_nonneg_left h5 (Int.le_of_lt hpos)
    rw [Int.mul_add, Int.mul_one, Int.mul_add, ← e1, ← e2, ← e3] at h6
    omega
  run_tac Mine.Sh.fin
end
structure Row (n : Nat) (N H B M : Nat → Int) (k : Nat) (l : List Nat) : Prop where
  sorted : l.Pairwise (Les B)
  mem : ∀ j, j ∈ l ↔ j < n ∧ Hold N H B M j k
theorem sorted_unique {B : Nat → Int} : ∀ {l l' : List Nat}, l.Pairwise (Les B) → l'.Pairwise (Les B) → (∀ j, j ∈ l ↔ j ∈ l') → l = l'
  | [], [], _, _, _ => rfl
  | [], b :: l', _, _, h => absurd ((h b).mpr List.mem_cons_self) List.not_mem_nil
  | a :: l, [], _, _, h => absurd ((h a).mp List.mem_cons_self) List.not_mem_nil
  | a :: l, b :: l', h1, h2, h => by
    obtain ⟨a1, a2⟩ := List.pairwise_cons.mp h1
    obtain ⟨b1, b2⟩ := List.pairwise_cons.mp h2
    have hab : a = b := by
      rcases List.mem_cons.mp ((h a).mp List.mem_cons_self) with q | q
      · exact q
      · rcases List.mem_cons.mp ((h b).mpr List.mem_cons_self) with r | r
        · exact r.symm
        · exact ((b1 a q).trans (a1 b r)).irrefl.elim
    subst hab
    congr 1
    refine sorted_unique a2 b2 fun j => ⟨fun hj => ?_, fun hj => ?_⟩
    · rcases List.mem_cons.mp ((h j).mp (List.mem_cons_of_mem _ hj)) with q | q
      · subst q; exact (a1 _ hj).irrefl.elim
      · exact q
    · rcases List.mem_cons.mp ((h j).mpr (List.mem_cons_of_mem _ hj)) with q | q
      · subst q; exact (b1 _ hj).irrefl.elim
      · exact q
theorem Row.unique {n : Nat} {N H B M : Nat → Int} {k : Nat} {l l' : List Nat} (h : Row n N H B M k l) (h' : Row n N H B M k l') : l = l' :=
  sorted_unique h.sorted h'.sorted fun j => (h.mem j).trans (h'.mem j).symm
theorem pairwise_last {α : Type} {R : α → α → Prop} {l : List α} {o j : α} (h : (l ++ [o]).Pairwise R) (hj : j ∈ l) : R j o :=
  (List.pairwise_append.mp h).2.2 j hj o List.mem_cons_self
theorem Lam.turn {n : Nat} {N H B M : Nat → Int} (X : Lam n N H B M) {done rest : List Nat} {k m : Nat} {c : List Nat} (hk : k < n) (hord : (done ++ k :: rest).Pairwise (Bef H B)) (hall : ∀ j, j < n → j ∈ done ++ k :: rest) (hlow : ∀ j ∈ done, j < n)
    (hc : (done = [] ∧ c = []) ∨ ∃ o d, done = d ++ [o] ∧ Row n N H B M o c) (hm : m ≤ c.length)
    (ha : ∀ i j, m ≤ i → c[i]? = some j → ¬ Pre N H M j k) (hb : ∀ i j, i + 1 = m → c[i]? = some j → Pre N H M j k) : Row n N H B M k (c.take m ++ [k]) := by
  run_tac Mine.Sh.mark
  focus
    obtain ⟨hd, hkr, hdk⟩ := List.pairwise_append.mp hord
    have hdk' : ∀ j ∈ done, Bef H B j k := fun j hj => hdk j hj k List.mem_cons_self
    have hrest : ∀ j ∈ rest, Bef H B k j := (List.pairwise_cons.mp hkr).1
    have indone : ∀ j, j < n → j ≠ k → Hold N H B M j k → j ∈ done := fun j hj ne hh => by
      rcases List.mem_append.mp (hall j hj) with q | q
      · exact q
      · rcases List.mem_cons.mp q with q | q
        · exact absurd q ne
        · have h1 := X.hold_bef hj hk hh ne
          have h2 := hrest j q
          unfold Bef at h1 h2
          omega
    -- c in terms of what the rows say
    have csorted : c.Pairwise (Les B) := by
      rcases hc with ⟨_, rfl⟩ | ⟨o, d, _, r⟩
      · exact .nil
      · exact r.sorted
    have clow : ∀ j ∈ c, j < n := fun j hj => by
      rcases hc with ⟨_, rfl⟩ | ⟨o, d, _, r⟩
      · cases hj
      · exact ((r.mem j).mp hj).1
    have cdone : ∀ j ∈ c, Bef H B j k := fun j hj => by
      rcases hc with ⟨_, rfl⟩ | ⟨o, d, rfl, r⟩
      · cases hj
      · obtain ⟨hjn, hjo⟩ := (r.mem j).mp hj
        have ho := hdk' o (List.mem_append_right _ List.mem_cons_self)
        by_cases hne : j = o
        · exact hne ▸ ho
        · have h1 := X.hold_bef hjn (hlow o (List.mem_append_right _ List.mem_cons_self)) hjo hne
          unfold Bef at h1 ho ⊢
          omega
    -- the wider ones of the row
    have cmono : ∀ i i' j j', i < i' → c[i]? = some j → c[i']? = some j' → Pre N H M j' k → Pre N H M j k := fun i i' j j' hii e e' hp => by
      rcases hc with ⟨_, rfl⟩ | ⟨o, d, rfl, r⟩
      · rw [List.getElem?_nil] at e; cases e
      · have hon := hlow o (List.mem_append_right _ List.mem_cons_self)
        obtain ⟨hjn, hjo⟩ := (r.mem j).mp (List.mem_of_getElem? e)
        obtain ⟨hjn', hjo'⟩ := (r.mem j').mp (List.mem_of_getElem? e')
        obtain ⟨hi, ei⟩ := List.getElem?_eq_some_iff.mp e
        obtain ⟨hi', ei'⟩ := List.getElem?_eq_some_iff.mp e'
        have hles : Les B j j' := by
          have := List.pairwise_iff_getElem.mp r.sorted i i' hi hi' hii
          rwa [ei, ei'] at this
        have hbb : B j ≤ B j' := by unfold Les at hles; omega
        have hjj' : Hold N H B M j j' := by
          by_cases q : j' = o
          · subst q; exact hjo
          · have b1 := X.hold_bef hjn' hon hjo' q
            have hne : j ≠ j' := fun q => (q ▸ hles).irrefl
            -- j stands ahead of j'
            have hoj : B j' ≤ B o := by
              rcases hjo'.2 with l | l
              · unfold Les at l; omega
              · exact Int.le_of_eq (by rw [l])
            have hbjo : B j ≤ B o := Int.le_trans hbb hoj
            have f := X.f1 hjn hon hbjo hjo.1
            have f' := X.f1 hjn' hon hoj hjo'.1
            have hge : H j ≤ H j' := by
              -- both hold o: the wider head is not above
              obtain ⟨a, b, cc, e1, e2, e3, hcc⟩ := X.both hjn' hjn hbb
              have hp' := X.mpos j' hjn'
              have h5 : H j < H j' + M j' := by omega
              rw [e1, e2] at h5 ⊢
              exact mul_le_of hp' h5
            refine ⟨X.f1' hjn hjn' hbb hge ?_, .inl hles⟩
            omega
        exact X.widen hjn hjn' hk hjj' hp fun q => (q ▸ hles).irrefl
    have htake : ∀ j, j ∈ c.take m ↔ j ∈ c ∧ Pre N H M j k := fun j => by
      constructor
      · intro hj
        obtain ⟨i, hi, e⟩ := List.getElem_of_mem hj
        rw [List.length_take] at hi
        have him : i < m := by omega
        have e2 : c[i]? = some j := by
          rw [List.getElem_take] at e
          rw [← e]; simp
        refine ⟨List.mem_of_getElem? e2, ?_⟩
        obtain ⟨j', ej'⟩ : ∃ j', c[m - 1]? = some j' := ⟨_, List.getElem?_eq_getElem (by omega)⟩
        have hpj' := hb (m - 1) j' (by omega) ej'
        by_cases q : i = m - 1
        · subst q; rw [e2] at ej'; cases ej'; exact hpj'
        · exact cmono i (m - 1) j j' (by omega) e2 ej' hpj'
      · rintro ⟨hj, hp⟩
        obtain ⟨i, hi, e⟩ := List.getElem_of_mem hj
        have e2 : c[i]? = some j := by rw [← e]; simp
        by_cases him : i < m
        · exact List.mem_of_getElem? (i := i) (by rw [List.getElem?_take, if_pos him]; exact e2)
        · exact absurd hp (ha i j (by omega) e2)
    refine ⟨List.pairwise_append.mpr ⟨csorted.sublist (List.take_sublist m c), List.pairwise_singleton _ _, fun j hj x hx => ?_⟩, fun j => ?_⟩
    · obtain rfl := List.mem_singleton.mp hx
      obtain ⟨h1, h2⟩ := (htake j).mp hj
      exact X.bef_hold (clow j h1) hk h2 (cdone j h1)
    · rw [List.mem_append, htake, List.mem_singleton]
      constructor
      · rintro (⟨h1, h2⟩ | rfl)
        · exact ⟨clow j h1, h2, .inl (X.bef_hold (clow j h1) hk h2 (cdone j h1))⟩
        · exact ⟨hk, X.refl hk, .inr rfl⟩
      · rintro ⟨hj, hh⟩
        by_cases ne : j = k
        · exact .inr ne
        · left
          refine ⟨?_, hh.1⟩
          have hjd := indone j hj ne hh
          rcases hc with ⟨rfl, _⟩ | ⟨o, d, rfl, r⟩
          · cases hjd
          · have hon := hlow o (List.mem_append_right _ List.mem_cons_self)
            rw [r.mem]
            refine ⟨hj, ?_⟩
            rcases List.mem_append.mp hjd with q | q
            · exact X.between hj hon hk hh (pairwise_last hd q) (hdk' o (List.mem_append_right _ List.mem_cons_self))
            · obtain rfl := List.mem_singleton.mp q
              exact ⟨X.refl hj, .inr rfl⟩
  run_tac Mine.Sh.fin
end

section -- P2
noncomputable def ruleAt (rs : List Rule) (k : Nat) : Rule := rs.getD k ⟨0, 0, 0⟩
noncomputable def nz (rs : List Rule) (k : Nat) : Int := 256 * (ruleAt rs k).h + (ruleAt rs k).l
noncomputable def bz (rs : List Rule) (k : Nat) : Int := (ruleAt rs k).b
noncomputable def mz (rs : List Rule) (k : Nat) : Int := 2 ^ (16 - (ruleAt rs k).b).toNat
noncomputable def hz (rs : List Rule) (k : Nat) : Int := mz rs k * (nz rs k / mz rs k)
theorem ruleAt_some {rs : List Rule} {k : Nat} {r : Rule} (h : rs[k]? = some r) : ruleAt rs k = r := by
  unfold ruleAt; rw [List.getD_eq_getElem?_getD, h]; rfl
theorem ruleAt_ok {rs : List Rule} (hok : ∀ r ∈ rs, r.ok) {k : Nat} (hk : k < rs.length) : (ruleAt rs k).ok := by
  run_tac Mine.Sh.mark
  focus
    have e : rs[k]? = some rs[k] := List.getElem?_eq_getElem hk
    rw [ruleAt_some e]
    exact hok _ (List.getElem_mem hk)
  run_tac Mine.Sh.fin
theorem mz_pos (rs : List Rule) (k : Nat) : 0 < mz rs k := Int.pow_pos (by decide)
theorem lam_of {rs : List Rule} (hok : ∀ r ∈ rs, r.ok) (hn : rs.length ≤ 9) : Lam rs.length (nz rs) (hz rs) (bz rs) (mz rs) := by
  run_tac Mine.Sh.mark
  focus
    refine ⟨by omega, fun i hi => (ruleAt_ok hok hi).1, fun i _ => mz_pos rs i, fun i _ => ?_, fun i _ => ⟨_, rfl⟩, fun i j hi hj h => ?_⟩
    · have h1 := Int.mul_ediv_add_emod (nz rs i) (mz rs i)
      have h2 := Int.emod_nonneg (nz rs i) (Int.ne_of_gt (mz_pos rs i))
      have h3 := Int.emod_lt_of_pos (nz rs i) (mz_pos rs i)
      unfold hz
      omega
    · obtain ⟨a1, a2, _⟩ := ruleAt_ok hok hi
      obtain ⟨c1, c2, _⟩ := ruleAt_ok hok hj
      unfold bz at h
      refine ⟨2 ^ ((ruleAt rs i).b - (ruleAt rs j).b).toNat, Int.pow_pos (by decide), ?_⟩
      unfold mz
      rw [← Int.pow_add]
      congr 1
      omega
  run_tac Mine.Sh.fin
theorem pre_iff {n m q : Int} (hm : 0 < m) : n / m = q ↔ m * q ≤ n ∧ n < m * q + m := by
  run_tac Mine.Sh.mark
  focus
    have h1 := Int.mul_ediv_add_emod n m
    have h2 := Int.emod_nonneg n (Int.ne_of_gt hm)
    have h3 := Int.emod_lt_of_pos n hm
    constructor
    · intro h; rw [h] at h1; omega
    · rintro ⟨g1, g2⟩
      have g3 : m * q < m * (n / m + 1) := by rw [Int.mul_add, Int.mul_one]; omega
      have g4 : m * (n / m) < m * (q + 1) := by rw [Int.mul_add, Int.mul_one]; omega
      have g5 := Int.lt_of_mul_lt_mul_left g3 (Int.le_of_lt hm)
      have g6 := Int.lt_of_mul_lt_mul_left g4 (Int.le_of_lt hm)
      omega
  run_tac Mine.Sh.fin
theorem pre_div {rs : List Rule} {j k : Nat} : Pre (nz rs) (hz rs) (mz rs) j k ↔ nz rs k / mz rs j = nz rs j / mz rs j :=
  (pre_iff (mz_pos rs j)).symm
theorem first_eq {rs : List Rule} {j k : Nat} {r q : Rule} (hr : rs[j]? = some r) (hq : rs[k]? = some q) : first r.b r = first r.b q ↔ Pre (nz rs) (hz rs) (mz rs) j k := by
  run_tac Mine.Sh.mark
  focus
    rw [pre_div]
    unfold first nz mz
    rw [ruleAt_some hr, ruleAt_some hq]
    have hp : (0 : Int) ≤ 2 ^ (16 - r.b).toNat := Int.le_of_lt (Int.pow_pos (by decide))
    rw [Int.fdiv_eq_ediv_of_nonneg _ hp, Int.fdiv_eq_ediv_of_nonneg _ hp]
    exact eq_comm
  run_tac Mine.Sh.fin
theorem holdsB_iff {rs : List Rule} {j k : Nat} (hj : j < rs.length) (hk : k < rs.length) : holdsB rs k j = true ↔ Hold (nz rs) (hz rs) (bz rs) (mz rs) j k := by
  run_tac Mine.Sh.mark
  focus
    have ej : rs[j]? = some rs[j] := List.getElem?_eq_getElem hj
    have ek : rs[k]? = some rs[k] := List.getElem?_eq_getElem hk
    unfold holdsB Hold Les bz
    rw [ej, ek, ruleAt_some ej, ruleAt_some ek]
    simp only [Bool.and_eq_true, decide_eq_true_eq, Bool.or_eq_true]
    rw [first_eq ej ek]
    constructor
    · rintro ⟨h1, h2 | ⟨h2, h3⟩⟩
      · exact ⟨h1, .inl (.inl h2)⟩
      · rcases Nat.lt_or_eq_of_le h3 with h4 | h4
        · exact ⟨h1, .inl (.inr ⟨h2, h4⟩)⟩
        · exact ⟨h1, .inr h4⟩
    · rintro ⟨h1, (h2 | ⟨h2, h3⟩) | rfl⟩
      · exact ⟨h1, .inl h2⟩
      · exact ⟨h1, .inr ⟨h2, Nat.le_of_lt h3⟩⟩
      · exact ⟨h1, .inr ⟨rfl, Nat.le_refl _⟩⟩
  run_tac Mine.Sh.fin
theorem pig : ∀ (m : Nat) (l : List Nat), l.Nodup → (∀ x ∈ l, x < m) → l.length ≤ m
  | 0, [], _, _ => Nat.le_refl _
  | 0, x :: l, _, h => absurd (h x List.mem_cons_self) (Nat.not_lt_zero _)
  | m + 1, l, hd, h => by
    by_cases hm : m ∈ l
    · have h1 := pig m (l.erase m) (hd.erase m) fun x hx => by
        have h2 := (List.Nodup.mem_erase_iff hd).mp hx
        have := h x h2.2
        have := h2.1
        omega
      rw [List.length_erase_of_mem hm] at h1
      omega
    · exact Nat.le_succ_of_le (pig m l hd fun x hx => by
        have := h x hx
        have : x ≠ m := fun q => hm (q ▸ hx)
        omega)
theorem pig_all {m : Nat} {l : List Nat} (hd : l.Nodup) (h : ∀ x ∈ l, x < m) (hl : l.length = m) {x : Nat} (hx : x < m) : x ∈ l := by
  run_tac Mine.Sh.mark
  focus
    apply Classical.byContradiction
    intro hn
    have := pig m (x :: l) (List.nodup_cons.mpr ⟨hn, hd⟩) fun y hy => by
      rcases List.mem_cons.mp hy with rfl | hy
      · exact hx
      · exact h y hy
    rw [List.length_cons] at this
    omega
  run_tac Mine.Sh.fin
noncomputable def ordL (rk : Nat → Int) (n : Nat) : List Nat := (kasRun (ltR rk) (kas_sort n)).toList
theorem ord_get {rk : Nat → Int} {n i : Nat} (hi : i < (ordL rk n).length) : (ordL rk n)[i] = at0 (kasRun (ltR rk) (kas_sort n)) i := by
  run_tac Mine.Sh.mark
  focus
    rw [at0_eq]
    unfold ordL at hi ⊢
    rw [Array.length_toList] at hi
    simp [hi]
  run_tac Mine.Sh.fin
theorem ord_sorted {rk : Nat → Int} {n : Nat} (hn : 1 ≤ n) : (ordL rk n).Pairwise (Ord rk) := by
  run_tac Mine.Sh.mark
  focus
    obtain ⟨_, R⟩ := sort_run rk hn
    rw [List.pairwise_iff_getElem]
    intro i j hi hj hij
    rw [ord_get hi, ord_get hj]
    refine R.ord i j hij ?_
    unfold ordL at hj
    rw [Array.length_toList, R.sz] at hj
    exact hj
  run_tac Mine.Sh.fin
theorem ord_len {rk : Nat → Int} {n : Nat} (hn : 1 ≤ n) : (ordL rk n).length = n := by
  run_tac Mine.Sh.mark
  focus
    obtain ⟨_, R⟩ := sort_run rk hn
    unfold ordL
    rw [Array.length_toList, R.sz]
  run_tac Mine.Sh.fin
theorem ord_low {rk : Nat → Int} {n : Nat} (hn : 1 ≤ n) : ∀ x ∈ ordL rk n, x < n := fun x hx => by
  obtain ⟨i, hi, e⟩ := List.getElem_of_mem hx
  obtain ⟨_, R⟩ := sort_run rk hn
  rw [ord_get hi] at e
  rw [← e]
  rw [ord_len hn] at hi
  exact R.all (rk := rk) hi
theorem ord_all {rk : Nat → Int} {n : Nat} (hn : 1 ≤ n) {x : Nat} (hx : x < n) : x ∈ ordL rk n :=
  pig_all ((ord_sorted hn).imp fun {a b} h e => by subst e; unfold Ord at h; omega) (ord_low hn) (ord_len hn) hx
theorem unique_of {α : Type} {R : α → α → Prop} (tr : ∀ a b c, R a b → R b c → R a c) (ir : ∀ a, ¬ R a a) : ∀ {l l' : List α}, l.Pairwise R → l'.Pairwise R → (∀ j, j ∈ l ↔ j ∈ l') → l = l'
  | [], [], _, _, _ => rfl
  | [], b :: l', _, _, h => absurd ((h b).mpr List.mem_cons_self) List.not_mem_nil
  | a :: l, [], _, _, h => absurd ((h a).mp List.mem_cons_self) List.not_mem_nil
  | a :: l, b :: l', h1, h2, h => by
    obtain ⟨a1, a2⟩ := List.pairwise_cons.mp h1
    obtain ⟨b1, b2⟩ := List.pairwise_cons.mp h2
    have hab : a = b := by
      rcases List.mem_cons.mp ((h a).mp List.mem_cons_self) with q | q
      · exact q
      · rcases List.mem_cons.mp ((h b).mpr List.mem_cons_self) with r | r
        · exact r.symm
        · exact (ir _ (tr _ _ _ (b1 a q) (a1 b r))).elim
    subst hab
    congr 1
    refine unique_of tr ir a2 b2 fun j => ⟨fun hj => ?_, fun hj => ?_⟩
    · rcases List.mem_cons.mp ((h j).mp (List.mem_cons_of_mem _ hj)) with q | q
      · subst q; exact (ir _ (a1 _ hj)).elim
      · exact q
    · rcases List.mem_cons.mp ((h j).mpr (List.mem_cons_of_mem _ hj)) with q | q
      · subst q; exact (ir _ (b1 _ hj)).elim
      · exact q
theorem ord_same {rk rk' : Nat → Int} {n : Nat} (hn : 1 ≤ n) (h : ∀ i j, i < n → j < n → Ord rk i j → Ord rk' i j) : ordL rk n = ordL rk' n := by
  refine unique_of (R := Ord rk') (fun a b c h1 h2 => by unfold Ord at *; omega) (fun a h => by unfold Ord at h; omega) ?_ (ord_sorted hn) fun j => ⟨fun hj => ord_all hn (ord_low hn j hj), fun hj => ord_all hn (ord_low hn j hj)⟩
  exact (ord_sorted (rk := rk) hn).imp_of_mem fun {a b} ha hb hab => h a b (ord_low hn a ha) (ord_low hn b hb) hab
theorem holders_row {rs : List Rule} (hok : ∀ r ∈ rs, r.ok) (hn : rs.length ≤ 9) {k : Nat} (hk : k < rs.length) : ∃ l : List Nat, holdersL rs k = l.map (fun (j : Nat) => (j : Int)) ∧ Row rs.length (nz rs) (hz rs) (bz rs) (mz rs) k l := by
  run_tac Mine.Sh.mark
  focus
    have hpos := held_pos (n := rs.length) hk hk
    generalize hps : heldL rs k rs.length = ps at hpos
    have hsec : ∀ p ∈ ps, p.2 = ((p.2.toNat : Nat) : Int) ∧ p.2.toNat < rs.length ∧ p.1 = bz rs p.2.toNat ∧ holdsB rs k p.2.toNat = true := fun p hp => by
      rw [← hps] at hp
      obtain ⟨j, r, hj, hr, hb, rfl⟩ := held_mem hp
      refine ⟨rfl, hj, ?_, hb⟩
      show r.b = bz rs j
      unfold bz; rw [ruleAt_some hr]
    have hL : holdersL rs k = (ordL (rkP ps) ps.length).map fun i => (ps.getD i (0, 0)).2 := by
      unfold holdersL sortP ordL
      rw [hps, List.map_map]; rfl
    have hget : ∀ i, i < ps.length → ps.getD i (0, 0) ∈ ps := fun i hi => by
      rw [List.getD_eq_getElem?_getD, List.getElem?_eq_getElem hi]
      exact List.getElem_mem hi
    refine ⟨(ordL (rkP ps) ps.length).map fun i => (ps.getD i (0, 0)).2.toNat, ?_, ?_, fun j => ?_⟩
    · rw [hL, List.map_map]
      exact List.map_congr_left fun i hi => (hsec _ (hget i (ord_low hpos i hi))).1
    · rw [List.pairwise_map]
      refine (ord_sorted (rk := rkP ps) hpos).imp_of_mem fun {a b} ha hb hab => ?_
      obtain ⟨a1, a2, a3, a4⟩ := hsec _ (hget a (ord_low hpos a ha))
      obtain ⟨b1, b2, b3, b4⟩ := hsec _ (hget b (ord_low hpos b hb))
      have hlt : ∀ i i', i < ps.length → i' < ps.length → i < i' → (ps.getD i (0, 0)).2 < (ps.getD i' (0, 0)).2 := by
        have hpw : ps.Pairwise fun p q => p.2 < q.2 := by
          rw [← hps]
          unfold heldL
          rw [List.pairwise_filterMap]
          refine (List.Pairwise.filter _ (List.pairwise_lt_range)).imp fun {x y} hxy p hp q hq => ?_
          obtain ⟨_, _, rfl⟩ := Option.map_eq_some_iff.mp hp
          obtain ⟨_, _, rfl⟩ := Option.map_eq_some_iff.mp hq
          show (x : Int) < y
          omega
        intro i i' hi hi' hii
        rw [List.getD_eq_getElem?_getD, List.getElem?_eq_getElem hi, List.getD_eq_getElem?_getD, List.getElem?_eq_getElem hi']
        exact List.pairwise_iff_getElem.mp hpw i i' hi hi' hii
      unfold Ord rkP at hab
      unfold Les
      rw [← a3, ← b3]
      rcases hab with hab | ⟨hab, hlt'⟩
      · omega
      · have := hlt a b (ord_low hpos a ha) (ord_low hpos b hb) hlt'
        omega
    · rw [List.mem_map]
      constructor
      · rintro ⟨i, hi, rfl⟩
        obtain ⟨a1, a2, a3, a4⟩ := hsec _ (hget i (ord_low hpos i hi))
        exact ⟨a2, (holdsB_iff a2 hk).mp a4⟩
      · rintro ⟨hj, hh⟩
        have hm : ((ruleAt rs j).b, (j : Int)) ∈ ps := by
          rw [← hps]
          have e : rs[j]? = some rs[j] := List.getElem?_eq_getElem hj
          rw [ruleAt_some e]
          exact held_of hj e ((holdsB_iff hj hk).mpr hh)
        obtain ⟨i, hi, e⟩ := List.getElem_of_mem hm
        refine ⟨i, ord_all hpos hi, ?_⟩
        rw [List.getD_eq_getElem?_getD, List.getElem?_eq_getElem hi, e]
        rfl
  run_tac Mine.Sh.fin
end

section -- L1
noncomputable def lawDef : Stmt := ((Program.main prg).body.getLast?).getD (.Pass default)
noncomputable def lawBody : List Stmt := match lawDef with
  | .FunctionDef _ _ b _ _ _ _ _ _ _ => b
  | _ => []
noncomputable def lawScope : Scope := match lawDef with
  | .FunctionDef _ _ _ _ _ _ s _ _ _ => s
  | _ => default
noncomputable abbrev lawEnv (L a : Addr) : Env := envOfC (Str.ofString "law") lawScope L a (.ref 148)
open Lean Meta Elab Tactic in
def expose : TacticM Unit := do
  let g ← getMainGoal
  g.withContext do
    let t ← instantiateMVars (← g.getType)
    let mut us : Array (Lean.Expr × Lean.Expr) := #[]
    let b := mkConst ``lawBody
    let some d := t.find? fun e => e.isAppOfArity ``List.drop 3 && e.appArg! == b | throwError "expose: no body"
    let d' ← withTransparency .all (whnf d)
    let sc ← withTransparency .all (whnf (mkConst ``lawScope))
    let t' := t.replace fun e => if e == d then some d' else if e.isConstOf ``lawScope then some sc else none
    let g' ← g.replaceTargetDefEq t'
    replaceMainGoal [g']
structure LawCtx (w : World) (loose : List Str) (mean : ExcName → Option Value) (mg mb : Str → Option Value) (g : Heap) : Prop where
  X : (Mine.hd.heap_39 w.params).In g
  T : Top topProg loose mean mg mb g
  c1 : CodeHd g 138 134
  c2 : CodeHd g 91 87
  c3 : CodeHd g 61 57
  c4 : CodeHd g 54 50
  c5 : CodeHd g 148 146
noncomputable abbrev cell (v : Option Value) (o : Obj) : Prop := o.data = .cell v
noncomputable abbrev lawA (L a : Addr) : Around := callerA.deeper (lawEnv L a)
noncomputable abbrev LawAt (w : World) (L a : Addr) (i : Nat) (Q : Flow → Shared → Prop) (E : Value → Shared → Prop) (s : Shared) : Prop := wpAny (model prg w) (lawA L a) (execs (lawBody.drop i) (lawEnv L a)) Q E s
noncomputable def led (L : Addr) (o1 o2 o3 o4 o5 : Obj) (tb dl : List (Addr × Obj)) : List (Addr × Obj) :=
  (L + 1 + 1 + 1 + 1 + 1, o5) :: (L + 1 + 1 + 1 + 1, o4) :: (L + 1 + 1 + 1, o3) :: (L + 1 + 1, o2) :: (L + 1, o1) :: (tb ++ dl)
noncomputable def offL (L : Addr) (tb : List (Addr × Obj)) : List Addr := [L + 1 + 1 + 1 + 1 + 1, L + 1 + 1 + 1 + 1, L + 1 + 1 + 1, L + 1 + 1, L + 1] ++ tb.map fun p => p.1
noncomputable def Dl (L : Addr) (tb dl : List (Addr × Obj)) : Prop := ∀ p ∈ dl, ∀ c ∈ offL L tb, p.1 ≠ c
noncomputable def tabs : List (Addr × Obj) := [(134, tabObj #[]), (87, tabObj #[]), (57, tabObj #[]), (50, tabObj #[]), (146, tabObj #[])]
theorem back_fr {g h h' : Heap} {L : Addr} {m m' : Str → Option Value} (F : Fr g L h m) (k : ∀ b o, b ≠ L → h.get? b = some o → h'.get? b = some o) (ns : h'.Ns L m') : Fr g L h' m' :=
  ⟨ns, fun b o e => k b o (fun q => by rw [q, Heap.get?_none_of_le F.above] at e; cases e) (F.keep b o e), F.above⟩
theorem back_news {g h h' : Heap} {L : Addr} {l l' : List (Addr × Obj)} (N : News g L h l) (k : ∀ b o, b ≠ L → h.get? b = some o → h'.get? b = some o) (s : ∀ p ∈ l', p ∈ l) : News g L h' l' :=
  fun p hp => ⟨k _ _ (N p (s p hp)).2.1 (N p (s p hp)).1, (N p (s p hp)).2⟩
theorem sub_fr {g h h' : Heap} {L : Addr} {m : Str → Option Value} (F : Fr g L h m) (S : Sub h h') : Fr g L h' m :=
  ⟨F.ns.at fun o e => S.stays _ _ e, fun b o e => S.stays _ _ (F.keep b o e), F.above⟩
theorem grow_news {g h h' : Heap} {L : Addr} {l : List (Addr × Obj)} (N : News g L h l) (S : Sub h h') : News g L h' l := fun p hp => ⟨S.stays _ _ (N p hp).1, (N p hp).2⟩
theorem news_list {g h : Heap} {L D : Addr} {l : List (Addr × Obj)} {its : Array Value} {k : Nat} (N : News g L h l) (e : (D, listOf its k) ∈ l) : h.IsList D its := ⟨_, (N _ e).1, rfl, _, rfl⟩
theorem mem_swap2 (a b : Addr × Obj) {nw tl : List (Addr × Obj)} : ∀ p ∈ a :: b :: (nw ++ tl), p ∈ nw ++ a :: b :: tl := fun p hp => by
  simp only [List.mem_cons, List.mem_append] at hp ⊢
  rcases hp with h | h | h | h
  · exact .inr (.inl h)
  · exact .inr (.inr (.inl h))
  · exact .inl h
  · exact .inr (.inr (.inr h))
theorem fresh_ne {g hp h' : Heap} {C : Addr} {l nw : List (Addr × Obj)} {q : Addr × Obj} (N : News g C hp l) (W : Fresh hp h' nw) (hq : q ∈ l) : ∀ p ∈ nw, p.1 ≠ q.1 := fun p hp e => by
  have h1 := (W p hp).2
  rw [e, (N q hq).1] at h1; cases h1
theorem but_fr {g h h' : Heap} {L : Addr} {m : Str → Option Value} {cs : List Addr} (F : Fr g L h m) (k : ∀ b o, b ∉ cs → h.get? b = some o → h'.get? b = some o) (hc : ∀ c ∈ cs, c ≠ L ∧ g.get? c = none) : Fr g L h' m :=
  ⟨F.ns.at fun o e => k _ o (fun hm => (hc _ hm).1 rfl) e, fun b o e => k b o (fun hm => by rw [(hc _ hm).2] at e; cases e) (F.keep b o e), F.above⟩
theorem but_news {g h h' : Heap} {L : Addr} {l l' : List (Addr × Obj)} {cs : List Addr} (N : News g L h l) (k : ∀ b o, b ∉ cs → h.get? b = some o → h'.get? b = some o) (s : ∀ p ∈ l', p ∈ l ∧ p.1 ∉ cs) : News g L h' l' :=
  fun p hp => ⟨k _ _ (s p hp).2 (N p (s p hp).1).1, (N p (s p hp).1).2⟩
theorem sub_news {g h : Heap} {L : Addr} {l l' : List (Addr × Obj)} (N : News g L h l) (s : ∀ p ∈ l', p ∈ l) : News g L h l' := fun p hp => N p (s p hp)
theorem new_ne {g h : Heap} {L : Addr} {l : List (Addr × Obj)} {D : Addr} (N : News g L h l) (hD : h.get? D = none) : ∀ p ∈ l, p.1 ≠ D := fun p hp q => by
  have := (N p hp).1
  rw [q, hD] at this; cases this
theorem new_news {g h h' : Heap} {L D : Addr} {m : Str → Option Value} {o : Obj} (F : Fr g L h m) (hD : h.get? D = none) (e : h'.get? D = some o) : h'.get? D = some o ∧ D ≠ L ∧ g.get? D = none := by
  run_tac Mine.Sh.mark
  focus
    refine ⟨e, fun q => ?_, ?_⟩
    · obtain ⟨o', _, _, e', _⟩ := F.ns
      rw [← q, hD] at e'; cases e'
    · cases q : g.get? D with
      | none => rfl
      | some o' => have := F.keep _ _ q; rw [hD] at this; cases this
  run_tac Mine.Sh.fin
theorem dl_nil {L : Addr} {tb : List (Addr × Obj)} : Dl L tb [] := fun _ h => nomatch h
theorem offL_in {L : Addr} {o1 o2 o3 o4 o5 : Obj} {tb dl : List (Addr × Obj)} : ∀ c ∈ offL L tb, ∃ o', (c, o') ∈ led L o1 o2 o3 o4 o5 tb dl := fun c hc => by
  unfold offL at hc
  unfold led
  rcases List.mem_append.mp hc with hc | hc
  · simp only [List.mem_cons, List.not_mem_nil, or_false] at hc
    rcases hc with rfl | rfl | rfl | rfl | rfl
    · exact ⟨_, .head _⟩
    · exact ⟨_, .tail _ (.head _)⟩
    · exact ⟨_, .tail _ (.tail _ (.head _))⟩
    · exact ⟨_, .tail _ (.tail _ (.tail _ (.head _)))⟩
    · exact ⟨_, .tail _ (.tail _ (.tail _ (.tail _ (.head _))))⟩
  · obtain ⟨p, hp, rfl⟩ := List.mem_map.mp hc
    exact ⟨p.2, .tail _ (.tail _ (.tail _ (.tail _ (.tail _ (List.mem_append_left _ hp)))))⟩
theorem dl_cons {g h : Heap} {L D : Addr} {o1 o2 o3 o4 o5 o : Obj} {tb dl dl' : List (Addr × Obj)} (N : News g L h (led L o1 o2 o3 o4 o5 tb dl)) (hD : h.get? D = none) (d : Dl L tb dl') : Dl L tb ((D, o) :: dl') := fun p hp c hc => by
  rcases List.mem_cons.mp hp with rfl | hp
  · obtain ⟨o', hm⟩ := offL_in c hc
    exact fun q => new_ne N hD _ hm q.symm
  · exact d p hp c hc
theorem dl_sub {L : Addr} {tb tb' dl dl' : List (Addr × Obj)} (d : Dl L tb dl) (h : ∀ p ∈ dl', p ∈ dl) (k : ∀ p ∈ tb', p ∈ tb) : Dl L tb' dl' := fun p hp c hc => d p (h p hp) c (by
  unfold offL at hc ⊢
  rcases List.mem_append.mp hc with hc | hc
  · exact List.mem_append_left _ hc
  · obtain ⟨p, hp, rfl⟩ := List.mem_map.mp hc
    exact List.mem_append_right _ (List.mem_map.mpr ⟨p, k p hp, rfl⟩))
theorem led_cons {g h : Heap} {L : Addr} {o1 o2 o3 o4 o5 : Obj} {tb dl : List (Addr × Obj)} {q : Addr × Obj} (N : News g L h (led L o1 o2 o3 o4 o5 tb dl)) (e : h.get? q.1 = some q.2 ∧ q.1 ≠ L ∧ g.get? q.1 = none) : News g L h (led L o1 o2 o3 o4 o5 tb (q :: dl)) := fun p hp => by
  by_cases hq : p = q
  · rw [hq]; exact e
  · refine N p ?_
    unfold led at hp ⊢
    simp only [List.mem_cons, List.mem_append] at hp ⊢
    rcases hp with h | h | h | h | h | h | h | h
    · exact .inl h
    · exact .inr (.inl h)
    · exact .inr (.inr (.inl h))
    · exact .inr (.inr (.inr (.inl h)))
    · exact .inr (.inr (.inr (.inr (.inl h))))
    · exact .inr (.inr (.inr (.inr (.inr (.inl h)))))
    · exact absurd h hq
    · exact .inr (.inr (.inr (.inr (.inr (.inr h)))))
theorem rules_snoc {tl nw : List (Addr × Obj)} {ys : List Value} {rs : List Rule} {v : Value} {r : Rule} (hl : rs.length = ys.length) (h : ∀ (j : Nat) (r : Rule), rs[j]? = some r → ∃ v, ys[j]? = some v ∧ RuleIn tl v r) (hr : RuleIn nw v r) :
    ∀ (j : Nat) (r' : Rule), (rs ++ [r])[j]? = some r' → ∃ v', (ys ++ [v])[j]? = some v' ∧ RuleIn (nw ++ tl) v' r' := fun j r' e => by
  by_cases hj : j < rs.length
  · rw [List.getElem?_append_left hj] at e
    obtain ⟨v', e', a, t1, t2, t3, rfl, hm⟩ := h j r' e
    exact ⟨_, by rw [List.getElem?_append_left (hl ▸ hj)]; exact e', a, t1, t2, t3, rfl, List.mem_append_right _ hm⟩
  · rw [List.getElem?_append_right (Nat.not_lt.mp hj)] at e
    obtain ⟨hj1, _⟩ := List.getElem?_eq_some_iff.mp e
    rw [List.length_singleton] at hj1
    have hj0 : j - rs.length = 0 := by omega
    rw [hj0] at e
    cases e
    obtain ⟨a, t1, t2, t3, rfl, hm⟩ := hr
    refine ⟨_, ?_, a, t1, t2, t3, rfl, List.mem_append_left _ hm⟩
    rw [List.getElem?_append_right (hl ▸ Nat.not_lt.mp hj), ← hl, hj0]; rfl
theorem dl_app {g h : Heap} {L : Addr} {o1 o2 o3 o4 o5 : Obj} {tb dl dl' nw : List (Addr × Obj)} (N : News g L h (led L o1 o2 o3 o4 o5 tb dl)) (hn : ∀ p ∈ nw, h.get? p.1 = none) (d : Dl L tb dl') : Dl L tb (nw ++ dl') := fun p hp c hc => by
  rcases List.mem_append.mp hp with hp | hp
  · obtain ⟨o', hm⟩ := offL_in c hc
    exact fun q => new_ne N (hn p hp) _ hm q.symm
  · exact d p hp c hc
theorem led_app {g h h' : Heap} {L : Addr} {m : Str → Option Value} {o1 o2 o3 o4 o5 : Obj} {tb dl nw : List (Addr × Obj)} (F : Fr g L h m) (N : News g L h' (led L o1 o2 o3 o4 o5 tb dl)) (hn : ∀ p ∈ nw, h.get? p.1 = none) (hs : ∀ p ∈ nw, h'.get? p.1 = some p.2) : News g L h' (led L o1 o2 o3 o4 o5 tb (nw ++ dl)) := fun p hp => by
  by_cases hq : p ∈ nw
  · exact new_news F (hn p hq) (hs p hq)
  · refine N p ?_
    unfold led at hp ⊢
    simp only [List.mem_cons, List.mem_append, hq, false_or] at hp ⊢
    exact hp
theorem dl_c {L c : Addr} {tb dl : List (Addr × Obj)} (d : Dl L tb dl) (hc : c ∈ offL L tb) : ∀ p ∈ dl, p.1 ≠ c := fun p hp => d p hp c hc
structure RsIn (dl : List (Addr × Obj)) (rl : Addr) (rs : List Rule) : Prop where
  n4 : 4 ≤ rs.length
  n9 : rs.length ≤ 9
  ok : ∀ r ∈ rs, r.ok
  list : ∃ (vs : List Value) (k : Nat), (rl, listOf vs.toArray k) ∈ dl ∧ vs.length = rs.length ∧ ∀ (j : Nat) (r : Rule), rs[j]? = some r → ∃ v, vs[j]? = some v ∧ RuleIn dl v r
theorem RsIn.mono {dl dl' : List (Addr × Obj)} {rl : Addr} {rs : List Rule} (x : RsIn dl rl rs) (s : ∀ p ∈ dl, p ∈ dl') : RsIn dl' rl rs := by
  run_tac Mine.Sh.mark
  focus
    obtain ⟨a, b, c, vs, k, h1, h2, h3⟩ := x
    refine ⟨a, b, c, vs, k, s _ h1, h2, fun j r e => ?_⟩
    obtain ⟨v, e', ad, t1, t2, t3, ev, hm⟩ := h3 j r e
    exact ⟨v, e', ad, t1, t2, t3, ev, s _ hm⟩
  run_tac Mine.Sh.fin
theorem mem_led {L : Addr} {o1 o2 o3 o4 o5 : Obj} {tb dl : List (Addr × Obj)} {q : Addr × Obj} (h : q ∈ dl) : q ∈ led L o1 o2 o3 o4 o5 tb dl := by
  unfold led
  exact .tail _ (.tail _ (.tail _ (.tail _ (.tail _ (List.mem_append_right _ h)))))
theorem dl_lt {L D : Addr} {o : Obj} {dl : List (Addr × Obj)} (h : @LT.lt Nat _ (L + 1 + 1 + 1 + 1 + 1) D ∧ @LT.lt Nat _ (L + 1 + 1 + 1 + 1) D ∧ @LT.lt Nat _ (L + 1 + 1 + 1) D ∧ @LT.lt Nat _ (L + 1 + 1) D ∧ @LT.lt Nat _ (L + 1) D ∧ @LT.lt Nat _ 134 D ∧ @LT.lt Nat _ 87 D ∧ @LT.lt Nat _ 57 D ∧ @LT.lt Nat _ 50 D ∧ @LT.lt Nat _ 146 D ∧ AllLt D dl) : Dl L tabs [(D, o)] := fun p hp c hc => by
  obtain rfl := List.mem_singleton.mp hp
  unfold offL tabs at hc
  simp only [List.map_cons, List.map_nil, List.cons_append, List.nil_append, List.mem_cons, List.not_mem_nil, or_false] at hc
  obtain ⟨h1, h2, h3, h4, h5, h6, h7, h8, h9, h10, _⟩ := h
  rcases hc with rfl | rfl | rfl | rfl | rfl | rfl | rfl | rfl | rfl | rfl
  · exact Nat.ne_of_gt h1
  · exact Nat.ne_of_gt h2
  · exact Nat.ne_of_gt h3
  · exact Nat.ne_of_gt h4
  · exact Nat.ne_of_gt h5
  · exact Nat.ne_of_gt h6
  · exact Nat.ne_of_gt h7
  · exact Nat.ne_of_gt h8
  · exact Nat.ne_of_gt h9
  · exact Nat.ne_of_gt h10
theorem row_len {rs : List Rule} {j : Nat} (h : rs.length ≤ 9) : ((rs.take j).flatMap fun r => [r.b, 2, r.h, r.l]).length ≤ 36 := by
  run_tac Mine.Sh.mark
  focus
    rw [List.length_flatMap]
    simp only [List.length_cons, List.length_nil, Nat.zero_add, Nat.reduceAdd, List.map_const', List.sum_replicate_nat, List.length_take]
    omega
  run_tac Mine.Sh.fin
theorem row_sub {a b i d : Addr × Obj} {l : List (Addr × Obj)} : ∀ p ∈ i :: a :: l, p ∈ a :: b :: i :: d :: l := fun p hp => by
  simp only [List.mem_cons] at hp ⊢
  rcases hp with h | h | h
  · exact .inr (.inr (.inl h))
  · exact .inl h
  · exact .inr (.inr (.inr (.inr h)))
theorem led_sub1 {L : Addr} {o1 o2 o3 o4 o5 : Obj} {tb dl : List (Addr × Obj)} {q : Addr × Obj} : ∀ p ∈ led L o1 o2 o3 o4 o5 tb (q :: dl), p ∈ q :: led L o1 o2 o3 o4 o5 tb dl := fun p hp => by
  unfold led at hp ⊢
  simp only [List.mem_cons, List.mem_append] at hp ⊢
  rcases hp with h | h | h | h | h | h | h | h
  · exact .inr (.inl h)
  · exact .inr (.inr (.inl h))
  · exact .inr (.inr (.inr (.inl h)))
  · exact .inr (.inr (.inr (.inr (.inl h))))
  · exact .inr (.inr (.inr (.inr (.inr (.inl h)))))
  · exact .inr (.inr (.inr (.inr (.inr (.inr (.inl h))))))
  · exact .inl h
  · exact .inr (.inr (.inr (.inr (.inr (.inr (.inr h))))))
theorem tape_in {rs : List Rule} (n9 : rs.length ≤ 9) (ok : ∀ r ∈ rs, r.ok) : ∀ n ∈ tapeInts rs, 0 ≤ n ∧ n < 256 := fun n hn => by
  unfold tapeInts at hn
  simp only [List.mem_append, List.mem_cons, List.not_mem_nil, or_false, List.mem_flatMap] at hn
  rcases hn with (rfl | ⟨r, hr, h⟩) | h
  · omega
  · obtain ⟨a1, a2, a3, a4, a5, a6⟩ := ok r hr
    rcases h with rfl | rfl | rfl | rfl <;> omega
  · omega
theorem led_less {L : Addr} {o1 o2 o3 o4 o5 : Obj} {tb tb' dl : List (Addr × Obj)} {cs : List Addr} (d : Dl L tb dl) (hs : ∀ p ∈ tb', p ∈ tb ∧ p.1 ∉ cs) (hc : ∀ c ∈ cs, @LT.lt Nat _ c L ∧ c ∈ tb.map fun p => p.1) :
    ∀ p ∈ led L o1 o2 o3 o4 o5 tb' dl, p ∈ led L o1 o2 o3 o4 o5 tb dl ∧ p.1 ∉ cs := fun p hp => by
  have up : ∀ k : Nat, k = L + 1 ∨ k = L + 1 + 1 ∨ k = L + 1 + 1 + 1 ∨ k = L + 1 + 1 + 1 + 1 ∨ k = L + 1 + 1 + 1 + 1 + 1 → (k : Addr) ∉ cs := fun k hk hm => by
    have h1 : @LT.lt Nat _ k L := (hc k hm).1
    omega
  unfold led at hp ⊢
  rcases List.mem_cons.mp hp with rfl | hp
  · exact ⟨.head _, up _ (by simp)⟩
  rcases List.mem_cons.mp hp with rfl | hp
  · exact ⟨.tail _ (.head _), up _ (by simp)⟩
  rcases List.mem_cons.mp hp with rfl | hp
  · exact ⟨.tail _ (.tail _ (.head _)), up _ (by simp)⟩
  rcases List.mem_cons.mp hp with rfl | hp
  · exact ⟨.tail _ (.tail _ (.tail _ (.head _))), up _ (by simp)⟩
  rcases List.mem_cons.mp hp with rfl | hp
  · exact ⟨.tail _ (.tail _ (.tail _ (.tail _ (.head _)))), up _ (by simp)⟩
  rcases List.mem_append.mp hp with hp | hp
  · exact ⟨.tail _ (.tail _ (.tail _ (.tail _ (.tail _ (List.mem_append_left _ (hs p hp).1))))), (hs p hp).2⟩
  · refine ⟨.tail _ (.tail _ (.tail _ (.tail _ (.tail _ (List.mem_append_right _ hp))))), fun hm => ?_⟩
    exact d p hp p.1 (List.mem_append_right _ (hc _ hm).2) rfl
theorem new_list (h hb : Heap) (pl : Addr) : ∃ nw : List (Addr × Obj), (∀ b o, b ≠ pl → hb.get? b = some o → h.get? b = none → (b, o) ∈ nw) ∧ ∀ p ∈ nw, p.1 ≠ pl ∧ hb.get? p.1 = some p.2 ∧ h.get? p.1 = none := by
  run_tac Mine.Sh.mark
  focus
    refine ⟨(List.range hb.objs.size).filterMap fun b => if @Eq Nat b pl then none else if (h.get? b).isNone then (hb.get? b).map fun o => (b, o) else none, fun b o n e z => ?_, fun p hp => ?_⟩
    · refine List.mem_filterMap.mpr ⟨b, List.mem_range.mpr (Heap.lt_size e), ?_⟩
      rw [if_neg n, if_pos (by rw [z]; rfl), e]; rfl
    · obtain ⟨b, _, e⟩ := List.mem_filterMap.mp hp
      by_cases n : @Eq Nat b pl
      · rw [if_pos n] at e; cases e
      · rw [if_neg n] at e
        by_cases z : (h.get? b).isNone
        · rw [if_pos z] at e
          obtain ⟨o, e2, rfl⟩ := Option.map_eq_some_iff.mp e
          exact ⟨n, e2, Option.isNone_iff_eq_none.mp z⟩
        · rw [if_neg z] at e; cases e
  run_tac Mine.Sh.fin
theorem led_cut {L : Addr} {o1 o2 o3 o4 o5 : Obj} {tb tb' dl dl' : List (Addr × Obj)} {cs : List Addr} (hcell : ∀ c ∈ offL L [], c ∉ cs) (hs : ∀ p ∈ tb', p ∈ tb ∧ p.1 ∉ cs) (hd : ∀ p ∈ dl', p ∈ dl ∧ p.1 ∉ cs) :
    ∀ p ∈ led L o1 o2 o3 o4 o5 tb' dl', p ∈ led L o1 o2 o3 o4 o5 tb dl ∧ p.1 ∉ cs := fun p hp => by
  unfold led at hp ⊢
  unfold offL at hcell
  rcases List.mem_cons.mp hp with rfl | hp
  · exact ⟨.head _, hcell _ (.head _)⟩
  rcases List.mem_cons.mp hp with rfl | hp
  · exact ⟨.tail _ (.head _), hcell _ (.tail _ (.head _))⟩
  rcases List.mem_cons.mp hp with rfl | hp
  · exact ⟨.tail _ (.tail _ (.head _)), hcell _ (.tail _ (.tail _ (.head _)))⟩
  rcases List.mem_cons.mp hp with rfl | hp
  · exact ⟨.tail _ (.tail _ (.tail _ (.head _))), hcell _ (.tail _ (.tail _ (.tail _ (.head _))))⟩
  rcases List.mem_cons.mp hp with rfl | hp
  · exact ⟨.tail _ (.tail _ (.tail _ (.tail _ (.head _)))), hcell _ (.tail _ (.tail _ (.tail _ (.tail _ (.head _)))))⟩
  rcases List.mem_append.mp hp with hp | hp
  · exact ⟨.tail _ (.tail _ (.tail _ (.tail _ (.tail _ (List.mem_append_left _ (hs p hp).1))))), (hs p hp).2⟩
  · exact ⟨.tail _ (.tail _ (.tail _ (.tail _ (.tail _ (List.mem_append_right _ (hd p hp).1))))), (hd p hp).2⟩
theorem nb134 {g h : Heap} {L : Addr} {m : Str → Option Value} {o1 o2 o3 o4 o5 o : Obj} {tb tb' dl : List (Addr × Obj)} (F : Fr g L h m) (N : News g L h (led L o1 o2 o3 o4 o5 tb dl)) (lt : @LT.lt Nat _ 134 L) (h134 : ((134 : Addr), o) ∈ tb) (hs : ∀ p ∈ tb', p ∈ tb ∧ p.1 ≠ (134 : Addr)) :
    ∀ b : Addr, (@Eq Nat b 134 ∨ h.get? b = none) → b ≠ L ∧ g.get? b = none ∧ ∀ c ∈ offL L tb', b ≠ c := fun b hb => by
  rcases hb with hb | hb
  · obtain rfl : b = (134 : Addr) := hb
    refine ⟨Nat.ne_of_lt lt, (N (134, o) (.tail _ (.tail _ (.tail _ (.tail _ (.tail _ (List.mem_append_left _ h134))))))).2.2, fun c hc q => ?_⟩
    subst q
    unfold offL at hc
    rcases List.mem_append.mp hc with hc | hc
    · simp only [List.mem_cons, List.not_mem_nil, or_false] at hc
      rcases hc with q | q | q | q | q
      · exact absurd q (show ¬ @Eq Nat 134 (L + 1 + 1 + 1 + 1 + 1) by omega)
      · exact absurd q (show ¬ @Eq Nat 134 (L + 1 + 1 + 1 + 1) by omega)
      · exact absurd q (show ¬ @Eq Nat 134 (L + 1 + 1 + 1) by omega)
      · exact absurd q (show ¬ @Eq Nat 134 (L + 1 + 1) by omega)
      · exact absurd q (show ¬ @Eq Nat 134 (L + 1) by omega)
    · obtain ⟨p, hp, e⟩ := List.mem_map.mp hc
      exact (hs p hp).2 e
  · refine ⟨fun q => ?_, ?_, fun c hc q => ?_⟩
    · obtain ⟨o', _, _, e', _⟩ := F.ns
      rw [← q, hb] at e'; cases e'
    · cases q : g.get? b with
      | none => rfl
      | some o' => have := F.keep _ _ q; rw [hb] at this; cases this
    · subst q
      have hc2 : b ∈ offL L tb := by
        unfold offL at hc ⊢
        rcases List.mem_append.mp hc with hc | hc
        · exact List.mem_append_left _ hc
        · obtain ⟨p, hp, rfl⟩ := List.mem_map.mp hc
          exact List.mem_append_right _ (List.mem_map.mpr ⟨p, (hs p hp).1, rfl⟩)
      obtain ⟨o', hm⟩ := offL_in (dl := dl) (o1 := o1) (o2 := o2) (o3 := o3) (o4 := o4) (o5 := o5) b hc2
      exact new_ne N hb _ hm rfl
theorem ints_item {vs : List Value} {ns : List Int} (h : IntsAre vs ns) {i : Nat} {v : Value} (e : vs[i]? = some v) : ∃ x t, v = .int x t ∧ ns[i]? = some x := by
  run_tac Mine.Sh.mark
  focus
    obtain ⟨hi, _⟩ := List.getElem?_eq_some_iff.mp e
    obtain ⟨t, e'⟩ := ints_at h (List.getElem?_eq_getElem (h.length ▸ hi))
    rw [e] at e'
    exact ⟨_, t, Option.some.inj e', List.getElem?_eq_getElem _⟩
  run_tac Mine.Sh.fin
noncomputable def Drawn9 (ds : List Int) : Prop := ds.length ≤ 9 ∧ ∀ d ∈ ds, 0 ≤ d ∧ d < 10 ^ 10
end

section -- L2
section
variable {prog : Program} {w : World} {A : Around} {E : Value → Shared → Prop} {env : Env} {g : Heap} {L : Addr} {gn : Array GenState} {dr : Drawn} {os : OsState}
noncomputable def TEnd (g : Heap) (L I : Addr) (o : Obj) (gn : Array GenState) (dr : Drawn) (os : OsState) (P : Nat → List (Addr × Obj) → (Str → Option Value) → Prop) (j : Nat) (f : Flow) (s : Shared) : Prop :=
  f = .next ∧ ∃ (h' : Heap) (tk' : Nat) (l' : List (Addr × Obj)) (m' : Str → Option Value), s = ⟨h', gn, dr, tk', os⟩ ∧ Fr g L h' m' ∧ News g L h' ((I, o) :: l') ∧ (∀ p ∈ l', p.1 ≠ I) ∧ P (j + 1) l' m'
theorem for_items {target : PySem.Expr} {body : List Stmt} {Q : Flow → Shared → Prop} {rl : Addr} {items : Array Value} {k : Nat} {h : Heap} {tk : Nat} {l : List (Addr × Obj)} {m : Str → Option Value} (hE : PassesOwn (model prog w) A env E) (hh : A.handled = none)
    (P : Nat → List (Addr × Obj) → (Str → Option Value) → Prop) (hin : ∀ j l m, P j l m → (rl, listOf items k) ∈ l)
    (P0 : P 0 l m) (F : Fr g L h m) (N : News g L h l)
    (turn : ∀ (j : Nat) (v : Value) (I : Addr) (o : Obj) (h : Heap) (tk : Nat) (l : List (Addr × Obj)) (m : Str → Option Value), items[j]? = some v → P j l m → Fr g L h m → News g L h ((I, o) :: l) → (∀ p ∈ l, p.1 ≠ I) →
      wpAny (model prog w) A (assign target env v) (fun _ s₂ => wpAny (model prog w) A (execs body env) (TEnd g L I o gn dr os P j) E s₂) E ⟨h, gn, dr, tk, os⟩)
    (fin : ∀ (h : Heap) (tk : Nat) (l : List (Addr × Obj)) (m : Str → Option Value), P items.size l m → Fr g L h m → News g L h l → Q .next ⟨h, gn, dr, tk, os⟩) :
    wpAny (model prog w) A (pyIter (.ref rl)) (fun it s₂ => ForRest prog w A E env target it body Q s₂) E ⟨h, gn, dr, tk, os⟩ := by
  run_tac Mine.Sh.mark
  focus
    refine iter_list F N (news_list N (hin _ _ _ P0)) fun I o h1 li F1 N1 _ lt1 => ?_
    refine for_ind items.size (fun j s => ∃ (h : Heap) (tk : Nat) (o : Obj) (l : List (Addr × Obj)) (m : Str → Option Value), s = ⟨h, gn, dr, tk, os⟩ ∧ LIt o rl j ∧ Fr g L h m ∧ News g L h ((I, o) :: l) ∧ (∀ p ∈ l, p.1 ≠ I) ∧ P j l m) ?_ ?_ 0 _ (Nat.zero_le _)
      ⟨h1, _, o, l, m, rfl, li, F1, N1, fun p hp => Nat.ne_of_lt (lt1 p hp), P0⟩
    · rintro s ⟨h, tk, o, l, m, rfl, li, F, N, ne, hP⟩
      refine for_turn hE ?_
      have hl : h.IsList rl items := let ⟨oo, e, r⟩ := news_list N (.tail _ (hin _ _ _ hP)); ⟨oo, e, r⟩
      refine wpAny_pyNext_list_end hh ⟨o, (N (I, o) (.head _)).1, li.cls, li.data⟩ hl (by simp) fun h' hs => ?_
      refine fin h' _ l m hP (fo_fr F (N (I, o) (.head _)).2.1 (N (I, o) (.head _)).2.2 hs) fun p hp => ⟨hs _ _ (ne p hp) (N p (.tail _ hp)).1, (N p (.tail _ hp)).2⟩
    · rintro j s hj ⟨h, tk, o, l, m, rfl, li, F, N, ne, hP⟩ hrec
      refine for_turn hE ?_
      have hl : h.IsList rl items := let ⟨oo, e, r⟩ := news_list N (.tail _ (hin _ _ _ hP)); ⟨oo, e, r⟩
      obtain ⟨v, hv⟩ : ∃ v, items[j]? = some v := ⟨_, Array.getElem?_eq_getElem hj⟩
      refine wpAny_pyNext_list_item ⟨o, (N (I, o) (.head _)).1, li.cls, li.data⟩ hl hv fun h' hit hs => ?_
      obtain ⟨o', g1, g2, g3⟩ := hit
      dsimp only [ForNext]
      refine own_list g1 g2 g3 ?_
      have F2 : Fr g L h' m := fo_fr F (N (I, o) (.head _)).2.1 (N (I, o) (.head _)).2.2 hs.extBut
      have N2 : News g L h' ((I, o') :: l) := fun p hp => by
        rcases List.mem_cons.mp hp with rfl | hp
        · exact ⟨g1, (N (I, o) (.head _)).2⟩
        · exact ⟨hs.extBut _ _ (ne p hp) (N p (.tail _ hp)).1, (N p (.tail _ hp)).2⟩
      refine wpAny_mono (turn j v I o' h' _ l m hv hP F2 N2 ne) (fun _ s₂ h₂ => wpAny_mono h₂ (fun f s₃ h₃ => ?_) fun _ _ e => e) fun _ _ e => e
      obtain ⟨rfl, h4, tk4, l4, m4, rfl, F4, N4, ne4, P4⟩ := h₃
      exact hrec _ ⟨h4, tk4, o', l4, m4, rfl, ⟨g2, g3⟩, F4, N4, ne4, P4⟩
  run_tac Mine.Sh.fin
end
end

section -- LP
local macro_rules | `(tactic| walk_at $k) => Mine.Tx.look k.getString "exec For Name Name cons nil ==> (k_here; k_dflt (refine for_start ?_))
pyIter ref ==> (k_here; refine halt2 ?_)
ForRest ==> (refine halt2 ?_)"
noncomputable def preP (bits hi lo : Int) : Nat → Str
  | 0 => Str.ofString ""
  | 1 => octPat bits hi
  | _ => octPat bits hi ++ octPat (bits - 8) lo
theorem octPat_len (b x : Int) : (octPat b x).length ≤ 5 := by
  run_tac Mine.Sh.mark
  focus
    unfold octPat
    split
    · split <;> exact Nat.le_of_ble_eq_true rfl
    · split
      · exact Nat.le_of_ble_eq_true rfl
      · split <;> exact Nat.le_of_ble_eq_true rfl
  run_tac Mine.Sh.fin
theorem pre_len {bits hi lo : Int} {j : Nat} (h : j < 2) : (preP bits hi lo j).length ≤ 5 := by
  run_tac Mine.Sh.mark
  focus
    match j, h with
    | 0, _ => exact Nat.zero_le 5
    | 1, _ => exact octPat_len _ _
  run_tac Mine.Sh.fin
theorem str_nil (a : Str) : Str.ofString "" ++ a = a := by
  show (⟨_⟩ : Str) = _
  cases a; congr 1; exact Array.empty_append
theorem pre_turn {bits hi lo : Int} {j : Nat} {v : Value} {t2 t3 : Tok} (h0 : 0 ≤ hi) (h1 : hi ≤ 255) (h2 : 0 ≤ lo) (h3 : lo ≤ 255) (hv : [Value.int hi t2, .int lo t3].toArray[j]? = some v) :
    ∃ x t, v = .int x t ∧ 0 ≤ x ∧ x ≤ 255 ∧ j < 2 ∧ preP bits hi lo (j + 1) = preP bits hi lo j ++ octPat (bits - 8 * (j : Int)) x := by
  run_tac Mine.Sh.mark
  focus
    match j, hv with
    | 0, hv => cases hv; exact ⟨hi, t2, rfl, h0, h1, by decide, by show octPat bits hi = _; rw [show bits - 8 * ((0 : Nat) : Int) = bits from Int.sub_zero bits]; exact (str_nil _).symm⟩
    | 1, hv => cases hv; exact ⟨lo, t3, rfl, h2, h3, by decide, rfl⟩
    | j + 2, hv => cases hv
  run_tac Mine.Sh.fin
noncomputable def PatAt (bits hi lo : Int) (l : Addr) (ol : Obj) (j : Nat) (l' : List (Addr × Obj)) (m : Str → Option Value) : Prop :=
  l' = [(l, ol)] ∧ ∃ (W : Str) (b : Int) (tW tb : Tok) (m₀ : Str → Option Value), W = preP bits hi lo j ∧ b = bits - 8 * (j : Int) ∧ m = fun y => if y = Str.ofString "written" then some (.str W tW) else if y = Str.ofString "bits" then some (.int b tb) else m₀ y
theorem law_pattern (w : World) (loose : List Str) (mean : ExcName → Option Value) (mg mb : Str → Option Value)
   (dp un : Nat) (fr : Option (List Env)) (gd : Option (List Code)) (s : Shared) (Q E : Value → Shared → Prop) (h₀ : Heap)
   (bits hi lo : Int) (l : Addr) (t1 t2 t3 : Tok) (hb0 : 0 ≤ bits) (hb1 : bits ≤ 16) (h0 : 0 ≤ hi) (h1 : hi ≤ 255) (h2 : 0 ≤ lo) (h3 : lo ≤ 255)
   (St : Sub h₀ s.heap) (Bs : Beside h₀ s.heap [(l, listOf [.int hi t2, .int lo t3].toArray 0)])
   (X : (Mine.hd.heap_39 w.params).In h₀) (T : Top topProg loose mean mg mb h₀)
   (hd : dp + 10 < recursionLimit) (hu : un + 80 < cLine)
   (hret : ∀ P t' h' tk', P = octPat bits hi ++ octPat (bits - 8) lo → Sub s.heap h' → Q (.str P t') { s with heap := h', toks := tk' }) :
   wpAny (model prg w) (TP dp un fr gd) (call (.ref 106) [.int bits t1, .ref l]) Q E s := by
  run_tac Mine.Sh.mark
  focus
    obtain ⟨hp, gn, dr, tk, os⟩ := s
    dsimp only at St Bs hret ⊢
    obtain ⟨g, Sg, S, hle, Bs, Cv⟩ := hideUp St Bs
    have X := X.keeps Sg.stays
    have T := T.keeps Sg.stays
    clear Sg St
    tb_start
    k_steps
    unfold Halt2
    rename Fr _ _ _ _ => Fo
    rename News _ _ _ _ => No
    rename_i L hx lx hy
    have F1 := Fr.wrap (Fr.wrap Fo (Str.ofString "bits") (some (.int bits t1)) (by kernel_rfl!)) (Str.ofString "written") (some (.str (Str.ofString "") (tk + 2))) (by kernel_rfl!)
    refine for_items (items := [.int hi t2, .int lo t3].toArray) (k := 0) (by first | passes_own | with_unfolding_all passes_own) rfl
      (PatAt bits hi lo l (listOf [.int hi t2, .int lo t3].toArray 0))
      (fun j l' m q => by rw [q.1]; exact .head _) ⟨rfl, _, _, _, _, _, rfl, (Int.sub_zero bits).symm, rfl⟩ F1 No ?turn ?fin
    case turn =>
      rintro j v I o hz tkz lz m hv ⟨rfl, W, b, tW, tb, m₀, hW, hb, rfl⟩ F3 N3 ne3
      clear Fo No F1
      obtain ⟨x, t, rfl, x0, x1, hj, hx⟩ := pre_turn (bits := bits) h0 h1 h2 h3 hv
      rw [← hW, ← hb] at hx
      have o1 := octFacts b x x0 x1
      have hb' : b - 8 = bits - 8 * ((j + 1 : Nat) : Int) := by omega
      have b0 : -8 ≤ b ∧ b ≤ 16 := by omega
      have hWl : W.length ≤ 5 := by rw [hW]; exact pre_len hj
      have fin' : ∀ (h : Heap) (tk : Nat) (W' : Str) (tW tb : Tok) (m' : Str → Option Value), W' = preP bits hi lo (j + 1) → Fr g L h (fun y => if y = Str.ofString "written" then some (.str W' tW) else if y = Str.ofString "bits" then some (.int (b - 8) tb) else m' y) →
          News g L h [(I, o), (l, listOf [.int hi t2, .int lo t3].toArray 0)] → TEnd g L I o gn dr os (PatAt bits hi lo l (listOf [.int hi t2, .int lo t3].toArray 0)) j .next ⟨h, gn, dr, tk, os⟩ := fun h tk W' tW tb m' e F N =>
        ⟨rfl, _, _, _, _, rfl, F, N, ne3, rfl, _, _, _, _, _, e, hb', rfl⟩
      clear hW hb hv hj h0 h1 h2 h3
      k_steps
      all_goals
        rename Fr _ _ _ _ => F5
        rename News _ _ _ _ => N5
        refine fin' _ _ _ _ _ _ ?hW (Fr.wrap (Fr.wrap F5 (Str.ofString "bits") _ rfl) (Str.ofString "written") _ rfl) N5
        case hW =>
          rw [hx]
          unfold octPat
          repeat first
            | rw [if_pos (by first | assumption | omega)]
            | rw [if_neg (by first | assumption | omega | (rw [Bool.not_eq_true]; assumption))]
          try rfl
    case fin =>
      rintro h tk l' m ⟨rfl, W, b, tW, tb, m₀, hW, hb, rfl⟩ F N
      clear Fo No F1
      k_steps
      exact hret _ _ _ _ hW (Sub.ofB Cv (by assumption) (by assumption) (by intro p hp'; exact List.mem_singleton.mp hp' ▸ (by k_mem)))
  run_tac Mine.Sh.fin
end

section -- Cr
section
variable {prog : Program} {w : World} {A : Around} {E : Value → Shared → Prop} {R : Result → Shared → Prop} {s : Shared} {env : Env}
noncomputable def RTurn (prog : Program) (w : World) (A : Around) (env : Env) (elt : PySem.Expr) (y : Str) (py : Pos) (scope : Scope) (cl : List (Str × Addr)) (g : Heap) (n : Nat) (J : Nat → List Value → List (Addr × Obj) → Array GenState → Prop) (s₁ : Shared) : Prop :=
  ∀ (i : Nat) (t : Tok) (ys : List Value) (tl : List (Addr × Obj)) (C I D : Addr) (oI : Obj) (h : Heap) (gn : Array GenState) (m : Str → Option Value) (tk : Nat) (E' : Value → Shared → Prop), i < n → J i ys tl gn → Fr g C h m → News g C h ((I, oI) :: (D, LCg.lst ys) :: tl) → (∀ p ∈ tl, p.1 ≠ I ∧ p.1 ≠ D) → @Ne Nat I D → ys.length = i →
    wpAny (model prog w) A (assign (.Name y py) (compEnvC scope cl C env) (.int (i : Int) t)) (fun _ s₂ => wpAny (model prog w) A (eval elt (compEnvC scope cl C env)) (CEnd g C I D oI ys i J s₁) E' s₂) E' { s₁ with heap := h, gens := gn, toks := tk }
noncomputable def RSrcA (prog : Program) (w : World) (A : Around) (env : Env) (elt : PySem.Expr) (ty : Str) (tp : Pos) (scope : Scope) (cl : List (Str × Addr)) (y : Str) (m : Str → Option Value) (Q : Flow → Shared → Prop) (xv : Value) (s₁ : Shared) : Prop :=
  ∃ (g : Heap) (r : Addr) (n : Nat) (t u v : Tok) (tl0 : List (Addr × Obj)) (J : Nat → List Value → List (Addr × Obj) → Array GenState → Prop), xv = .ref r ∧ A.handled = none ∧ Sub g s₁.heap ∧ g.objs.size ≤ s₁.heap.objs.size ∧ Beside g s₁.heap tl0 ∧ IsRange s₁.heap r 0 (n : Int) 1 t u v ∧ (Builtin.Range.small 0 (n : Int) 1 = true ∧ Builtin.Range.rangeSize 0 (n : Int) 1 = n) ∧ n ≤ sizeLine ∧ J 0 [] tl0 s₁.gens ∧
    RTurn prog w A env elt ty tp scope cl g n J s₁ ∧ g.Ns env.locals m ∧
    ∀ (D : Addr) (h : Heap) (gn : Array GenState) (tk : Nat) (ys : List Value) (tl : List (Addr × Obj)), J n ys tl gn → (∀ b o, b ≠ env.locals → g.get? b = some o → h.get? b = some o) → h.Ns env.locals (fun z => if z = y then some (.ref D) else m z) → s₁.heap.get? D = none → h.get? D = some (LCg.lst ys) → ys.length = n →
      (∀ p ∈ tl, h.get? p.1 = some p.2 ∧ g.get? p.1 = none ∧ p.1 ≠ D) → Q .next { s₁ with heap := h, gens := gn, toks := tk }
theorem rcomp_block {elt iter : PySem.Expr} {ty : Str} {tp : Pos} {scope : Scope} {cl : List (Str × Addr)} {pos : Pos} {R : Value → Addr → Result → Shared → Prop} {s₁ : Shared} {g : Heap} {r : Addr} {n : Nat} {t u v : Tok} {tl0 : List (Addr × Obj)} {J : Nat → List Value → List (Addr × Obj) → Array GenState → Prop}
    (hcell : ∀ y ∈ scope.names, y.2 ≠ .cell) (hkind : scope.kind = .function)
    (hh : A.handled = none) (Sg : Sub g s₁.heap) (hle : g.objs.size ≤ s₁.heap.objs.size) (Bs : Beside g s₁.heap tl0) (hr : IsRange s₁.heap r 0 (n : Int) 1 t u v) (hsm : Builtin.Range.small 0 (n : Int) 1 = true ∧ Builtin.Range.rangeSize 0 (n : Int) 1 = n) (hsz : n ≤ sizeLine) (J0 : J 0 [] tl0 s₁.gens) (turn : RTurn prog w A env elt ty tp scope cl g n J s₁)
    (fin : ∀ (D C : Addr) (h : Heap) (gn : Array GenState) (tk : Nat) (ys : List Value) (tl : List (Addr × Obj)) (m : Str → Option Value), J n ys tl gn → h.Ns C m → Sub g h → s₁.heap.get? D = none → s₁.heap.get? C = none → @Ne Nat D C → h.get? D = some (LCg.lst ys) → ys.length = n →
      (∀ p ∈ tl, h.get? p.1 = some p.2 ∧ g.get? p.1 = none ∧ p.1 ≠ D ∧ p.1 ≠ C) → R (.ref D) C (.ok .next) { s₁ with heap := h, gens := gn, toks := tk }) :
    wpAny (model prog w) A (pyIter (.ref r)) (fun it s₂ => wpAny (model prog w) A (newList []) (fun acc s₃ => wpAny (model prog w) A (newFunctionEnv scope env.globals cl [] env.qual none .none (some env)) (fun cenv s₄ =>
      codeAny (model prog w) A (.compStart (.ListComp elt [⟨.Name ty tp, iter, [], 0⟩] scope pos) 0 it acc { cenv with scope := relabel scope env }) (R acc cenv.locals) s₄) E s₃) E s₂) E s₁ := by
  refine wpAny_pyIter_range hr hsm.1 ?_
  rw [hsm.2]
  refine wpAny_newObj_type (wpAny_newFunctionEnv hcell (by intro y hy; simp at hy) (fun h₁ hns₁ hsb₁ => ?_) hkind)
  dsimp only at hns₁ hsb₁ ⊢
  obtain ⟨I, hI⟩ : ∃ I : Addr, s₁.heap.objs.size = I := ⟨_, rfl⟩
  generalize hH1 : s₁.heap.push { cls := .type "range_iterator", dict := none, data := .fields #[rawInt 0, rawInt (n : Int), rawInt 1] } = H1 at hns₁ hsb₁ ⊢
  have hD : H1.objs.size = I + 1 := by rw [← hH1, Heap.size_push, hI]
  generalize hH2 : H1.push { cls := .type "list", dict := none, data := .seq ([] : List Value).toArray } = H2 at hns₁ hsb₁ ⊢
  have hC : H2.objs.size = I + 2 := by rw [← hH2, Heap.size_push, hD]
  have low : ∀ b o, s₁.heap.get? b = some o → h₁.get? b = some o := fun b o e => by
    have hb := Heap.lt_size e
    rw [hI] at hb
    refine hsb₁.extBut b o (by rw [hC]; exact Nat.ne_of_lt (Nat.lt_add_right 2 hb)) (Heap.get?_push_of_some _ ?_)
    rw [← hH2]; refine Heap.get?_push_of_some _ ?_
    rw [← hH1]; exact Heap.get?_push_of_some _ e
  have eI : h₁.get? I = some (rIt 0 (n : Int) 1) := by
    refine hsb₁.extBut _ _ (by rw [hC]; exact Nat.ne_of_lt (Nat.lt_succ_of_lt (Nat.lt_succ_self I))) (Heap.get?_push_of_some _ ?_)
    rw [← hH2]; refine Heap.get?_push_of_some _ ?_
    rw [← hH1, ← hI]; exact Heap.get?_push_size _ rfl
  have eD : h₁.get? (I + 1) = some (LCg.lst []) := by
    refine hsb₁.extBut _ _ (by rw [hC]; exact Nat.ne_of_lt (Nat.lt_succ_self _)) (Heap.get?_push_of_some _ ?_)
    rw [← hH2, ← hD]; exact Heap.get?_push_size _ rfl
  rw [hC] at hns₁ ⊢
  rw [hD]
  rw [hI]
  have hgn : ∀ b : Addr, @LE.le Nat _ I b → g.get? b = none := fun b hb => Heap.get?_none_of_le (Nat.le_trans (hI ▸ hle) hb)
  have above : g.objs.size ≤ I + 2 := Nat.le_trans (hI ▸ hle) (Nat.le_add_right _ _)
  have htl : ∀ p ∈ tl0, @LT.lt Nat _ p.1 I := fun p hp => hI ▸ Heap.lt_size (Bs p hp).1
  have loop : ∀ s₃ : Shared, s₃ = { s₁ with heap := h₁, toks := s₁.toks + ([] : List (Str × Value)).length } →
      codeAny (model prog w) A (.compLoop (.ListComp elt [⟨.Name ty tp, iter, [], 0⟩] scope pos) 0 (.ref I) (.ref (I + 1)) (compEnvC scope cl (I + 2) env))
        (R (.ref (I + 1)) (I + 2)) s₃ := by
    rintro s₃ rfl
    refine compLoop_own (fun k s' => ∃ (h' : Heap) (gn : Array GenState) (tk i : Nat) (ys : List Value) (tl : List (Addr × Obj)) (m : Str → Option Value), s' = { s₁ with heap := h', gens := gn, toks := tk } ∧ i ≤ n ∧ k = n + 1 - i ∧ ys.length = i ∧
      Fr g (I + 2) h' m ∧ News g (I + 2) h' ((I, rIt (i : Int) ((n : Int) - i) 1) :: (I + 1, LCg.lst ys) :: tl) ∧ (∀ p ∈ tl, p.1 ≠ I ∧ p.1 ≠ I + 1) ∧ J i ys tl gn) ?_ (n + 1)
      ⟨h₁, s₁.gens, _, 0, [], tl0, _, rfl, Nat.zero_le _, rfl, rfl, ⟨hns₁, fun b o e => low b o (Sg.stays _ _ e), above⟩, fun p hp => ?_, fun p hp => ⟨Nat.ne_of_lt (htl p hp), Nat.ne_of_lt (Nat.lt_succ_of_lt (htl p hp))⟩, J0⟩
    · rintro k s' ⟨h', gn, tk, i, ys, tl, m, rfl, hi, rfl, hyl, F', N', off, hJ⟩
      have zI := N' (I, rIt (i : Int) ((n : Int) - i) 1) (.head _)
      by_cases hlt : i < n
      · refine wpAny_pyNext_range_item zI.1 (show (0 : Int) < (n : Int) - i by omega) fun h₂ hit₂ hs₂ => ?_
        dsimp only
        refine wpAny_of_eq (a := ()) rfl ?_
        have F₂ : Fr g (I + 2) h₂ m := fo_fr F' (show ¬ (@Eq Nat I (I + 2)) from by omega) zI.2.2 hs₂.extBut
        have N₂ : News g (I + 2) h₂ ((I, rIt ((i : Int) + 1) ((n : Int) - i - 1) 1) :: (I + 1, LCg.lst ys) :: tl) := fun p hp => by
          rcases List.mem_cons.mp hp with rfl | hp
          · exact ⟨hit₂, zI.2⟩
          · refine ⟨hs₂.extBut _ _ ?_ (N' p (.tail _ hp)).1, (N' p (.tail _ hp)).2⟩
            rcases List.mem_cons.mp hp with rfl | hp
            · exact (show ¬ (@Eq Nat (I + 1) I) from by omega)
            · exact (off p hp).1
        refine wpAny_mono (turn i _ ys tl (I + 2) I (I + 1) _ h₂ gn m _ _ hlt hJ F₂ N₂ off (Nat.ne_of_lt (Nat.lt_succ_self I)) hyl) (fun _ s₂ h₂ => wpAny_mono h₂ (fun y s₃ h₃ => ?_) fun _ _ e => e) fun _ _ e => e
        obtain ⟨h₄, gn₄, tk₄, tl₄, m₄, rfl, F₄, N₄, off₄, J₄⟩ := h₃
        have zD := N₄ (I + 1, LCg.lst ys) (.tail _ (.head _))
        refine append_at (hsz := by show ys.toArray.size ≤ sizeLine; rw [List.size_toArray, hyl]; exact Nat.le_trans hi hsz) zD.1 fun h₅ hs₅ hD₅ => ?_
        refine ⟨n + 1 - (i + 1), by omega, h₅, gn₄, tk₄, i + 1, ys ++ [y], tl₄, m₄, rfl, hlt, rfl, by rw [List.length_append, List.length_singleton, hyl], fo_fr F₄ (show ¬ (@Eq Nat (I + 1) (I + 2)) from by omega) zD.2.2 hs₅.extBut, fun p hp => ?_, off₄, J₄⟩
        rcases List.mem_cons.mp hp with rfl | hp
        · rw [show ((i + 1 : Nat) : Int) = (i : Int) + 1 from by omega, show (n : Int) - ((i : Int) + 1) = (n : Int) - i - 1 from by omega]
          exact ⟨hs₅.extBut _ _ (show ¬ (@Eq Nat I (I + 1)) from by omega) (N₄ _ (.head _)).1, (N₄ _ (.head _)).2⟩
        · rcases List.mem_cons.mp hp with rfl | hp
          · exact ⟨hD₅.trans (congrArg some (LCg.lst_snoc ys y)), zD.2⟩
          · exact ⟨hs₅.extBut _ _ (off₄ p hp).2 (N₄ p (.tail _ (.tail _ hp))).1, (N₄ p (.tail _ (.tail _ hp))).2⟩
      · obtain rfl : i = n := Nat.le_antisymm hi (Nat.not_lt.mp hlt)
        refine range_end hh zI.1 (by omega) fun h₂ hk₂ => ?_
        have F₂ : Fr g (I + 2) h₂ m := sub_frR F' hk₂
        refine fin (I + 1) (I + 2) h₂ gn tk ys tl m hJ F₂.ns ⟨F₂.keep⟩ (Heap.get?_none_of_le (by rw [hI]; exact Nat.le_succ _)) (Heap.get?_none_of_le (by rw [hI]; exact Nat.le_add_right _ _)) (Nat.ne_of_lt (Nat.lt_succ_self _)) (hk₂ _ _ (N' _ (.tail _ (.head _))).1) hyl fun p hp => ⟨hk₂ _ _ (N' p (.tail _ (.tail _ hp))).1, (N' p (.tail _ (.tail _ hp))).2.2, (off p hp).2, (N' p (.tail _ (.tail _ hp))).2.1⟩
    · rcases List.mem_cons.mp hp with rfl | hp
      · refine ⟨?_, (show ¬ (@Eq Nat I (I + 2)) from by omega), hgn _ (Nat.le_refl _)⟩
        rw [show (n : Int) - ((0 : Nat) : Int) = n from by omega]; exact eI
      · rcases List.mem_cons.mp hp with rfl | hp
        · exact ⟨eD, (show ¬ (@Eq Nat (I + 1) (I + 2)) from by omega), hgn _ (Nat.le_succ _)⟩
        · exact ⟨low _ _ (Bs p hp).1, Nat.ne_of_lt (Nat.lt_add_right 2 (htl p hp)), (Bs p hp).2⟩
  exact codeAny_compStart_list (loop _ rfl) (wpAny_pyIter_rangeiter eI (loop _ rfl))
where
  sub_frR {g h h' : Heap} {L : Addr} {m : Str → Option Value} (F : Fr g L h m) (S : ∀ b o, h.get? b = some o → h'.get? b = some o) : Fr g L h' m :=
    ⟨F.ns.at fun o e => S _ _ e, fun b o e => S _ _ (F.keep b o e), F.above⟩
theorem rcomp_assign {elt iter : PySem.Expr} {ty y : Str} {tp py spos : Pos} {scope : Scope} {cl : List (Str × Addr)} {pos : Pos} {m : Str → Option Value} {Q : Flow → Shared → Prop}
    (hsw : swapsWith (.ListComp elt [⟨.Name ty tp, iter, [], 0⟩] scope pos) (some (.Name y py)) spos.line env = pure true)
    (hclos : closureFor scope env = pure cl) (hcell : ∀ y ∈ scope.names, y.2 ≠ .cell) (hkind : scope.kind = .function)
    (hnames : ∀ y ∈ scope.names, y.2 = .local → scope.names.lookup y.1 = some .local)
    (hy : env.kindOf y = some .local) (hp : (env.scope.kind == .class || (env.scope.kind == .module && env.locals != env.globals)) = false)
    (h : wpAny (model prog w) A (eval iter env) (RSrcA prog w A env elt ty tp scope cl y m Q) E s)
    (hs : ∀ x, foldedSetIterable iter env x = pure x := by intro _; rfl) :
    wpAny (model prog w) A (exec (.Assign [.Name y py] (.ListComp elt [⟨.Name ty tp, iter, [], 0⟩] scope pos) spos) env) Q E s := by
  run_tac Mine.Sh.mark
  focus
    rw [exec_Assign_Name_used _ _ _ _ hsw]
    refine wpAny_bind (wpAny_standAt (wpAny_bind ?_))
    show wpAny _ A (do let _ ← comprehension (.ListComp elt [⟨.Name ty tp, iter, [], 0⟩] scope pos) scope env _ (newList []) false (eval iter env) (some (assign (.Name y py) env))) _ _ s
    refine wpAny_bind (wpAny_mono (wpAny_comprehension_free (use := some (assign (.Name y py) env)) (Q := fun _ s' => Q .next s') rfl hs hclos hkind hnames
      (wpAny_mono h (fun xv s₁ h₁ => ?_) fun _ _ e => e)) (fun _ s' hq => wpAny_pure (wpAny_pure hq)) fun _ _ e => e)
    obtain ⟨g, r, n, t, u, v, tl0, J, rfl, hh, Sg, hle, Bs, hr, hsm, hsz, J0, turn, hns0, fin⟩ := h₁
    have hL0 : ∃ o, g.get? env.locals = some o := let ⟨o, _, _, e, _⟩ := hns0; ⟨o, e⟩
    obtain ⟨oL, hL0⟩ := hL0
    have hL1 := Sg.stays _ _ hL0
    refine rcomp_block hcell hkind hh Sg hle Bs hr hsm hsz J0 turn fun D C h gn tk ys tl m' hJ hns S hD hC hDC gD hyl htl => ?_
    have hCL : C ≠ env.locals := fun q => by rw [q, hL1] at hC; cases hC
    have hDL : D ≠ env.locals := fun q => by rw [q, hL1] at hD; cases hD
    show wpAny _ A (assign (.Name y py) env (.ref D)) _ _ _
    refine wpAny_assign_Name (wpAny_storeName_local hy (hns0.at fun o e => S.stays _ _ e) (fun h₂ hn₂ hs₂ => ?_) hp)
    refine ⟨m', hns.sameBut hs₂ hCL, fun h'' hs'' => ?_⟩
    have kk : ∀ b o, b ≠ env.locals → b ≠ C → h.get? b = some o → h''.get? b = some o := fun b o n1 n2 e => hs''.extBut _ _ n2 (hs₂.extBut _ _ n1 e)
    refine fin D h'' gn _ ys tl hJ (fun b o n1 e => kk b o n1 (fun q => ?_) (S.stays _ _ e)) (hn₂.sameBut hs'' hCL.symm) hD (kk _ _ hDL hDC gD) hyl fun p hp' => ⟨kk _ _ (fun q => ?_) (htl p hp').2.2.2 (htl p hp').1, (htl p hp').2.1, (htl p hp').2.2.1⟩
    · subst q
      have := Sg.stays _ _ e
      rw [hC] at this; cases this
    · have := (htl p hp').2.1
      rw [q, hL0] at this; cases this
  run_tac Mine.Sh.fin
end
end

section -- L3
theorem led_app2 {g h' : Heap} {L : Addr} {o1 o2 o3 o4 o5 : Obj} {tb dl nw : List (Addr × Obj)} (N : News g L h' (led L o1 o2 o3 o4 o5 tb dl)) (hs : ∀ p ∈ nw, h'.get? p.1 = some p.2 ∧ p.1 ≠ L ∧ g.get? p.1 = none) : News g L h' (led L o1 o2 o3 o4 o5 tb (nw ++ dl)) := fun p hp => by
  by_cases hq : p ∈ nw
  · exact hs p hq
  · refine N p ?_
    unfold led at hp ⊢
    simp only [List.mem_cons, List.mem_append, hq, false_or] at hp ⊢
    exact hp
noncomputable def tabs3 : List (Addr × Obj) := [(57, tabObj #[]), (50, tabObj #[]), (146, tabObj #[])]
theorem tabs3_sub : ∀ p ∈ tabs3, p ∈ tabs := fun p hp => .tail _ (.tail _ hp)
noncomputable def TapeIn (dl : List (Addr × Obj)) (tp : Addr) (v : Int) : Prop :=
  ∃ (pl d : Addr) (fd : FuncData) (es : List DictEntry) (n : Nat) (t : Tok) (k : Nat), (tp, (⟨.type "function", some d, .func fd, #[]⟩ : Obj)) ∈ dl ∧ (d, dictOf es n) ∈ dl ∧ getL (Str.ofString "place") es = some (some (.ref pl)) ∧ (pl, listOf #[.int v t] k) ∈ dl
theorem RowsIn.mono {tl tl' : List (Addr × Obj)} {vs : List Value} {rs : List Rule} (h : RowsIn tl vs rs) (s : ∀ p ∈ tl, p ∈ tl') : RowsIn tl' vs rs :=
  ⟨h.1, fun i v r e1 e2 => (h.2 i v r e1 e2).imp fun _ h => h.imp fun _ h => h.imp fun _ h => ⟨h.1, s _ h.2⟩⟩
noncomputable def rowD (r : Rule) : Dat := .tuple [.int r.b, .str ⟨#[r.h.toNat, r.l.toNat]⟩]
theorem rows_dat {tl : List (Addr × Obj)} : ∀ {vs : List Value} {rs : List Rule}, RowsIn tl vs rs → DatAll tl vs (rs.map rowD)
  | [], [], _ => .nil
  | [], _ :: _, h => by cases h.1
  | _ :: _, [], h => by cases h.1
  | v :: vs, r :: rs, h => by
    obtain ⟨a, t1, t2, rfl, m⟩ := h.2 0 v r rfl rfl
    exact .cons (.tuple m (.cons (.int _ _) (.cons (.str _ _) .nil))) (rows_dat ⟨Nat.succ.inj h.1, fun i v r e1 e2 => h.2 (i + 1) v r e1 e2⟩)
theorem rowD_ok {rs : List Rule} (ok : ∀ r ∈ rs, r.ok) : ∀ d ∈ rs.map rowD, kqdOk 8 d = true := fun d hd => by
  obtain ⟨r, hr, rfl⟩ := List.mem_map.mp hd
  obtain ⟨b0, b1, h0, h1, l0, l1⟩ := ok r hr
  unfold rowD
  simp only [kqdOk, List.all_cons, List.all_nil, Bool.and_true, Bool.true_and]
  unfold PyData.strOk
  rw [Array.all_eq_true]
  intro i hi
  rw [decide_eq_true_eq]
  match i, hi with
  | 0, _ => show r.h.toNat < 1114112; omega
  | 1, _ => show r.l.toNat < 1114112; omega
theorem swap3 {a b x : Addr × Obj} {l : List (Addr × Obj)} : ∀ p ∈ a :: b :: x :: l, p ∈ x :: a :: b :: l := fun p hp => by
  simp only [List.mem_cons] at hp ⊢
  rcases hp with h | h | h | h
  · exact .inr (.inl h)
  · exact .inr (.inr (.inl h))
  · exact .inl h
  · exact .inr (.inr (.inr h))
theorem law_one {M : Model} {A : Around} {st : Stmt} {rest : List Stmt} {env : Env} {Q : Flow → Shared → Prop} {E : Value → Shared → Prop} {s : Shared} {Nx : Shared → Prop} (hn : ∀ s', Nx s' → wpAny M A (execs rest env) Q E s')
    (h : wpAny M A (exec st env) (fun f s' => match f with | .next => Nx s' | f => Q f s') E s) : wpAny M A (execs (st :: rest) env) Q E s :=
  wpAny_execs_cons (wpAny_mono h (fun f s' h' => by cases f <;> first | exact hn s' h' | exact h') fun _ _ e => e)
noncomputable def tabsP (ps : Array Value) : List (Addr × Obj) := [(57, tabObj #[]), (50, tabObj #[]), (146, tabObj ps)]
theorem tabsP_nil : tabs3 = tabsP #[] := rfl
theorem dl_tabsP {L : Addr} {ps : Array Value} {dl : List (Addr × Obj)} (d : Dl L tabs3 dl) : Dl L (tabsP ps) dl := d
noncomputable def numR (r : Rule) : Int := 256 * r.h + r.l
noncomputable def headR (r : Rule) : Int := numR r - Int.fmod (numR r) (2 ^ (16 - r.b).toNat)
noncomputable def headsL (rs : List Rule) : List (Int × Int) := rs.map fun r => (headR r, r.b)
theorem dl_lt3 {L D : Addr} {o : Obj} (h : @LT.lt Nat _ (L + 1 + 1 + 1 + 1 + 1) D ∧ @LT.lt Nat _ (L + 1 + 1 + 1 + 1) D ∧ @LT.lt Nat _ (L + 1 + 1 + 1) D ∧ @LT.lt Nat _ (L + 1 + 1) D ∧ @LT.lt Nat _ (L + 1) D) (h2 : @LT.lt Nat _ 57 D ∧ @LT.lt Nat _ 50 D ∧ @LT.lt Nat _ 146 D) : Dl L tabs3 [(D, o)] := fun p hp c hc => by
  obtain rfl := List.mem_singleton.mp hp
  unfold offL tabs3 at hc
  simp only [List.map_cons, List.map_nil, List.cons_append, List.nil_append, List.mem_cons, List.not_mem_nil, or_false] at hc
  obtain ⟨h1, h2', h3, h4, h5⟩ := h
  obtain ⟨h6, h7, h8⟩ := h2
  rcases hc with rfl | rfl | rfl | rfl | rfl | rfl | rfl | rfl
  · exact Nat.ne_of_gt h1
  · exact Nat.ne_of_gt h2'
  · exact Nat.ne_of_gt h3
  · exact Nat.ne_of_gt h4
  · exact Nat.ne_of_gt h5
  · exact Nat.ne_of_gt h6
  · exact Nat.ne_of_gt h7
  · exact Nat.ne_of_gt h8
theorem dl_join {L : Addr} {tb a b : List (Addr × Obj)} (ha : Dl L tb a) (hb : Dl L tb b) : Dl L tb (a ++ b) := fun p hp => by
  rcases List.mem_append.mp hp with hp | hp
  · exact ha p hp
  · exact hb p hp
theorem dl_nil' {L : Addr} {tb : List (Addr × Obj)} : Dl L tb [] := fun _ h => nomatch h
noncomputable def LamIn (tl : List (Addr × Obj)) (a b : Int) (ps : Array Value) (qual : Str) : Prop := ∃ (c' : Addr) (oc : Obj) (vs : Array Value) (t : Tok), ps = #[rawInt a, rawInt b, .ref c'] ∧ (c', oc) ∈ tl ∧ oc.data = .fields vs ∧ vs[1]? = some (.str qual t)
theorem law_two {M : Model} {A : Around} {st st2 : Stmt} {rest : List Stmt} {env : Env} {Q : Flow → Shared → Prop} {E : Value → Shared → Prop} {s : Shared} {Nx : Shared → Prop} (hn : ∀ s', Nx s' → wpAny M A (execs rest env) Q E s')
    (h : wpAny M A (exec st env) (fun f s' => match f with | .next => wpAny M A (exec st2 env) (fun f s' => match f with | .next => Nx s' | f => Q f s') E s' | f => Q f s') E s) : wpAny M A (execs (st :: st2 :: rest) env) Q E s :=
  law_one (Nx := fun s' => wpAny M A (exec st2 env) (fun f s' => match f with | .next => Nx s' | f => Q f s') E s') (fun s' h' => law_one hn h') h
theorem led_tab {g h : Heap} {L : Addr} {o1 o2 o3 o4 o5 : Obj} {a q : Addr × Obj} {tb dl : List (Addr × Obj)} (e : h.get? q.1 = some q.2 ∧ q.1 ≠ L ∧ g.get? q.1 = none) (N : News g L h (led L o1 o2 o3 o4 o5 (a :: tb) dl)) : News g L h (led L o1 o2 o3 o4 o5 (a :: q :: tb) dl) := fun p hp => by
  by_cases hq : p = q
  · rw [hq]; exact e
  · refine N p ?_
    unfold led at hp ⊢
    simp only [List.cons_append, List.mem_cons, hq, false_or] at hp ⊢
    exact hp
theorem tab_off {L b : Addr} (hb : @LT.lt Nat _ b L) (h : @Ne Nat b 57 ∧ @Ne Nat b 50 ∧ @Ne Nat b 146) : ∀ c ∈ offL L tabs3, b ≠ c := fun c hc q => by
  unfold offL tabs3 at hc
  simp only [List.map_cons, List.map_nil, List.cons_append, List.nil_append, List.mem_cons, List.not_mem_nil, or_false] at hc
  obtain ⟨h1, h2, h3⟩ := h
  subst q
  rcases hc with q | q | q | q | q | q | q | q
  · exact absurd q (show ¬ @Eq Nat b (L + 1 + 1 + 1 + 1 + 1) by omega)
  · exact absurd q (show ¬ @Eq Nat b (L + 1 + 1 + 1 + 1) by omega)
  · exact absurd q (show ¬ @Eq Nat b (L + 1 + 1 + 1) by omega)
  · exact absurd q (show ¬ @Eq Nat b (L + 1 + 1) by omega)
  · exact absurd q (show ¬ @Eq Nat b (L + 1) by omega)
  · exact absurd q h1
  · exact absurd q h2
  · exact absurd q h3
end

section -- L4
theorem updF_of {d : Addr} {o : Obj} : ∀ {pre : List (Addr × Obj)} {post : List (Addr × Obj)}, (∀ p ∈ pre, p.1 ≠ d) → (∀ p ∈ post, p.1 ≠ d) → UpdF d o (pre ++ (d, o) :: post) (fun o' => pre ++ (d, o') :: post)
  | [], post, _, h2 => .head h2
  | p :: pre, post, h1, h2 => .tail (h1 p (.head _)) (updF_of (fun q hq => h1 q (.tail _ hq)) h2)
theorem lam_mem {I D c' L : Addr} {oI oD oc o1 o2 o3 o4 o5 : Obj} {ps : Array Value} {tl dl : List (Addr × Obj)} : ∀ p ∈ (I, oI) :: (D, oD) :: led L o1 o2 o3 o4 o5 (tabsP ps) (((c', oc) :: tl) ++ dl), p ∈ (c', oc) :: (I, oI) :: (D, oD) :: led L o1 o2 o3 o4 o5 (tabsP ps) (tl ++ dl) := fun p hp => by
  simp only [led, tabsP, List.cons_append, List.nil_append, List.mem_cons, List.mem_append] at hp ⊢
  rcases hp with h | h | h | h | h | h | h | h | h | h | h | h
  · exact .inr (.inl h)
  · exact .inr (.inr (.inl h))
  · exact .inr (.inr (.inr (.inl h)))
  · exact .inr (.inr (.inr (.inr (.inl h))))
  · exact .inr (.inr (.inr (.inr (.inr (.inl h)))))
  · exact .inr (.inr (.inr (.inr (.inr (.inr (.inl h))))))
  · exact .inr (.inr (.inr (.inr (.inr (.inr (.inr (.inl h)))))))
  · exact .inr (.inr (.inr (.inr (.inr (.inr (.inr (.inr (.inl h))))))))
  · exact .inr (.inr (.inr (.inr (.inr (.inr (.inr (.inr (.inr (.inl h)))))))))
  · exact .inr (.inr (.inr (.inr (.inr (.inr (.inr (.inr (.inr (.inr (.inl h))))))))))
  · exact .inl h
  · exact .inr (.inr (.inr (.inr (.inr (.inr (.inr (.inr (.inr (.inr (.inr h))))))))))
theorem lam_law {M : Model} {A : Around} {E : Value → Shared → Prop} {loose : List Str} {mean : ExcName → Option Value} {mg mb : Str → Option Value} {g hh : Heap} {L a : Addr} {m : Str → Option Value} {tk : Nat} {gn : Array GenState} {dr : Drawn} {os : OsState} {I D : Addr} {oI oD o1 o2 o3 o4 o5 : Obj} {tl dl : List (Addr × Obj)}
    {params : Arguments} {body : PySem.Expr} {scope : Scope} {pos : Pos} {firstLine : Nat} {clos : List (Str × Addr)} {ps : Array Value} {name qual : Str} {x y : Int} {Q : Value → Shared → Prop}
    (F : Fr g L hh m) (N : News g L hh ((I, oI) :: (D, oD) :: led L o1 o2 o3 o4 o5 (tabsP ps) (tl ++ dl))) (T : Top topProg loose mean mg mb g) (C5 : CodeHd g 148 146) (od : Dl L tabs3 dl) (oT : Dl L tabs3 tl) (ne : ∀ p ∈ tl, p.1 ≠ I ∧ p.1 ≠ D) (lt : @LT.lt Nat _ 146 L) (nI : @Ne Nat I 146) (nD : @Ne Nat D 146)
    (hx : (pos.line : Int) = x) (hy : (pos.col : Int) = y) (hps : ps = #[] ∨ LamIn tl x y ps qual) (hcl : closureFor scope (lawEnv L a) = pure clos)
    (h : ∀ (f c' : Addr) (oc : Obj) (vs : Array Value) (t : Tok) (ctv : Value) (h' : Heap) (tk' : Nat) (tl' : List (Addr × Obj)), Fr g L h' m → News g L h' ((f, kla_obj name qual params body scope clos ((mg "__name__").getD .none) c' ctv) :: (I, oI) :: (D, oD) :: led L o1 o2 o3 o4 o5 (tabsP #[rawInt x, rawInt y, .ref c']) (tl' ++ dl)) →
       (∀ p ∈ tl, p ∈ tl') → (c', oc) ∈ tl' → oc.data = .fields vs → vs[1]? = some (.str qual t) → Dl L tabs3 tl' → (∀ p ∈ tl', p.1 ≠ I ∧ p.1 ≠ D) → Q (.ref f) ⟨h', gn, dr, tk', os⟩) :
    wpAny M A (makeFunction name qual params (.expr body) scope (lawEnv L a) [] [] [] pos firstLine) Q E ⟨hh, gn, dr, tk, os⟩ := by
  run_tac Mine.Sh.mark
  focus
    subst hx hy
    rcases hps with rfl | ⟨c', oc, vs, t, rfl, hm, hd, hv⟩
    · have u1 : ∀ p ∈ (I, oI) :: (D, oD) :: (L + 1 + 1 + 1 + 1 + 1, o5) :: (L + 1 + 1 + 1 + 1, o4) :: (L + 1 + 1 + 1, o3) :: (L + 1 + 1, o2) :: (L + 1, o1) :: ((57 : Addr), tabObj #[]) :: ((50 : Addr), tabObj #[]) :: [], p.1 ≠ (146 : Addr) := fun p hp => by
        simp only [List.mem_cons, List.not_mem_nil, or_false] at hp
        rcases hp with rfl | rfl | rfl | rfl | rfl | rfl | rfl | rfl | rfl
        · exact nI
        · exact nD
        · exact (show ¬ @Eq Nat (L + 1 + 1 + 1 + 1 + 1) 146 by omega)
        · exact (show ¬ @Eq Nat (L + 1 + 1 + 1 + 1) 146 by omega)
        · exact (show ¬ @Eq Nat (L + 1 + 1 + 1) 146 by omega)
        · exact (show ¬ @Eq Nat (L + 1 + 1) 146 by omega)
        · exact (show ¬ @Eq Nat (L + 1) 146 by omega)
        · exact (show ¬ @Eq Nat 57 146 by decide)
        · exact (show ¬ @Eq Nat 50 146 by decide)
      have u2 : ∀ p ∈ tl ++ dl, p.1 ≠ (146 : Addr) := fun p hp => by
        rcases List.mem_append.mp hp with hp | hp
        · exact dl_c oT (by unfold offL tabs3; exact List.mem_append_right _ (.tail _ (.tail _ (.head _)))) p hp
        · exact dl_c od (by unfold offL tabs3; exact List.mem_append_right _ (.tail _ (.tail _ (.head _)))) p hp
      have U := updF_of (o := tabObj #[]) u1 u2
      refine kla_nest (s := ⟨hh, gn, dr, tk, os⟩) (P := 146) (c := 148) (ps := #[]) F N T C5 rfl U (True.intro : TriplesOk ([] : List Value)) rfl hcl fun f c' oc vs t ctv h' tk' F' N' hd hv l1 l2 => ?_
      have lq : ∀ q ∈ (I, oI) :: (D, oD) :: led L o1 o2 o3 o4 o5 (tabsP #[]) (tl ++ dl), @LT.lt Nat _ q.1 c' := l1
      refine h f c' oc vs t ctv h' tk' ((c', oc) :: tl) F' (sub_news N' fun p hp => ?_) (fun p hp => .tail _ hp) (.head _) hd hv (fun p hp => ?_) fun p hp => ?_
      · rcases List.mem_cons.mp hp with rfl | hp
        · exact .head _
        · exact .tail _ (lam_mem p hp)
      · rcases List.mem_cons.mp hp with rfl | hp
        · intro c hc q
          subst q
          obtain ⟨o', hm⟩ := offL_in (L := L) (o1 := o1) (o2 := o2) (o3 := o3) (o4 := o4) (o5 := o5) (tb := tabsP #[]) (dl := tl ++ dl) _ hc
          exact absurd (lq _ (.tail _ (.tail _ hm))) (Nat.lt_irrefl _)
        · exact oT p hp
      · rcases List.mem_cons.mp hp with rfl | hp
        · exact ⟨Nat.ne_of_gt (lq _ (.head _)), Nat.ne_of_gt (lq _ (.tail _ (.head _)))⟩
        · exact ne p hp
    · refine kla_hit (s := ⟨hh, gn, dr, tk, os⟩) (P := 146) (c := 148) (c' := c') (ps := #[rawInt pos.line, rawInt pos.col, .ref c']) F N T C5 rfl ?hmem (by simp [TriplesOk, rawInt]) (by simp [codeAmong, rawInt]) hcl fun f ctv h' tk' F' N' l1 => ?_
      · unfold led tabsP
        exact .tail _ (.tail _ (.tail _ (.tail _ (.tail _ (.tail _ (.tail _ (.tail _ (.tail _ (.head _)))))))))
      · exact h f c' oc vs t ctv h' tk' tl F' N' (fun p hp => hp) hm hd hv oT ne
  run_tac Mine.Sh.fin
theorem HeldIn.mono {tl tl' : List (Addr × Obj)} {vs : List Value} {ps : List (Int × Int)} (h : HeldIn tl vs ps) (s : ∀ p ∈ tl, p ∈ tl') : HeldIn tl' vs ps :=
  ⟨h.1, fun i p e => (h.2 i p e).imp fun _ h => h.imp fun _ h => h.imp fun _ h => ⟨h.1, s _ h.2⟩⟩
theorem held_snoc {tl : List (Addr × Obj)} {vs : List Value} {ps : List (Int × Int)} {a : Addr} {x y : Int} {t1 t2 : Tok} (h : HeldIn tl vs ps) : HeldIn ((a, tupO [.int x t1, .int y t2]) :: tl) (vs ++ [.ref a]) (ps ++ [(x, y)]) := by
  run_tac Mine.Sh.mark
  focus
    refine ⟨by rw [List.length_append, List.length_append, h.1, List.length_singleton, List.length_singleton], fun i p e => ?_⟩
    rcases Nat.lt_trichotomy i ps.length with hi | hi | hi
    · rw [List.getElem?_append_left hi] at e
      obtain ⟨b, u1, u2, e2, hm⟩ := h.2 i p e
      exact ⟨b, u1, u2, by rw [List.getElem?_append_left (by rw [h.1]; exact hi)]; exact e2, .tail _ hm⟩
    · subst hi
      rw [List.getElem?_append_right (Nat.le_refl _), Nat.sub_self] at e
      cases e
      exact ⟨_, t1, t2, by rw [← h.1, List.getElem?_append_right (Nat.le_refl _), Nat.sub_self]; rfl, .head _⟩
    · rw [List.getElem?_eq_none (by rw [List.length_append, List.length_singleton]; omega)] at e; cases e
  run_tac Mine.Sh.fin
theorem led_ne {L I : Addr} {o1 o2 o3 o4 o5 : Obj} {ps : Array Value} {dl : List (Addr × Obj)} (h : ∀ c ∈ offL L tabs3, @Ne Nat c I) (hd : ∀ p ∈ dl, p.1 ≠ I) : ∀ p ∈ led L o1 o2 o3 o4 o5 (tabsP ps) dl, p.1 ≠ I := fun p hp => by
  simp only [led, tabsP, List.cons_append, List.nil_append, List.mem_cons] at hp
  unfold offL tabs3 at h
  rcases hp with rfl | rfl | rfl | rfl | rfl | rfl | rfl | rfl | hp
  · exact h _ (.head _)
  · exact h _ (.tail _ (.head _))
  · exact h _ (.tail _ (.tail _ (.head _)))
  · exact h _ (.tail _ (.tail _ (.tail _ (.head _))))
  · exact h _ (.tail _ (.tail _ (.tail _ (.tail _ (.head _)))))
  · exact h _ (.tail _ (.tail _ (.tail _ (.tail _ (.tail _ (.head _))))))
  · exact h _ (.tail _ (.tail _ (.tail _ (.tail _ (.tail _ (.tail _ (.head _)))))))
  · exact h _ (.tail _ (.tail _ (.tail _ (.tail _ (.tail _ (.tail _ (.tail _ (.head _))))))))
  · exact hd p hp
theorem heads_at {rs : List Rule} {j : Nat} {r : Rule} (h : rs[j]? = some r) : (headsL rs)[j]? = some (headR r, r.b) := by
  unfold headsL; rw [List.getElem?_map, h]; rfl
noncomputable def tabsQ (ps : Array Value) : List (Addr × Obj) := [(50, tabObj #[]), (146, tabObj ps)]
theorem tabsQ_sub {L : Addr} {ps : Array Value} {dl : List (Addr × Obj)} (d : Dl L tabs3 dl) : Dl L (tabsQ ps) dl := fun p hp c hc => d p hp c (by
  unfold offL tabsQ at hc
  unfold offL tabs3
  rcases List.mem_append.mp hc with hc | hc
  · exact List.mem_append_left _ hc
  · exact List.mem_append_right _ (.tail _ hc))
theorem tabsQ_less {ps : Array Value} : ∀ p ∈ tabsQ ps, p ∈ tabsP ps ∧ p.1 ∉ [(57 : Addr)] := fun p hp => by
  unfold tabsQ at hp
  refine ⟨.tail _ hp, ?_⟩
  simp only [List.mem_cons, List.not_mem_nil, or_false] at hp
  rcases hp with rfl | rfl
  · exact fun hm => absurd (List.mem_singleton.mp hm) (show ¬ @Eq Nat 50 57 by decide)
  · exact fun hm => absurd (List.mem_singleton.mp hm) (show ¬ @Eq Nat 146 57 by decide)
theorem ord_vals {ps : List Value} {n : Nat} {l : List Nat} (hp : IntsAre ps ((List.range n).map fun (i : Nat) => (i : Int))) (hl : ∀ i ∈ l, i < n) : IntsAre (l.map fun i => ps.getD i Value.none) (l.map fun (i : Nat) => (i : Int)) := by
  run_tac Mine.Sh.mark
  focus
    induction l with
    | nil => exact .nil
    | cons i l ih =>
      have hi := hl i (.head _)
      obtain ⟨t, e⟩ := ints_at hp (i := i) (k := (i : Int)) (by rw [List.getElem?_map, List.getElem?_range hi]; rfl)
      rw [List.map_cons, List.map_cons, List.getD_eq_getElem?_getD, e]
      exact .cons _ _ (ih fun j hj => hl j (.tail _ hj))
  run_tac Mine.Sh.fin
theorem range_item {n i : Nat} {x : Int} (h : ((List.range n).map fun (i : Nat) => (i : Int))[i]? = some x) : i < n ∧ x = (i : Int) := by
  run_tac Mine.Sh.mark
  focus
    rw [List.getElem?_map] at h
    obtain ⟨j, e, rfl⟩ := Option.map_eq_some_iff.mp h
    obtain ⟨h1, h2⟩ := List.getElem?_eq_some_iff.mp e
    rw [List.length_range] at h1
    rw [List.getElem_range] at h2
    exact ⟨h1, by rw [h2]⟩
  run_tac Mine.Sh.fin
theorem pair_lt {a b c d : Int} (b0 : 0 ≤ b) (b1 : b < 32) (d0 : 0 ≤ d) (d1 : d < 32) : (if a = c then (if b = d then false else decide (b < d)) else decide (a < c)) = decide (32 * a + b < 32 * c + d) := by
  run_tac Mine.Sh.mark
  focus
    by_cases h : a = c
    · rw [if_pos h]
      by_cases h2 : b = d
      · rw [if_pos h2]; exact (decide_eq_false (by omega)).symm
      · rw [if_neg h2]; exact decide_eq_decide.mpr (by omega)
    · rw [if_neg h]; exact decide_eq_decide.mpr (by omega)
  run_tac Mine.Sh.fin
theorem pair_gt {a b c d : Int} (b0 : 0 ≤ b) (b1 : b < 32) (d0 : 0 ≤ d) (d1 : d < 32) : (if a = c then (if b = d then false else decide (b > d)) else decide (a > c)) = decide (32 * c + d < 32 * a + b) := by
  run_tac Mine.Sh.mark
  focus
    by_cases h : a = c
    · rw [if_pos h]
      by_cases h2 : b = d
      · rw [if_pos h2]; exact (decide_eq_false (by omega)).symm
      · rw [if_neg h2]; exact decide_eq_decide.mpr (by omega)
    · rw [if_neg h]; exact decide_eq_decide.mpr (by omega)
  run_tac Mine.Sh.fin
theorem rk_at {rs : List Rule} {i : Nat} {r : Rule} (h : rs[i]? = some r) : rkP (headsL rs) i = 32 * headR r + r.b := by
  run_tac Mine.Sh.mark
  focus
    unfold rkP
    rw [List.getD_eq_getElem?_getD, heads_at h]
    rfl
  run_tac Mine.Sh.fin
theorem ints_in {vs : List Value} {ns : List Int} (h : IntsAre vs ns) : ∀ x ∈ vs, handedIn x = true := by
  run_tac Mine.Sh.mark
  focus
    induction h with
    | nil => exact fun _ h => nomatch h
    | cons n t _ ih =>
      intro x hx
      rcases List.mem_cons.mp hx with rfl | hx
      · rfl
      · exact ih x hx
  run_tac Mine.Sh.fin
theorem b2i_lt {x y : Int} : b2i (decide (y < x)) - b2i (decide (x < y)) < 0 ↔ x < y := by
  run_tac Mine.Sh.mark
  focus
    by_cases h : x < y
    · rw [decide_eq_true h, decide_eq_false (show ¬ y < x by omega)]
      exact ⟨fun _ => h, fun _ => by decide⟩
    · rw [decide_eq_false h]
      refine ⟨fun q => ?_, fun q => absurd q h⟩
      cases hd : decide (y < x) <;> rw [hd] at q <;> exact absurd q (by decide)
  run_tac Mine.Sh.fin
theorem tab_offQ {L b : Addr} (hb : @LT.lt Nat _ b L) (h : @Ne Nat b 50 ∧ @Ne Nat b 146) : ∀ c ∈ offL L (tabsQ #[]), b ≠ c := fun c hc q => by
  unfold offL tabsQ at hc
  simp only [List.map_cons, List.map_nil, List.cons_append, List.nil_append, List.mem_cons, List.not_mem_nil, or_false] at hc
  obtain ⟨h2, h3⟩ := h
  subst q
  rcases hc with q | q | q | q | q | q | q
  · exact absurd q (show ¬ @Eq Nat b (L + 1 + 1 + 1 + 1 + 1) by omega)
  · exact absurd q (show ¬ @Eq Nat b (L + 1 + 1 + 1 + 1) by omega)
  · exact absurd q (show ¬ @Eq Nat b (L + 1 + 1 + 1) by omega)
  · exact absurd q (show ¬ @Eq Nat b (L + 1 + 1) by omega)
  · exact absurd q (show ¬ @Eq Nat b (L + 1) by omega)
  · exact absurd q h2
  · exact absurd q h3
end

section -- L5
noncomputable def CodeRow (tl : List (Addr × Obj)) (v : Value) (p : List (Int × Int) × List (Int × Int)) : Prop :=
  ∃ (a a1 a2 : Addr) (vs1 vs2 : List Value) (k k1 k2 : Nat), v = .ref a ∧ (a, listOf [.ref a1, .ref a2].toArray k) ∈ tl ∧ (a1, listOf vs1.toArray k1) ∈ tl ∧ (a2, listOf vs2.toArray k2) ∈ tl ∧ PairVals tl vs1 p.1 ∧ PairVals tl vs2 p.2
noncomputable def HitRule (r : Rule) (p : List (Int × Int) × List (Int × Int)) : Prop :=
  p.1.length ≤ 2 ∧ p.2.length ≤ 2 ∧ ∀ t u : Int, 0 ≤ t → t ≤ 255 → 0 ≤ u → u ≤ 255 → ((Hit p.1 t ∧ Hit p.2 u) ↔ (256 * t + u) / 2 ^ (16 - r.b).toNat = (256 * r.h + r.l) / 2 ^ (16 - r.b).toNat)
theorem codesOk_len {P : Str} {ps : List (Int × Int)} (h : CodesOk P ps) : ps.length ≤ 2 := by
  cases h <;> exact Nat.le_of_ble_eq_true rfl
structure CodesIn (tl : List (Addr × Obj)) (ys : List Value) (rs : List Rule) (pss : List (List (Int × Int) × List (Int × Int))) : Prop where
  len : ys.length = pss.length
  row : ∀ (k : Nat) (p : List (Int × Int) × List (Int × Int)), pss[k]? = some p → ∃ v, ys[k]? = some v ∧ CodeRow tl v p
  hit : ∀ (k : Nat) (p : List (Int × Int) × List (Int × Int)) (r : Rule), pss[k]? = some p → rs[k]? = some r → HitRule r p
theorem PairVals.mono' {tl tl' : List (Addr × Obj)} {vs : List Value} {ps : List (Int × Int)} (h : PairVals tl vs ps) (s : ∀ p ∈ tl, p ∈ tl') : PairVals tl' vs ps := by
  run_tac Mine.Sh.mark
  focus
    induction h with
    | nil => exact .nil
    | cons hm _ ih => exact .cons (s _ hm) ih
  run_tac Mine.Sh.fin
theorem CodeRow.mono {tl tl' : List (Addr × Obj)} {v : Value} {p : List (Int × Int) × List (Int × Int)} (h : CodeRow tl v p) (s : ∀ p ∈ tl, p ∈ tl') : CodeRow tl' v p :=
  h.imp fun _ h => h.imp fun _ h => h.imp fun _ h => h.imp fun _ h => h.imp fun _ h => h.imp fun _ h => h.imp fun _ h => h.imp fun _ h => ⟨h.1, s _ h.2.1, s _ h.2.2.1, s _ h.2.2.2.1, h.2.2.2.2.1.mono' s, h.2.2.2.2.2.mono' s⟩
theorem CodesIn.mono {tl tl' : List (Addr × Obj)} {ys : List Value} {rs : List Rule} {pss : List (List (Int × Int) × List (Int × Int))} (h : CodesIn tl ys rs pss) (s : ∀ p ∈ tl, p ∈ tl') : CodesIn tl' ys rs pss :=
  ⟨h.len, fun k p e => (h.row k p e).imp fun _ h => ⟨h.1, h.2.mono s⟩, h.hit⟩
theorem codes_snoc {tl : List (Addr × Obj)} {ys : List Value} {rs : List Rule} {pss : List (List (Int × Int) × List (Int × Int))} {v : Value} {p : List (Int × Int) × List (Int × Int)} {r : Rule} (h : CodesIn tl ys rs pss) (hr : rs[pss.length]? = some r) (hc : CodeRow tl v p) (hh : HitRule r p) : CodesIn tl (ys ++ [v]) rs (pss ++ [p]) := by
  run_tac Mine.Sh.mark
  focus
    refine ⟨by rw [List.length_append, List.length_append, h.len, List.length_singleton, List.length_singleton], fun k q e => ?_, fun k q r' e er => ?_⟩
    · rcases Nat.lt_trichotomy k pss.length with hi | hi | hi
      · rw [List.getElem?_append_left hi] at e
        obtain ⟨v', e1, c⟩ := h.row k q e
        exact ⟨v', by rw [List.getElem?_append_left (by rw [h.len]; exact hi)]; exact e1, c⟩
      · subst hi
        rw [List.getElem?_append_right (Nat.le_refl _), Nat.sub_self] at e
        cases e
        exact ⟨v, by rw [← h.len, List.getElem?_append_right (Nat.le_refl _), Nat.sub_self]; rfl, hc⟩
      · rw [List.getElem?_eq_none (by rw [List.length_append, List.length_singleton]; omega)] at e; cases e
    · rcases Nat.lt_trichotomy k pss.length with hi | hi | hi
      · rw [List.getElem?_append_left hi] at e
        exact h.hit k q r' e er
      · subst hi
        rw [List.getElem?_append_right (Nat.le_refl _), Nat.sub_self] at e
        cases e
        rw [hr] at er; cases er
        exact hh
      · rw [List.getElem?_eq_none (by rw [List.length_append, List.length_singleton]; omega)] at e; cases e
  run_tac Mine.Sh.fin
structure LamT (hB : Heap) (tl : List (Addr × Obj)) (ps : Array Value) : Prop where
  ok : TriplesOk ps.toList
  code : ∀ cv, codeAmong posL ps.toList = some cv → ∃ (c' : Addr) (oc : Obj) (vs : Array Value) (t : Tok), cv = .ref c' ∧ ((c', oc) ∈ tl ∨ hB.get? c' = some oc) ∧ oc.data = .fields vs ∧ vs[1]? = some (.str qualL t)
noncomputable def PartsIn (tl : List (Addr × Obj)) (ys : List Value) (pp : List (List (Int × Int))) : Prop := ys.length = pp.length ∧ ∀ (j : Nat) (p : List (Int × Int)), pp[j]? = some p → ∃ v, ys[j]? = some v ∧ PairsIn tl v p
theorem PairsIn.mono' {tl tl' : List (Addr × Obj)} {v : Value} {ps : List (Int × Int)} (h : PairsIn tl v ps) (s : ∀ p ∈ tl, p ∈ tl') : PairsIn tl' v ps :=
  h.imp fun _ h => h.imp fun _ h => h.imp fun _ h => ⟨h.1, s _ h.2.1, h.2.2.mono' s⟩
theorem parts_snoc {tl nw : List (Addr × Obj)} {ys : List Value} {pp : List (List (Int × Int))} {v : Value} {p : List (Int × Int)} (h : PartsIn tl ys pp) (hv : PairsIn nw v p) : PartsIn (nw ++ tl) (ys ++ [v]) (pp ++ [p]) := by
  run_tac Mine.Sh.mark
  focus
    refine ⟨by rw [List.length_append, List.length_append, h.1, List.length_singleton, List.length_singleton], fun k q e => ?_⟩
    rcases Nat.lt_trichotomy k pp.length with hi | hi | hi
    · rw [List.getElem?_append_left hi] at e
      obtain ⟨v', e1, c⟩ := h.2 k q e
      exact ⟨v', by rw [List.getElem?_append_left (by rw [h.1]; exact hi)]; exact e1, c.mono' fun p hp => List.mem_append_right _ hp⟩
    · subst hi
      rw [List.getElem?_append_right (Nat.le_refl _), Nat.sub_self] at e
      cases e
      exact ⟨v, by rw [← h.1, List.getElem?_append_right (Nat.le_refl _), Nat.sub_self]; rfl, hv.mono' fun p hp => List.mem_append_left _ hp⟩
    · rw [List.getElem?_eq_none (by rw [List.length_append, List.length_singleton]; omega)] at e; cases e
  run_tac Mine.Sh.fin
theorem code_new {hB h : Heap} {C J D' l : Addr} {oJ : Obj} {m : Str → Option Value} {ys : List Value} {rest : List (Addr × Obj)} {pt : Array Value} {i : Nat} (F : Fr hB C h m) (eJ : h.get? J = some oJ) (hJ : LIt oJ l i) (eD : h.get? D' = some (LCg.lst ys)) (e50 : h.get? 50 = some (tabObj pt)) (ht : TriplesOk pt.toList) (hc : ∀ cv, codeAmong posL pt.toList = some cv → h.CodeRec cv qualL) :
    ∃ cn : List (Addr × Obj), LamT hB (cn ++ rest) pt ∧ ∀ p ∈ cn, h.get? p.1 = some p.2 ∧ p.1 ≠ C ∧ hB.get? p.1 = none ∧ p.1 ≠ J ∧ p.1 ≠ D' ∧ p.1 ≠ (50 : Addr) := by
  run_tac Mine.Sh.mark
  focus
    cases hq : codeAmong posL pt.toList with
    | none => exact ⟨[], ⟨ht, fun cv e => by rw [hq] at e; cases e⟩, fun _ h => nomatch h⟩
    | some cv =>
      obtain ⟨c', oc, vs, t, rfl, e, hd, hv⟩ := hc cv hq
      cases hb : hB.get? c' with
      | some o' =>
        have e2 := F.keep _ _ hb
        rw [e] at e2
        cases e2
        exact ⟨[], ⟨ht, fun cv e => by rw [hq] at e; cases e; exact ⟨c', oc, vs, t, rfl, .inr hb, hd, hv⟩⟩, fun _ h => nomatch h⟩
      | none =>
        refine ⟨[(c', oc)], ⟨ht, fun cv e => by rw [hq] at e; cases e; exact ⟨c', oc, vs, t, rfl, .inl (.head _), hd, hv⟩⟩, fun p hp => ?_⟩
        cases List.mem_singleton.mp hp
        refine ⟨e, fun q => ?_, hb, fun q => ?_, fun q => ?_, fun q => ?_⟩
        · obtain ⟨o, es, _, eC, hdC, _⟩ := F.ns
          have q : c' = C := q
          subst q
          rw [e] at eC; cases eC
          rw [hd] at hdC; cases hdC
        · have q : c' = J := q
          subst q
          rw [e] at eJ; cases eJ
          rw [hJ.data] at hd; cases hd
          cases hv
        · have q : c' = D' := q
          subst q
          rw [e] at eD; cases eD
          cases hd
        · have q : c' = (50 : Addr) := q
          subst q
          rw [e] at e50; cases e50
          cases hd
          exact triples_ne ht hv
  run_tac Mine.Sh.fin
theorem LamT.mono {hB : Heap} {tl tl' : List (Addr × Obj)} {ps : Array Value} (h : LamT hB tl ps) (s : ∀ p ∈ tl, p ∈ tl') : LamT hB tl' ps :=
  ⟨h.ok, fun cv e => (h.code cv e).imp fun _ h => h.imp fun _ h => h.imp fun _ h => h.imp fun _ h => ⟨h.1, h.2.1.imp (s _) id, h.2.2⟩⟩
theorem two_of {tl : List (Addr × Obj)} {ys : List Value} {p1 p2 : List (Int × Int)} (h : PartsIn tl ys [p1, p2]) : ∃ v1 v2, ys = [v1, v2] ∧ PairsIn tl v1 p1 ∧ PairsIn tl v2 p2 := by
  run_tac Mine.Sh.mark
  focus
    obtain ⟨v1, e1, h1⟩ := h.2 0 p1 rfl
    obtain ⟨v2, e2, h2⟩ := h.2 1 p2 rfl
    obtain _ | ⟨x, _ | ⟨y, _ | ⟨z, ys⟩⟩⟩ := ys
    · cases e1
    · cases e2
    · cases e1; cases e2
      exact ⟨_, _, rfl, h1, h2⟩
    · exact absurd (Nat.succ.inj (Nat.succ.inj h.1)) (Nat.succ_ne_zero _)
  run_tac Mine.Sh.fin
noncomputable def tabsR (ps : Array Value) : List (Addr × Obj) := [(146, tabObj ps)]
theorem tabsR_sub {L : Addr} {ps : Array Value} {dl : List (Addr × Obj)} (d : Dl L (tabsQ #[]) dl) : Dl L (tabsR ps) dl := fun p hp c hc => d p hp c (by
  unfold offL tabsR at hc
  unfold offL tabsQ
  rcases List.mem_append.mp hc with hc | hc
  · exact List.mem_append_left _ hc
  · exact List.mem_append_right _ (.tail _ hc))
theorem tabsR_less {ps : Array Value} : ∀ p ∈ tabsR ps, p ∈ tabsQ ps ∧ p.1 ∉ [(50 : Addr)] := fun p hp => by
  unfold tabsR at hp
  cases List.mem_singleton.mp hp
  exact ⟨.tail _ (.head _), fun hm => absurd (List.mem_singleton.mp hm) (show ¬ @Eq Nat 146 50 by decide)⟩
theorem tab_offR {L b : Addr} (hb : @LT.lt Nat _ b L) (h : @Ne Nat b 146) : ∀ c ∈ offL L (tabsR #[]), b ≠ c := fun c hc q => by
  unfold offL tabsR at hc
  simp only [List.map_cons, List.map_nil, List.cons_append, List.nil_append, List.mem_cons, List.not_mem_nil, or_false] at hc
  subst q
  rcases hc with q | q | q | q | q | q
  · exact absurd q (show ¬ @Eq Nat b (L + 1 + 1 + 1 + 1 + 1) by omega)
  · exact absurd q (show ¬ @Eq Nat b (L + 1 + 1 + 1 + 1) by omega)
  · exact absurd q (show ¬ @Eq Nat b (L + 1 + 1 + 1) by omega)
  · exact absurd q (show ¬ @Eq Nat b (L + 1 + 1) by omega)
  · exact absurd q (show ¬ @Eq Nat b (L + 1) by omega)
  · exact absurd q h
end

section -- L6
theorem pairB_of {h : Heap} {tl : List (Addr × Obj)} {vs : List Value} {ps : List (Int × Int)} (x : PairVals tl vs ps) (hk : ∀ p ∈ tl, h.get? p.1 = some p.2) : PairB h vs ps := by
  run_tac Mine.Sh.mark
  focus
    induction x with
    | nil => exact .nil
    | cons hm _ ih => exact .cons (hk _ hm) ih
  run_tac Mine.Sh.fin
theorem codesAt_of {h : Heap} {dl : List (Addr × Obj)} {cvs : List Value} {rs : List Rule} {pss : List (List (Int × Int) × List (Int × Int))} {Dc : Addr} (x : CodesIn dl cvs rs pss) (hk : ∀ p ∈ dl, h.get? p.1 = some p.2) (hl : h.IsList Dc cvs.toArray) (hn : pss.length = rs.length) :
    CodesAt h Dc rs.length (fun k => pss.getD k ([], [])) := by
  run_tac Mine.Sh.mark
  focus
    refine ⟨cvs, hl, x.len.trans hn, fun k hk' => ?_⟩
    obtain ⟨p, hp⟩ : ∃ p, pss[k]? = some p := ⟨_, List.getElem?_eq_getElem (by omega)⟩
    obtain ⟨v, ev, a, a1, a2, vs1, vs2, k0, k1, k2, rfl, m0, m1, m2, q1, q2⟩ := x.row k p hp
    obtain ⟨z1, z2, _⟩ := x.hit k p rs[k] hp (List.getElem?_eq_getElem hk')
    have b1 := pairB_of q1 hk
    have b2 := pairB_of q2 hk
    have l1 := b1.length
    have l2 := b2.length
    have eP : pss.getD k ([], []) = p := by rw [List.getD_eq_getElem?_getD, hp]; rfl
    refine ⟨a, a1, a2, vs1, vs2, ev, ⟨_, hk _ m0, rfl, _, rfl⟩, ⟨_, hk _ m1, rfl, _, rfl⟩, ⟨_, hk _ m2, rfl, _, rfl⟩, ?_, ?_, ?_, ?_⟩
    · rw [List.size_toArray, sizeLine_eq]; omega
    · rw [List.size_toArray, sizeLine_eq]; omega
    · show PairB h vs1 (pss.getD k ([], [])).1
      rw [eP]; exact b1
    · show PairB h vs2 (pss.getD k ([], [])).2
      rw [eP]; exact b2
  run_tac Mine.Sh.fin
theorem numR_nz {rs : List Rule} {k : Nat} {r : Rule} (h : rs[k]? = some r) : numR r = nz rs k := by
  unfold numR nz; rw [ruleAt_some h]
theorem headR_hz {rs : List Rule} {k : Nat} {r : Rule} (h : rs[k]? = some r) : headR r = hz rs k := by
  run_tac Mine.Sh.mark
  focus
    have e : headR r = nz rs k - Int.fmod (nz rs k) (mz rs k) := by
      unfold headR; rw [numR_nz h]; unfold mz; rw [ruleAt_some h]
    have hp := mz_pos rs k
    rw [e, Int.fmod_eq_emod_of_nonneg _ (Int.le_of_lt hp)]
    unfold hz
    have := Int.mul_ediv_add_emod (nz rs k) (mz rs k)
    omega
  run_tac Mine.Sh.fin
noncomputable abbrev ordR (rs : List Rule) : List Nat := ordL (rkP (headsL rs)) rs.length
theorem rk_hz {rs : List Rule} {k : Nat} {r : Rule} (h : rs[k]? = some r) : rkP (headsL rs) k = 32 * hz rs k + bz rs k := by
  rw [rk_at h, headR_hz h]; unfold bz; rw [ruleAt_some h]
theorem bz_low {rs : List Rule} (ok : ∀ r ∈ rs, r.ok) {k : Nat} (hk : k < rs.length) : 0 ≤ bz rs k ∧ bz rs k < 32 := by
  run_tac Mine.Sh.mark
  focus
    obtain ⟨b0, b1, _⟩ := ruleAt_ok ok hk
    unfold bz
    omega
  run_tac Mine.Sh.fin
theorem ordR_bef {rs : List Rule} (ok : ∀ r ∈ rs, r.ok) (hn : 1 ≤ rs.length) : (ordR rs).Pairwise (Bef (hz rs) (bz rs)) := by
  run_tac Mine.Sh.mark
  focus
    refine (ord_sorted (rk := rkP (headsL rs)) hn).imp_of_mem fun {x y} hx hy hxy => ?_
    have lx := ord_low hn x hx
    have ly := ord_low hn y hy
    have ex := rk_hz (List.getElem?_eq_getElem lx)
    have ey := rk_hz (List.getElem?_eq_getElem ly)
    have bx := bz_low ok lx
    have by' := bz_low ok ly
    unfold Ord at hxy
    unfold Bef
    rw [ex, ey] at hxy
    omega
  run_tac Mine.Sh.fin
theorem takes_pre {rs : List Rule} (ok : ∀ r ∈ rs, r.ok) {pss : List (List (Int × Int) × List (Int × Int))} (hit : ∀ (k : Nat) (p : List (Int × Int) × List (Int × Int)) (r : Rule), pss[k]? = some p → rs[k]? = some r → HitRule r p) (hn : pss.length = rs.length) {j o : Nat} (hj : j < rs.length) {r : Rule} (hr : rs[o]? = some r) :
    Takes (fun k => pss.getD k ([], [])) r.h.toNat r.l.toNat (j : Int) ↔ Pre (nz rs) (hz rs) (mz rs) j o := by
  run_tac Mine.Sh.mark
  focus
    obtain ⟨p, hp⟩ : ∃ p, pss[j]? = some p := ⟨_, List.getElem?_eq_getElem (by omega)⟩
    have hq : rs[j]? = some rs[j] := List.getElem?_eq_getElem hj
    obtain ⟨_, _, hh⟩ := hit j p _ hp hq
    obtain ⟨_, _, h0, h1, l0, l1⟩ := ok r (List.mem_of_getElem? hr)
    have e := hh r.h r.l h0 h1 l0 l1
    have eP : pss.getD j ([], []) = p := by rw [List.getD_eq_getElem?_getD, hp]; rfl
    rw [pre_div]
    have e1 : nz rs o = 256 * r.h + r.l := (numR_nz hr).symm
    have e2 : nz rs j = 256 * rs[j].h + rs[j].l := (numR_nz hq).symm
    have e3 : mz rs j = 2 ^ (16 - rs[j].b).toNat := by unfold mz; rw [ruleAt_some hq]
    rw [e1, e2, e3, ← e]
    unfold Takes
    show (Hit (pss.getD ((j : Int).toNat) ([], [])).1 _ ∧ Hit (pss.getD ((j : Int).toNat) ([], [])).2 _) ↔ _
    rw [Int.toNat_natCast, eP, Int.toNat_of_nonneg h0, Int.toNat_of_nonneg l0]
  run_tac Mine.Sh.fin
structure Chains (rs : List Rule) (i : Nat) (cs : List (List Nat)) : Prop where
  len : cs.length = i + 1
  zero : cs[0]? = some []
  row : ∀ (j o : Nat) (c : List Nat), (ordR rs)[j]? = some o → cs[j + 1]? = some c → Row rs.length (nz rs) (hz rs) (bz rs) (mz rs) o c
theorem Row.low {n : Nat} {N H B M : Nat → Int} {k : Nat} {l : List Nat} (h : Row n N H B M k l) : (∀ j ∈ l, j < n) ∧ l.length ≤ n := by
  have h1 : ∀ j ∈ l, j < n := fun j hj => ((h.mem j).mp hj).1
  exact ⟨h1, pig n l (h.sorted.imp fun {a b} hab e => by subst e; exact hab.irrefl) h1⟩
theorem Chains.low {rs : List Rule} {i : Nat} {cs : List (List Nat)} (x : Chains rs i cs) (hi : i ≤ (ordR rs).length) {j : Nat} {c : List Nat} (hc : cs[j]? = some c) : (∀ k ∈ c, k < rs.length) ∧ c.length ≤ rs.length := by
  run_tac Mine.Sh.mark
  focus
    cases j with
    | zero =>
      rw [x.zero] at hc; cases hc
      exact ⟨(fun _ h => nomatch h), Nat.zero_le _⟩
    | succ j =>
      have h1 := (List.getElem?_eq_some_iff.mp hc).1
      have h2 := x.len
      obtain ⟨o, ho⟩ : ∃ o, (ordR rs)[j]? = some o := ⟨_, List.getElem?_eq_getElem (by omega)⟩
      exact (x.row j o c ho hc).low
  run_tac Mine.Sh.fin
theorem Chains.start (rs : List Rule) : Chains rs 0 [[]] := ⟨rfl, rfl, fun j o c _ h => by simp at h⟩
theorem Chains.turn {rs : List Rule} (ok : ∀ r ∈ rs, r.ok) (n4 : 1 ≤ rs.length) (n9 : rs.length ≤ 9) {i o m : Nat} {cs : List (List Nat)} {c : List Nat} (x : Chains rs i cs) (ho : (ordR rs)[i]? = some o) (hc : cs[i]? = some c) (hm : m ≤ c.length)
    (ha : ∀ i j, m ≤ i → c[i]? = some j → ¬ Pre (nz rs) (hz rs) (mz rs) j o) (hb : ∀ i j, i + 1 = m → c[i]? = some j → Pre (nz rs) (hz rs) (mz rs) j o) : Chains rs (i + 1) (cs ++ [c.take m ++ [o]]) := by
  run_tac Mine.Sh.mark
  focus
    obtain ⟨hi, eo⟩ := List.getElem?_eq_some_iff.mp ho
    have hord : ordR rs = (ordR rs).take i ++ o :: (ordR rs).drop (i + 1) := by
      rw [← eo, ← List.drop_eq_getElem_cons hi, List.take_append_drop]
    have hlow : ∀ j ∈ ordR rs, j < rs.length := ord_low n4
    have row : Row rs.length (nz rs) (hz rs) (bz rs) (mz rs) o (c.take m ++ [o]) := by
      refine (lam_of ok n9).turn (done := (ordR rs).take i) (rest := (ordR rs).drop (i + 1)) (hlow o (List.mem_of_getElem? ho)) ?_ (fun j hj => ?_) (fun j hj => hlow j (List.mem_of_mem_take hj)) ?_ hm ha hb
      · rw [← hord]; exact ordR_bef ok n4
      · rw [← hord]; exact ord_all n4 hj
      · cases i with
        | zero =>
          rw [x.zero] at hc; cases hc
          exact .inl ⟨rfl, rfl⟩
        | succ i =>
          obtain ⟨o', ho'⟩ : ∃ o', (ordR rs)[i]? = some o' := ⟨_, List.getElem?_eq_getElem (by omega)⟩
          exact .inr ⟨o', (ordR rs).take i, by rw [List.take_add_one, ho']; rfl, x.row i o' c ho' hc⟩
    refine ⟨by rw [List.length_append, x.len, List.length_singleton], ?_, fun j o' c' ho' hc' => ?_⟩
    · rw [List.getElem?_append_left (by rw [x.len]; omega)]; exact x.zero
    · rcases Nat.lt_trichotomy (j + 1) cs.length with h | h | h
      · rw [List.getElem?_append_left h] at hc'
        exact x.row j o' c' ho' hc'
      · rw [h, List.getElem?_append_right (Nat.le_refl _), Nat.sub_self] at hc'
        cases hc'
        have hji : j = i := by have := x.len; omega
        subst hji
        rw [ho] at ho'; cases ho'
        exact row
      · rw [List.getElem?_eq_none (by rw [List.length_append, List.length_singleton]; omega)] at hc'; cases hc'
  run_tac Mine.Sh.fin
noncomputable def ListsIn (tl : List (Addr × Obj)) (ds : List Value) (cs : List (List Nat)) : Prop :=
  ds.length = cs.length ∧ ∀ (j : Nat) (c : List Nat), cs[j]? = some c → ∃ (d : Addr) (ws : List Value) (k : Nat), ds[j]? = some (.ref d) ∧ (d, listOf ws.toArray k) ∈ tl ∧ IntsAre ws (c.map fun (i : Nat) => (i : Int))
theorem ListsIn.mono {tl tl' : List (Addr × Obj)} {ds : List Value} {cs : List (List Nat)} (h : ListsIn tl ds cs) (s : ∀ p ∈ tl, p ∈ tl') : ListsIn tl' ds cs :=
  ⟨h.1, fun j c e => (h.2 j c e).imp fun _ h => h.imp fun _ h => h.imp fun _ h => ⟨h.1, s _ h.2.1, h.2.2⟩⟩
theorem lists_snoc {tl : List (Addr × Obj)} {ds : List Value} {cs : List (List Nat)} {d k : Nat} {ws : List Value} {c : List Nat} (h : ListsIn tl ds cs) (hw : IntsAre ws (c.map fun (i : Nat) => (i : Int))) : ListsIn ((d, listOf ws.toArray k) :: tl) (ds ++ [.ref d]) (cs ++ [c]) := by
  run_tac Mine.Sh.mark
  focus
    refine ⟨by rw [List.length_append, List.length_append, h.1, List.length_singleton, List.length_singleton], fun i q e => ?_⟩
    rcases Nat.lt_trichotomy i cs.length with hi | hi | hi
    · rw [List.getElem?_append_left hi] at e
      obtain ⟨d', ws', k', e1, m, i'⟩ := h.2 i q e
      exact ⟨d', ws', k', by rw [List.getElem?_append_left (by rw [h.1]; exact hi)]; exact e1, .tail _ m, i'⟩
    · subst hi
      rw [List.getElem?_append_right (Nat.le_refl _), Nat.sub_self] at e
      cases e
      exact ⟨d, ws, k, by rw [← h.1, List.getElem?_append_right (Nat.le_refl _), Nat.sub_self]; rfl, .head _, hw⟩
    · rw [List.getElem?_eq_none (by rw [List.length_append, List.length_singleton]; omega)] at e; cases e
  run_tac Mine.Sh.fin
noncomputable def ChainJ (rs : List Rule) (i : Nat) (v : Value) (bl : List (Addr × Obj)) : Prop :=
  ∃ (D : Addr) (ds : List Value) (k : Nat) (cs : List (List Nat)), v = .ref D ∧ (D, listOf ds.toArray k) ∈ bl ∧ ListsIn bl ds cs ∧ Chains rs i cs
theorem ledR_lt {L D : Addr} {o1 o2 o3 o4 o5 : Obj} {ps : Array Value} {dl : List (Addr × Obj)} (h : @LT.lt Nat _ (L + 1 + 1 + 1 + 1 + 1) D ∧ @LT.lt Nat _ (L + 1 + 1 + 1 + 1) D ∧ @LT.lt Nat _ (L + 1 + 1 + 1) D ∧ @LT.lt Nat _ (L + 1 + 1) D ∧ @LT.lt Nat _ (L + 1) D ∧ @LT.lt Nat _ 146 D ∧ AllLt D dl) : ∀ p ∈ led L o1 o2 o3 o4 o5 (tabsR ps) dl, @LT.lt Nat _ p.1 D := fun p hp => by
  obtain ⟨h1, h2, h3, h4, h5, h6, h7⟩ := h
  simp only [led, tabsR, List.cons_append, List.nil_append, List.mem_cons] at hp
  rcases hp with rfl | rfl | rfl | rfl | rfl | rfl | hp
  · exact h1
  · exact h2
  · exact h3
  · exact h4
  · exact h5
  · exact h6
  · exact allLt_mem h7 hp
theorem dl_ltR {L D : Addr} {o : Obj} (h : @LT.lt Nat _ (L + 1 + 1 + 1 + 1 + 1) D ∧ @LT.lt Nat _ (L + 1 + 1 + 1 + 1) D ∧ @LT.lt Nat _ (L + 1 + 1 + 1) D ∧ @LT.lt Nat _ (L + 1 + 1) D ∧ @LT.lt Nat _ (L + 1) D) (h2 : @LT.lt Nat _ 146 D) : Dl L (tabsR #[]) [(D, o)] := fun p hp c hc => by
  obtain rfl := List.mem_singleton.mp hp
  unfold offL tabsR at hc
  simp only [List.map_cons, List.map_nil, List.cons_append, List.nil_append, List.mem_cons, List.not_mem_nil, or_false] at hc
  obtain ⟨h1, h2', h3, h4, h5⟩ := h
  rcases hc with rfl | rfl | rfl | rfl | rfl | rfl
  · exact Nat.ne_of_gt h1
  · exact Nat.ne_of_gt h2'
  · exact Nat.ne_of_gt h3
  · exact Nat.ne_of_gt h4
  · exact Nat.ne_of_gt h5
  · exact Nat.ne_of_gt h2
noncomputable def dueR (r : Rule) : Int := Int.fdiv (numR r) (2 ^ (16 - r.b).toNat) * 2 ^ (16 - r.b).toNat
noncomputable def KeysIn (rs : List Rule) (tl : List (Addr × Obj)) (ys : List Value) (n : Nat) : Prop :=
  ys.length = n ∧ ∀ j : Nat, j < n → ∃ (a : Addr) (t1 t2 t3 : Tok), ys[j]? = some (.ref a) ∧ (a, tupO [.int (dueR (ruleAt rs j)) t1, .int (ruleAt rs j).b t2, .int (j : Int) t3]) ∈ tl
theorem keys_snoc {rs : List Rule} {tl : List (Addr × Obj)} {ys : List Value} {n : Nat} {a : Addr} {t1 t2 t3 : Tok} (h : KeysIn rs tl ys n) : KeysIn rs ((a, tupO [.int (dueR (ruleAt rs n)) t1, .int (ruleAt rs n).b t2, .int (n : Int) t3]) :: tl) (ys ++ [.ref a]) (n + 1) := by
  run_tac Mine.Sh.mark
  focus
    refine ⟨by rw [List.length_append, h.1, List.length_singleton], fun j hj => ?_⟩
    by_cases q : j < n
    · obtain ⟨b, u1, u2, u3, e, m⟩ := h.2 j q
      exact ⟨b, u1, u2, u3, by rw [List.getElem?_append_left (by rw [h.1]; exact q)]; exact e, .tail _ m⟩
    · obtain rfl : j = n := by omega
      exact ⟨a, t1, t2, t3, by rw [← h.1, List.getElem?_append_right (Nat.le_refl _), Nat.sub_self]; rfl, .head _⟩
  run_tac Mine.Sh.fin
theorem KeysIn.mono {rs : List Rule} {tl tl' : List (Addr × Obj)} {ys : List Value} {n : Nat} (h : KeysIn rs tl ys n) (s : ∀ p ∈ tl, p ∈ tl') : KeysIn rs tl' ys n :=
  ⟨h.1, fun j hj => (h.2 j hj).imp fun _ h => h.imp fun _ h => h.imp fun _ h => h.imp fun _ h => ⟨h.1, s _ h.2⟩⟩
noncomputable def keyL (rs : List Rule) (i : Nat) : List Int := [dueR (ruleAt rs i), (ruleAt rs i).b, (i : Int)]
noncomputable def rk3 (rs : List Rule) (i : Nat) : Int := 32 * (32 * dueR (ruleAt rs i) + (ruleAt rs i).b) + i
theorem lex3 {a b c a' b' c' : Int} (b0 : 0 ≤ b) (b1 : b < 32) (c0 : 0 ≤ c) (c1 : c < 32) (b0' : 0 ≤ b') (b1' : b' < 32) (c0' : 0 ≤ c') (c1' : c' < 32) : lexLt [a, b, c] [a', b', c'] = decide (32 * (32 * a + b) + c < 32 * (32 * a' + b') + c') := by
  run_tac Mine.Sh.mark
  focus
    show (if a = a' then lexLt [b, c] [b', c'] else decide (a < a')) = _
    by_cases h : a = a'
    · subst h
      rw [if_pos rfl, lex2 c0 c1 c0' c1']
      exact decide_eq_decide.mpr (by omega)
    · rw [if_neg h]
      exact decide_eq_decide.mpr (by omega)
  run_tac Mine.Sh.fin
theorem dueR_hz {rs : List Rule} {k : Nat} : dueR (ruleAt rs k) = hz rs k := by
  run_tac Mine.Sh.mark
  focus
    have e : dueR (ruleAt rs k) = Int.fdiv (nz rs k) (mz rs k) * mz rs k := rfl
    rw [e, Int.fdiv_eq_ediv_of_nonneg _ (Int.le_of_lt (mz_pos rs k)), Int.mul_comm]
    rfl
  run_tac Mine.Sh.fin
theorem ordR_rk3 {rs : List Rule} (ok : ∀ r ∈ rs, r.ok) (n1 : 1 ≤ rs.length) (n9 : rs.length ≤ 9) : ordL (rk3 rs) rs.length = ordR rs := by
  run_tac Mine.Sh.mark
  focus
    refine (ord_same n1 fun i j hi hj h => ?_).symm
    have ei := rk_hz (List.getElem?_eq_getElem hi)
    have ej := rk_hz (List.getElem?_eq_getElem hj)
    have bi := bz_low ok hi
    have bj := bz_low ok hj
    unfold Ord at h ⊢
    rw [ei, ej] at h
    unfold rk3
    rw [dueR_hz, dueR_hz]
    unfold bz at *
    omega
  run_tac Mine.Sh.fin
theorem range_key {rs : List Rule} {n i : Nat} {t : List Int} (h : ((List.range n).map (keyL rs))[i]? = some t) : i < n ∧ t = keyL rs i := by
  run_tac Mine.Sh.mark
  focus
    rw [List.getElem?_map] at h
    obtain ⟨j, e, rfl⟩ := Option.map_eq_some_iff.mp h
    obtain ⟨h1, h2⟩ := List.getElem?_eq_some_iff.mp e
    rw [List.length_range] at h1
    rw [List.getElem_range] at h2
    exact ⟨h1, by rw [h2]⟩
  run_tac Mine.Sh.fin
noncomputable def KeysOrd (rs : List Rule) (tl : List (Addr × Obj)) (kv : List Value) : Prop :=
  kv.length = (ordR rs).length ∧ ∀ i o : Nat, (ordR rs)[i]? = some o → ∃ (a : Addr) (t1 t2 t3 : Tok), kv[i]? = some (.ref a) ∧ (a, tupO [.int (dueR (ruleAt rs o)) t1, .int (ruleAt rs o).b t2, .int (o : Int) t3]) ∈ tl
theorem keys_ord {rs : List Rule} {tl : List (Addr × Obj)} {ys : List Value} (n1 : 1 ≤ rs.length) (h : KeysIn rs tl ys rs.length) : KeysOrd rs tl ((ordR rs).map fun i => ys.getD i Value.none) := by
  run_tac Mine.Sh.mark
  focus
    refine ⟨List.length_map .., fun i o e => ?_⟩
    obtain ⟨a, t1, t2, t3, e1, m⟩ := h.2 o (ord_low n1 o (List.mem_of_getElem? e))
    refine ⟨a, t1, t2, t3, ?_, m⟩
    rw [List.getElem?_map, e]
    show some (ys.getD o Value.none) = _
    rw [List.getD_eq_getElem?_getD, e1]; rfl
  run_tac Mine.Sh.fin
theorem KeysOrd.mono {rs : List Rule} {tl tl' : List (Addr × Obj)} {ys : List Value} (h : KeysOrd rs tl ys) (s : ∀ p ∈ tl, p ∈ tl') : KeysOrd rs tl' ys :=
  ⟨h.1, fun i o e => (h.2 i o e).imp fun _ h => h.imp fun _ h => h.imp fun _ h => h.imp fun _ h => ⟨h.1, s _ h.2⟩⟩
noncomputable def datL (c : List Nat) : Dat := .list (c.map fun (i : Nat) => Dat.int (i : Int))
theorem ints_dat {tl : List (Addr × Obj)} {ws : List Value} {ns : List Int} (h : IntsAre ws ns) : DatAll tl ws (ns.map Dat.int) := by
  run_tac Mine.Sh.mark
  focus
    induction h with
    | nil => exact .nil
    | cons n t _ ih => exact .cons (.int _ _) ih
  run_tac Mine.Sh.fin
theorem lists_dat {tl : List (Addr × Obj)} : ∀ {ds : List Value} {cs : List (List Nat)}, ListsIn tl ds cs → DatAll tl ds (cs.map datL)
  | [], [], _ => .nil
  | [], _ :: _, h => by cases h.1
  | _ :: _, [], h => by cases h.1
  | v :: ds, c :: cs, h => by
    obtain ⟨d, ws, k, e, m, i⟩ := h.2 0 c rfl
    cases e
    refine .cons (.list m ?_) (lists_dat ⟨Nat.succ.inj h.1, fun j c e => h.2 (j + 1) c e⟩)
    have := ints_dat (tl := tl) i
    rwa [List.map_map] at this
theorem datL_ok {cs : List (List Nat)} : ∀ d ∈ cs.map datL, kqdOk 8 d = true := fun d hd => by
  obtain ⟨c, _, rfl⟩ := List.mem_map.mp hd
  unfold datL
  simp only [kqdOk, List.all_eq_true]
  intro x hx
  obtain ⟨i, _, rfl⟩ := List.mem_map.mp hx
  rfl
structure Holds (rs : List Rule) (i : Nat) (cs : List (List Nat)) : Prop where
  len : cs.length = i
  row : ∀ (j o : Nat) (c : List Nat), (ordR rs)[j]? = some o → cs[j]? = some c → Row rs.length (nz rs) (hz rs) (bz rs) (mz rs) o c
theorem Holds.snoc {rs : List Rule} {i o : Nat} {cs : List (List Nat)} {c : List Nat} (x : Holds rs i cs) (ho : (ordR rs)[i]? = some o) (r : Row rs.length (nz rs) (hz rs) (bz rs) (mz rs) o c) : Holds rs (i + 1) (cs ++ [c]) := by
  run_tac Mine.Sh.mark
  focus
    refine ⟨by rw [List.length_append, x.len, List.length_singleton], fun j o' c' ho' hc' => ?_⟩
    rcases Nat.lt_trichotomy j cs.length with h | h | h
    · rw [List.getElem?_append_left h] at hc'
      exact x.row j o' c' ho' hc'
    · rw [h, List.getElem?_append_right (Nat.le_refl _), Nat.sub_self] at hc'
      cases hc'
      rw [h, x.len, ho] at ho'; cases ho'
      exact r
    · rw [List.getElem?_eq_none (by rw [List.length_append, List.length_singleton]; omega)] at hc'; cases hc'
  run_tac Mine.Sh.fin
theorem chains_eq {rs : List Rule} {cs cs' : List (List Nat)} (hn : (ordR rs).length = rs.length) (x : Chains rs rs.length cs) (y : Holds rs rs.length cs') : cs = [] :: cs' := by
  run_tac Mine.Sh.mark
  focus
    refine List.ext_getElem? fun i => ?_
    cases i with
    | zero => rw [x.zero]; rfl
    | succ i =>
      rw [List.getElem?_cons_succ]
      by_cases hi : i < rs.length
      · obtain ⟨o, ho⟩ : ∃ o, (ordR rs)[i]? = some o := ⟨_, List.getElem?_eq_getElem (by omega)⟩
        obtain ⟨c, hc⟩ : ∃ c, cs[i + 1]? = some c := ⟨_, List.getElem?_eq_getElem (by rw [x.len]; omega)⟩
        obtain ⟨c', hc'⟩ : ∃ c', cs'[i]? = some c' := ⟨_, List.getElem?_eq_getElem (by rw [y.len]; omega)⟩
        rw [hc, hc', (x.row i o c ho hc).unique (y.row i o c' ho hc')]
      · rw [List.getElem?_eq_none (by rw [x.len]; omega), List.getElem?_eq_none (by rw [y.len]; omega)]
  run_tac Mine.Sh.fin
end

section -- LALL
set_option linter.unusedSectionVars false

local macro_rules | `(tactic| walk_at $k) => Mine.Tx.look k.getString "storeName ==> (k_here; (k_dflt (refine' cn_store ?F ?N ?hx ?hk ?_; (case F => k_asm); (case N => k_asm); (case hx => rfl); (case hk => rfl))); intro h' tk' F' N'; (try k_sweep))
eval Name ==> (k_here; (with_reducible show wpAny _ _ (eval _ (compEnvC _ _ _ _)) _ _ _); first | k_dflt (refine' cn_local ?F ?hx ?hv ?hk ?_; (case F => k_asm); (case hx => rfl); (case hv => exact rfl); (case hk => rfl)) | k_dflt (refine' cn_cell ?F ?hx ?hc ?hv ?hd ?hk ?_; (case F => k_asm); (case hx => rfl); (case hc => rfl); (case hv => with_reducible assumption); (case hd => with_reducible assumption); (case hk => rfl)) | k_dflt (refine' cn_global ?F ?X ?T ?e ?hx ?hg ?hk ?_; (case F => k_asm); (case X => k_asm); (case T => k_asm); (case e => k_is); (case hx => rfl); (case hg => rfl); (case hk => rfl)) | k_dflt (refine' cn_builtin ?F ?X ?T ?e ?hv ?hx ?hg ?hb ?hk ?_; (case F => k_asm); (case X => k_asm); (case T => k_asm); (case e => k_is); (case hv => boot_by_name); (case hx => rfl); (case hg => rfl); (case hb => rfl); (case hk => rfl)))
callWith ref ==> (k_here; k_dflt (refine' callWith_K ?k1 ?k2 ?_; (case k1 => k_asm); (case k2 => k_is); k_whole))
exec Assign cons ListComp ==> (k_here; refine halt2 ?_)
assign Name ==> (refine wpAny_assign_Name ?_)"
local macro_rules | `(tactic| k_all) => Mine.Tx.line "assumption"
local macro_rules | `(tactic| k_mem) => Mine.Tx.line "(with_reducible (repeat (first | assumption | refine List.mem_cons_of_mem _ ?_)); done)"
local macro_rules | `(tactic| walk_at $k) => Mine.Tx.look k.getString "call builtin:len ==> (k_here; refine halt2 ?_)
call ref ==> (k_here; refine halt2 ?_)
binaryOp Add ref ref ==> (k_here; refine halt2 ?_)
exec For Tuple Name cons nil ==> (k_here; k_dflt (refine for_start ?_))
pyIter ref ==> (k_here; refine halt2 ?_)
ForRest ==> (refine halt2 ?_)
ForPost ==> (dsimp only [ForPost])
ForNext ==> (dsimp only [ForNext])
letOwnedTupleGo ==> (refine halt2 ?_)
call type:bytes ==> (k_here; refine halt2 ?_)"
section
variable {w : World} {loose : List Str} {mean : ExcName → Option Value} {mg mb : Str → Option Value} {g : Heap} (C : LawCtx w loose mean mg mb g)
    {L a : Addr} {h : Heap} {gn : Array GenState} {dr : Drawn} {tk : Nat} {os : OsState} {m₀ : Str → Option Value} {Q : Flow → Shared → Prop} {E : Value → Shared → Prop} (hE : PassesOwn (model prg w) (lawA L a) (lawEnv L a) E) {o1 o2 o3 o4 o5 : Obj} {dl : List (Addr × Obj)} (od : Dl L tabs dl) (lt : @LT.lt Nat _ 134 L ∧ @LT.lt Nat _ 87 L ∧ @LT.lt Nat _ 57 L ∧ @LT.lt Nat _ 50 L ∧ @LT.lt Nat _ 146 L)
include C od lt
theorem st0 {sc : Addr} {vs : List Value} {ns : List Int} (hl : g.IsList sc vs.toArray) (hi : IntsAre vs ns) (hn : ns.length ≤ 63)
    (F : Fr g L h (fun y => if y = Str.ofString "script" then some (.ref sc) else m₀ y)) (N : News g L h (led L o1 o2 o3 o4 o5 tabs dl))
    (next : ∀ (h' : Heap) (tk' : Nat) (D : Addr) (k : Nat) (xs : List Value) (ds : List Int) (m₁ : Str → Option Value), IntsAre xs ds → Drawn9 ds → Fr g L h' (fun y => if y = Str.ofString "drawn" then some (.ref D) else m₁ y) →
       Dl L tabs ((D, listOf xs.toArray k) :: dl) → News g L h' (led L o1 o2 o3 o4 o5 tabs ((D, listOf xs.toArray k) :: dl)) → LawAt w L a 1 Q E ⟨h', gn, dr, tk', os⟩) :
    LawAt w L a 0 Q E ⟨h, gn, dr, tk, os⟩ := by
  run_tac Mine.Sh.mark
  focus
    obtain ⟨X, T, CH1, CH2, CH3, CH4, CH5⟩ := C
    have N0 := N
    unfold led tabs at N0
    simp only [List.cons_append, List.nil_append] at N0
    unfold LawAt
    run_tac expose
    k_steps
    unfold Halt2
    refine comp_assign (m := fun y => if y = Str.ofString "script" then some (.ref sc) else m₀ y) (by with_unfolding_all rfl) (by exact rfl) (by decide) rfl (by decide) (by rfl) (by rfl) ?_
    k_steps
    rename Fr _ _ _ _ => Fo
    rename News _ _ _ _ => No
    rename IntsAre _ _ => hI
    rename_i D0 ws h1 hC1 hL1 lx
    have hw : ws.length = (ns.take 9).length := hI.length
    have hw9 : ws.length ≤ 9 := by rw [hw, List.length_take]; exact Nat.min_le_left _ _
    refine ⟨h1, D0, ws.toArray, [], fun i ys tl gn' => gn' = gn ∧ tl = [] ∧ IntsAre ys (((ns.take 9).take i).map fun x => Int.fmod x (10 ^ 10)), rfl, rfl, Sub.refl _, Nat.le_refl _, Beside.nil, ⟨_, (No _ (.head _)).1, rfl, _, rfl⟩, ?hz, ⟨rfl, rfl, .nil⟩, ?turn, Fo.ns, Nat.le_refl _, ?fin⟩
    case hz =>
      rw [List.size_toArray, sizeLine_eq]; omega
    case turn =>
      rintro i v ys tl' C J D' oJ h10 gn10 m10 tk10 E' hv ⟨rfl, rfl, hys⟩ F10 N10 off10 ne10 hyl
      clear Fo No
      obtain ⟨x, t, rfl, hx⟩ : ∃ x t, v = .int x t ∧ (ns.take 9)[i]? = some x := ints_item hI (by simpa using hv)
      k_steps
      rename Fr _ _ _ _ => Fe
      rename News _ _ _ _ => Ne
      refine ⟨_, _, _, [], _, rfl, Fe, Ne, by simp, rfl, rfl, ?_⟩
      rw [List.take_add_one, hx, List.map_append]
      exact ksk_snoc hys
    case fin =>
      rintro D h10 gn10 tk10 ys tl' ⟨rfl, rfl, hys⟩ kp hns hD gD hyl htl
      rw [List.size_toArray, hw, List.take_length] at hys
      have N1 : News g L h1 (led L o1 o2 o3 o4 o5 tabs dl) := sub_news No fun p hp => .tail _ hp
      have N2 : News g L h10 (led L o1 o2 o3 o4 o5 tabs dl) := back_news N1 kp fun p hp => hp
      refine next h10 tk10 D _ ys _ (fun y => if y = Str.ofString "script" then some (.ref sc) else m₀ y) hys ⟨?_, fun d hd => ?_⟩ (back_fr Fo kp hns) (dl_cons N1 hD od) (led_cons N2 (new_news Fo hD gD))
      · rw [List.length_map, List.length_take]; exact Nat.min_le_left _ _
      · obtain ⟨x, _, rfl⟩ := List.mem_map.mp hd
        have hp : (0 : Int) < 10 ^ 10 := by decide
        exact ⟨Int.fmod_nonneg_of_pos _ hp, Int.fmod_lt_of_pos _ hp⟩
  run_tac Mine.Sh.fin
local macro_rules | `(tactic| walk_at "subscriptTail Name Slice ref ref") => Mine.Tx.line "(k_here; refine halt2 ?_)"
theorem st1 {D : Addr} {k : Nat} {xs : List Value} {ds : List Int} (hx : IntsAre xs ds) (h9 : Drawn9 ds) (hD : (D, listOf xs.toArray k) ∈ dl)
    (d1 : cell none o1) (F : Fr g L h (fun y => if y = Str.ofString "drawn" then some (.ref D) else m₀ y)) (N : News g L h (led L o1 o2 o3 o4 o5 tabs dl))
    (next : ∀ (h' : Heap) (tk' : Nat) (rl : Addr) (rs : List Rule) (o1' : Obj) (m₁ : Str → Option Value) (tl : List (Addr × Obj)), cell (some (.ref rl)) o1' → RsIn tl rl rs → Fr g L h' m₁ →
       Dl L tabs tl → News g L h' (led L o1' o2 o3 o4 o5 tabs tl) → LawAt w L a 2 Q E ⟨h', gn, dr, tk', os⟩) :
    LawAt w L a 1 Q E ⟨h, gn, dr, tk, os⟩ := by
  run_tac Mine.Sh.mark
  focus
    obtain ⟨X, T, CH1, CH2, CH3, CH4, CH5⟩ := C
    have N0 := N
    unfold led tabs at N0
    simp only [List.cons_append, List.nil_append] at N0
    unfold LawAt
    run_tac expose
    clear N
    k_steps
    unfold Halt2
    refine wpAny_Assign_Name (comp_list (by exact rfl) (by decide) rfl (by decide) ?_) (by with_unfolding_all rfl)
    k_steps
    unfold Halt2
    rename Fr _ _ _ _ => Fo
    rename News _ _ _ _ => No
    have hlen : xs.length = ds.length := hx.length
    have hds : ds.length ≤ 9 := h9.1
    k_here
    refine len_list (items := xs.toArray) (news_list No (by k_mem)) (by rw [List.size_toArray]; omega) ?_
    rw [List.size_toArray, hlen]
    obtain ⟨nd, hnd⟩ : ∃ nd, ds.length = nd := ⟨_, rfl⟩
    rw [hnd]
    clear hds hlen
    k_steps
    rename Fr _ _ _ _ => Fo
    rename News _ _ _ _ => No
    unfold Halt2
    k_here
    refine kmk_slice_ints Fo No (news_list No (.head _)) (.int _ _) .none (.cons _ _ (.cons _ _ (.cons _ _ (.cons _ _ .nil)))) (kmk_from (.cons _ _ (.cons _ _ (.cons _ _ (.cons _ _ .nil)))) (Int.natCast_nonneg nd)) (List.length_drop ..) (fun D1 ws h1 F1 N1 l1 hI hC1 hL1 => ?_) (by with_unfolding_all rfl) (by kmk_pure) (by rw [sizeLine_eq]; exact Nat.le_of_ble_eq_true rfl)
    clear Fo No
    rw [Int.toNat_natCast] at hI
    k_steps
    unfold Halt2
    rename Fr _ _ _ _ => Fo
    rename News _ _ _ _ => No
    k_here
    refine kmk_add_ints Fo No (news_list No (by k_mem)) (news_list No (.head _)) hx hI (fun D2 us h2 F2 N2 l2 hu => ?_) (by rw [sizeLine_eq, List.length_drop, hnd, show [(713 : Int), 7, 25, 435].length = 4 from rfl]; have := h9.1; omega)
    rw [← hnd] at hu
    obtain ⟨zs, hz⟩ : ∃ zs, ds ++ List.drop ds.length [(713 : Int), 7, 25, 435] = zs := ⟨_, rfl⟩
    rw [hz] at hu
    have hds : ds.length ≤ 9 := h9.1
    have hz4 : 4 ≤ zs.length ∧ zs.length ≤ 9 := by
      rw [← hz, List.length_append, List.length_drop, show [(713 : Int), 7, 25, 435].length = 4 from rfl]; omega
    have hzr : ∀ z ∈ zs, 0 ≤ z ∧ z < 10000000000 := fun z hm => by
      rw [← hz] at hm
      rcases List.mem_append.mp hm with hm | hm
      · exact h9.2 z hm
      · have := List.mem_of_mem_drop hm
        simp only [List.mem_cons, List.not_mem_nil, or_false] at this
        omega
    have X2 := X.keeps F2.keep
    have T2 := T.keeps F2.keep
    have hul : us.length = zs.length := hu.length
    refine ⟨h2, D2, us.toArray, [], fun i ys tl gn' => gn' = gn ∧ ys.length = i ∧ ∃ rs : List Rule, rs.length = i ∧ (∀ r ∈ rs, r.ok) ∧ ∀ (j : Nat) (r : Rule), rs[j]? = some r → ∃ v, ys[j]? = some v ∧ RuleIn tl v r, rfl, rfl, Sub.refl _, Nat.le_refl _, Beside.nil, ⟨_, (N2 _ (.head _)).1, rfl, _, rfl⟩, ?hz, ⟨rfl, rfl, [], rfl, (fun _ h => nil_in h), fun _ _ h => nil_at h⟩, ?turn, ?fin⟩
    case hz =>
      rw [List.size_toArray, sizeLine_eq]; omega
    case turn =>
      rintro i v ys tl' C J D' oJ h10 gn10 m10 tk10 E' hv ⟨rfl, _, rs, hrs, hok, hro⟩ F10 N10 off10 ne10 hyl
      clear Fo No F2
      obtain ⟨x, t, rfl, hx⟩ := ints_item hu (by simpa using hv)
      obtain ⟨x0, x1⟩ := hzr x (List.mem_of_getElem? hx)
      k_steps
      unfold Halt2
      rename Fr _ _ _ _ => Fe
      rename News _ _ _ _ => Ne
      refine law_rule w loose mean mg mb _ _ _ _ _ _ _ x t x0 x1 (X2.keeps Fe.keep) (T2.keeps Fe.keep) (by decide) (by decide) fun v nw r h9 tk9 S9 Fn hri hro9 => ?_
      have F9 := call_fr Fe S9
      have nwJ := fresh_ne Ne Fn (.head _)
      have nwD := fresh_ne Ne Fn (.tail _ (.head _))
      have N9 := call_news Fe Ne S9 Fn
      clear Fe Ne
      show CEnd _ _ _ _ _ _ _ _ _ _ _
      refine ⟨_, _, _, nw ++ tl', _, rfl, F9, sub_news N9 (mem_swap2 (J, oJ) (D', LCg.lst ys)), fun p hp => ?_, rfl, ?_, rs ++ [r], ?_, ?_, ?_⟩
      · rcases List.mem_append.mp hp with hp | hp
        · exact ⟨nwJ p hp, nwD p hp⟩
        · exact off10 p hp
      · rw [List.length_append, hyl]; rfl
      · rw [List.length_append, hrs]; rfl
      · intro r' hr'
        rcases List.mem_append.mp hr' with hr' | hr'
        · exact hok r' hr'
        · exact List.mem_singleton.mp hr' ▸ hro9
      · exact rules_snoc (hrs.trans hyl.symm) hro hri
    case fin =>
      rintro Dr h10 gn10 tk10 ys tl' ⟨rfl, _, rs, hrs, hok, hro⟩ S10 hD10 gD hyl htl
      clear Fo No
      have F10 := sub_fr F2 S10
      replace N2 : News g L h2 (led L o1 o2 o3 o4 o5 tabs dl) := sub_news N2 fun p hp => .tail _ (.tail _ (.tail _ hp))
      have hnw : ∀ p ∈ (Dr, LCg.lst ys) :: tl', h2.get? p.1 = none ∧ h10.get? p.1 = some p.2 := fun p hp => by
        rcases List.mem_cons.mp hp with rfl | hp
        · exact ⟨hD10, gD⟩
        · exact ⟨(htl p hp).2.1, (htl p hp).1⟩
      have N10 := led_app F2 (grow_news N2 S10) (fun p hp => (hnw p hp).1) fun p hp => (hnw p hp).2
      have od10 := dl_app N2 (fun p hp => (hnw p hp).1) od
      have mD : (Dr, listOf ys.toArray ys.length) ∈ ((Dr, LCg.lst ys) :: tl') ++ dl := .head _
      have mR : ∀ (j : Nat) (r : Rule), rs[j]? = some r → ∃ v, ys[j]? = some v ∧ RuleIn (((Dr, LCg.lst ys) :: tl') ++ dl) v r := fun j r e => by
        obtain ⟨v, e', a, t1, t2, t3, rfl, hm⟩ := hro j r e
        exact ⟨_, e', a, t1, t2, t3, rfl, .tail _ (List.mem_append_left _ hm)⟩
      generalize ((Dr, LCg.lst ys) :: tl') ++ dl = dm at N10 od10 mD mR
      clear htl hnw N2 F2 hD10 S10
      rw [List.size_toArray, hul] at hrs hyl
      have c1 := dl_c od10 (c := L + 1) (.tail _ (.tail _ (.tail _ (.tail _ (.head _)))))
      have N11 := N10
      unfold led tabs at N11
      simp only [List.cons_append, List.nil_append] at N11
      clear N10
      walk1
      rename Fr _ _ _ _ => Fe
      rename News _ _ _ _ => Ne
      rename (_ = Data.cell _) => dc
      exact next _ _ Dr rs _ _ dm dc ⟨hrs ▸ hz4.1, hrs ▸ hz4.2, hok, ys, _, mD, by rw [hyl, hrs], mR⟩ Fe od10 Ne
  run_tac Mine.Sh.fin
include hE in
theorem st2 {rl : Addr} {rs : List Rule} (d1 : cell (some (.ref rl)) o1) (R : RsIn dl rl rs) (F : Fr g L h m₀) (N : News g L h (led L o1 o2 o3 o4 o5 tabs dl))
    (next : ∀ (h' : Heap) (tk' : Nat) (D : Addr) (k : Nat) (ws : List Value) (m₁ : Str → Option Value), IntsAre ws ((rs.length : Int) :: rs.flatMap fun r => [r.b, 2, r.h, r.l]) → Fr g L h' (fun y => if y = Str.ofString "row" then some (.ref D) else m₁ y) →
       Dl L tabs ((D, listOf ws.toArray k) :: dl) → News g L h' (led L o1 o2 o3 o4 o5 tabs ((D, listOf ws.toArray k) :: dl)) → LawAt w L a 4 Q E ⟨h', gn, dr, tk', os⟩) :
    LawAt w L a 2 Q E ⟨h, gn, dr, tk, os⟩ := by
  run_tac Mine.Sh.mark
  focus
    obtain ⟨X, T, CH1, CH2, CH3, CH4, CH5⟩ := C
    have N0 := N
    unfold led tabs at N0
    simp only [List.cons_append, List.nil_append] at N0
    unfold LawAt
    run_tac expose
    clear N
    obtain ⟨n4, n9, ok, vs, kv, mL, hvl, mR⟩ := R
    have c1 := dl_c od (c := L + 1) (.tail _ (.tail _ (.tail _ (.tail _ (.head _)))))
    k_steps
    unfold Halt2
    rename Fr _ _ _ _ => Fo
    rename News _ _ _ _ => No
    k_here
    refine len_list (items := vs.toArray) (news_list No (by k_mem)) (by rw [List.size_toArray]; omega) ?_
    rw [List.size_toArray, hvl]
    k_steps
    unfold Halt2
    rename Fr _ _ _ _ => Fo
    rename News _ _ _ _ => No
    rename (_ ∧ _ ∧ _ ∧ _ ∧ _ ∧ _ ∧ _ ∧ _ ∧ _ ∧ _ ∧ AllLt _ _) => l1
    refine for_items (items := vs.toArray) (k := kv) hE rfl (fun j l m => ∃ (D : Addr) (k : Nat) (ws : List Value) (m₁ : Str → Option Value), (m = fun y => if y = Str.ofString "row" then some (.ref D) else m₁ y) ∧ l = (D, listOf ws.toArray k) :: led L o1 o2 o3 o4 o5 tabs dl ∧ Dl L tabs [(D, listOf ws.toArray k)] ∧ IntsAre ws ((rs.length : Int) :: (rs.take j).flatMap fun r => [r.b, 2, r.h, r.l]))
      (fun j l m q => by obtain ⟨D, k, ws, m₁, _, e, _⟩ := q; subst e; exact .tail _ (mem_led mL)) ⟨_, _, [_], _, rfl, rfl, dl_lt l1, .cons _ _ .nil⟩ Fo No ?turn ?fin
    case turn =>
      rintro j v I o h3 tk3 l m hv ⟨D, k, ws, m₁, rfl, rfl, oD, hw⟩ F3 N3 ne3
      clear Fo No
      unfold led tabs at N3
      simp only [List.cons_append, List.nil_append] at N3
      have hj : j < rs.length := by
        have := (Array.getElem?_eq_some_iff.mp hv).1
        rw [List.size_toArray, hvl] at this
        exact this
      obtain ⟨r, hr⟩ : ∃ r, rs[j]? = some r := ⟨_, List.getElem?_eq_getElem hj⟩
      obtain ⟨v', ev, ar, t1, t2, t3, rfl, mr⟩ := mR j r hr
      obtain rfl : v = .ref ar := by
        rw [List.getElem?_toArray, ev] at hv
        exact (Option.some.inj hv).symm
      k_steps
      unfold Halt2
      rename Fr _ _ _ _ => Fo
      rename News _ _ _ _ => No
      have hwl := hw.length
      have htl : ((rs.take j).flatMap fun r => [r.b, 2, r.h, r.l]).length ≤ 36 := row_len n9
      k_here
      refine kmk_add_ints Fo No (news_list No (.tail _ (.tail _ (.head _)))) (news_list No (.head _)) hw (.cons _ _ (.cons _ _ (.cons _ _ (.cons _ _ .nil)))) (fun D2 us h2 F2 N2 l2 hu => ?_) (by rw [sizeLine_eq, List.length_cons]; simp only [List.length_cons, List.length_nil]; omega)
      clear Fo No
      have l3 := allLt_of l2
      simp only [AllLt, and_true] at l3
      k_steps
      rename Fr _ _ _ _ => Fe
      rename News _ _ _ _ => Ne
      refine ⟨rfl, _, _, (D2, listOf us.toArray 0) :: led L o1 o2 o3 o4 o5 tabs dl, _, rfl, Fe, sub_news Ne (row_sub), fun p hp => ?_, D2, _, us, _, rfl, rfl, dl_lt l3.2.2.2, ?_⟩
      · rcases List.mem_cons.mp hp with rfl | hp
        · exact Nat.ne_of_gt l3.2.1
        · exact ne3 p (.tail _ hp)
      · rw [List.take_add_one, hr]
        simpa using hu
    case fin =>
      rintro h3 tk3 l m ⟨D, k, ws, m₁, rfl, rfl, oD, hw⟩ F3 N3
      rw [List.size_toArray, hvl, List.take_length] at hw
      exact next _ _ D k ws m₁ hw F3 (fun p hp => by
        rcases List.mem_cons.mp hp with rfl | hp
        · exact oD _ (.head _)
        · exact od p hp) (sub_news N3 led_sub1)
  run_tac Mine.Sh.fin
omit C od lt in
theorem tabs_134 {pl : Addr} {o87 : Obj} (h : ∀ p ∈ [((57 : Addr), tabObj #[]), (50, tabObj #[]), (146, tabObj #[])], p.1 ≠ pl) : ∀ p ∈ [((57 : Addr), tabObj #[]), (50, tabObj #[]), (146, tabObj #[])], p ∈ [((134 : Addr), tabObj #[]), (87, o87), (57, tabObj #[]), (50, tabObj #[]), (146, tabObj #[])] ∧ p.1 ∉ [pl, 134] := fun p hp => by
  refine ⟨.tail _ (.tail _ hp), fun hm => ?_⟩
  rcases List.mem_cons.mp hm with q | hm
  · exact h p hp q
  · have := List.mem_singleton.mp hm
    simp only [List.mem_cons, List.not_mem_nil, or_false] at hp
    rcases hp with rfl | rfl | rfl <;> exact absurd this (by decide)
omit C od lt in
theorem tabs_87 : ∀ p ∈ [((134 : Addr), tabObj #[]), (57, tabObj #[]), (50, tabObj #[]), (146, tabObj #[])], p ∈ tabs ∧ p.1 ∉ [(87 : Addr)] := fun p hp => by
  unfold tabs
  simp only [List.mem_cons, List.not_mem_nil, or_false] at hp ⊢
  rcases hp with rfl | rfl | rfl | rfl
  · exact ⟨.inl rfl, by decide⟩
  · exact ⟨.inr (.inr (.inl rfl)), by decide⟩
  · exact ⟨.inr (.inr (.inr (.inl rfl))), by decide⟩
  · exact ⟨.inr (.inr (.inr (.inr rfl))), by decide⟩
theorem st4 {rs : List Rule} {D : Addr} {k : Nat} {ws : List Value} (d5 : cell none o5) (n9 : rs.length ≤ 9) (ok : ∀ r ∈ rs, r.ok) (hw : IntsAre ws ((rs.length : Int) :: rs.flatMap fun r => [r.b, 2, r.h, r.l])) (hD : (D, listOf ws.toArray k) ∈ dl)
    (F : Fr g L h (fun y => if y = Str.ofString "row" then some (.ref D) else m₀ y)) (N : News g L h (led L o1 o2 o3 o4 o5 tabs dl))
    (next : ∀ (h' : Heap) (tk' : Nat) (tp Dt : Addr) (kt : Nat) (vs : List Value) (o5' : Obj) (m₁ : Str → Option Value) (dm : List (Addr × Obj)), cell (some (.ref Dt)) o5' → (∀ p ∈ dl, p ∈ dm) → (Dt, listOf vs.toArray kt) ∈ dm → RowsIn dm vs rs → TapeIn dm tp ((1 + 4 * rs.length : Nat) : Int) → (∃ p, ((134 : Addr), tabObj p) ∈ dm) → (∃ p, ((87 : Addr), tabObj p) ∈ dm) →
       Fr g L h' (fun y => if y = Str.ofString "tape" then some (.ref tp) else if y = Str.ofString "row" then some (.ref D) else m₁ y) → Dl L tabs3 dm → News g L h' (led L o1 o2 o3 o4 o5' tabs3 dm) → LawAt w L a 6 Q E ⟨h', gn, dr, tk', os⟩) :
    LawAt w L a 4 Q E ⟨h, gn, dr, tk, os⟩ := by
  run_tac Mine.Sh.mark
  focus
    obtain ⟨X, T, CH1, CH2, CH3, CH4, CH5⟩ := C
    have N0 := N
    unfold led tabs at N0
    simp only [List.cons_append, List.nil_append] at N0
    unfold LawAt
    run_tac expose
    clear N
    k_steps
    unfold Halt2
    rename Fr _ _ _ _ => Fo
    rename News _ _ _ _ => No
    have hwl := hw.length
    have hflat : (rs.flatMap fun r => [r.b, 2, r.h, r.l]).length ≤ 36 := by
      have := row_len (rs := rs) (j := rs.length) n9
      rwa [List.take_length] at this
    k_here
    refine kmk_add_ints Fo No (news_list No (by k_mem)) (news_list No (.head _)) hw (.cons _ _ (.cons _ _ .nil)) (fun D2 us h2 F2 N2 l2 hu => ?_) (by rw [sizeLine_eq, List.length_cons]; simp only [List.length_cons, List.length_nil]; omega)
    clear Fo No
    have hks : ((rs.length : Int) :: rs.flatMap fun r => [r.b, 2, r.h, r.l]) ++ [1, 7] = tapeInts rs := rfl
    rw [hks] at hu
    have htl : (tapeInts rs).length = 4 * rs.length + 3 := tape_len rs
    have hin := tape_in n9 ok
    k_steps
    unfold Halt2
    rename Fr _ _ _ _ => Fo
    rename News _ _ _ _ => No
    k_here
    refine KBa.make_K Fo No rfl (news_list No (.head _)) hu hin (by omega) fun h3 t3 k3 F3 N3 _ => ?_
    clear Fo No
    k_steps
    unfold Halt2
    rename Fr _ _ _ _ => Fo
    rename News _ _ _ _ => No
    have N1 : News g L h3 (led L o1 o2 o3 o4 o5 tabs dl) := sub_news No fun p hp => .tail _ (.tail _ hp)
    have ht87 := N1 (87, tabObj #[]) (.tail _ (.tail _ (.tail _ (.tail _ (.tail _ (.tail _ (.head _)))))))
    clear No
    refine law_tape w loose mean mg mb _ _ _ _ _ _ _ g _ (tapeInts rs) (KBa.ints_make hin) t3 _ ⟨Fo.keep⟩ (fun q hq => by cases List.mem_singleton.mp hq; exact ⟨ht87.1, ht87.2.2⟩) CH2 X T (by decide) (by decide) (by omega) fun tp tkf pl d fd es n ps h4 tk4 t4 kp4 e1 e2 e3 e4 ft e5 nw0 ⟨hb, hb1, hb2, Sp⟩ g87 => ?_
    have F4 : Fr g L h4 (fun y => if y = Str.ofString "row" then some (.ref D) else m₀ y) := but_fr (cs := [87]) Fo (fun b o hb => kp4 b o fun q => hb (q ▸ .head _)) fun c hc => by
      obtain rfl := List.mem_singleton.mp hc
      exact ⟨fun q => absurd lt.2.1 (q ▸ Nat.lt_irrefl _), ht87.2.2⟩
    have N4 : News g L h4 (led L o1 o2 o3 o4 o5 [(134, tabObj #[]), (87, tabObj ps), (57, tabObj #[]), (50, tabObj #[]), (146, tabObj #[])] dl) := led_tab ⟨g87, ht87.2⟩ <| but_news (cs := [87]) N1 (fun b o hb => kp4 b o fun q => hb (q ▸ .head _)) fun p hp => (led_less od tabs_87 (fun c hc => by
      obtain rfl := List.mem_singleton.mp hc
      exact ⟨lt.2.1, .tail _ (.head _)⟩) p hp)
    have lL : ∀ c ∈ [tp, d, pl, tkf], h3.get? c = none := nw0
    obtain ⟨nw, hn1, hn2⟩ := new_list h3 hb pl
    obtain ⟨fq1, fq2, fq3, fq4, ft1⟩ := id ft
    obtain ⟨of, eof⟩ : ∃ of, h4.get? tkf = some of := ⟨_, ft1⟩
    have hnew : ∀ p ∈ (tp, (⟨.type "function", some d, .func fd, #[]⟩ : Obj)) :: (d, dictOf es n) :: (tkf, of) :: (pl, listOf #[.int 0 t4] 0) :: nw, h3.get? p.1 = none ∧ h4.get? p.1 = some p.2 := fun p hp => by
      simp only [List.mem_cons] at hp
      rcases hp with rfl | rfl | rfl | rfl | hp
      · exact ⟨lL _ (.head _), e1⟩
      · exact ⟨lL _ (.tail _ (.head _)), e2⟩
      · exact ⟨lL _ (.tail _ (.tail _ (.tail _ (.head _)))), eof⟩
      · exact ⟨lL _ (.tail _ (.tail _ (.head _))), e5⟩
      · exact ⟨(hn2 p hp).2.2, hb1 _ _ (hn2 p hp).2.1⟩
    have N5 := led_app Fo N4 (fun p hp => (hnew p hp).1) fun p hp => (hnew p hp).2
    have od5 := dl_app N1 (fun p hp => (hnew p hp).1) od
    have np : ∀ p ∈ dl, p.1 ≠ pl := fun p hp q => by
      have h1 := (N1 p (mem_led hp)).1
      rw [q, lL _ (.tail _ (.tail _ (.head _)))] at h1; cases h1
    have np1 : tp ≠ pl := fun q => by
      rw [q] at e1
      exact absurd (Value.type.inj (congrArg Obj.cls (Option.some.inj (e1.symm.trans e5)))) (by decide)
    have np2 : d ≠ pl := fun q => by
      rw [q] at e2
      exact absurd (Value.type.inj (congrArg Obj.cls (Option.some.inj (e2.symm.trans e5)))) (by decide)
    have np3 : tkf ≠ pl := fun q => by rw [q, e5] at ft1; cases ft1
    have z87 := ht87.2
    clear Fo N1 N4 ht87 g87
    unfold led at N5
    simp only [List.cons_append, List.nil_append] at N5
    walk1
    k_steps
    unfold Halt2
    rename Fr _ _ _ _ => Fo
    rename News _ _ _ _ => No
    have hg : ∀ b o, g.get? b = some o → b ∉ [pl, 134] := fun b o e hm => by
      rcases List.mem_cons.mp hm with q | hm
      · rw [q, (No (pl, _) (by k_mem)).2.2] at e; cases e
      · rw [List.mem_singleton.mp hm, (No (134, _) (by k_mem)).2.2] at e; cases e
    have n134 : ∀ p ∈ (tp, (⟨.type "function", some d, .func fd, #[]⟩ : Obj)) :: (d, dictOf es n) :: (tkf, of) :: (pl, listOf #[.int 0 t4] 0) :: (nw ++ dl), p.1 ≠ (134 : Addr) := dl_c od5 (List.mem_append_right _ (.head _))
    have nin : ∀ b : Addr, b ≠ pl → b ≠ 134 → b ∉ [pl, 134] := fun b h1 h2 hm => by
      rcases List.mem_cons.mp hm with q | hm
      · exact h1 q
      · exact h2 (List.mem_singleton.mp hm)
    refine law_table w loose mean mg mb _ _ _ _ _ _ _ (hideAll _ [pl, 134]) hb tp d tkf pl fd es n 0 rs t4 (hideAll_get _ (No (tp, _) (by k_mem)).1 (nin _ np1 (n134 _ (.head _)))) (hideAll_get _ (No (d, _) (by k_mem)).1 (nin _ np2 (n134 _ (.tail _ (.head _))))) e3 ⟨_, _, _, _, hideAll_get _ ((No (tkf, of) (by k_mem)).1.trans (by rw [← eof]; exact ft1)) (nin _ np3 (n134 _ (.tail _ (.tail _ (.head _)))))⟩ Sp (fun b o hb' e => ?H1)
      ⟨fun b o e => of_hideAll _ e⟩ (fun q hq => ?Bs) (CH1.keeps fun b o e => hideAll_get _ (Fo.keep _ _ e) (hg b o e)) n9 (n134 _ (.tail _ (.tail _ (.tail _ (.head _))))) (X.keeps fun b o e => hideAll_get _ (Fo.keep _ _ e) (hg b o e)) (T.keeps fun b o e => hideAll_get _ (Fo.keep _ _ e) (hg b o e)) (by decide) (by decide) fun D9 vs k9 kp9 tpk9 tl h9 tk9 kk gD hR htl nDp nD gp ⟨p134, g134⟩ => ?_
    case H1 =>
      rcases hb2 b o e with e | e
      · exact hideAll_get _ (Fo.keep _ _ e) (hg b o e)
      · have hm := hn1 b o hb' (by assumption) e
        have hm2 : (b, o) ∈ (tp, (⟨.type "function", some d, .func fd, #[]⟩ : Obj)) :: (d, dictOf es n) :: (tkf, of) :: (pl, listOf #[.int 0 t4] 0) :: (nw ++ dl) := .tail _ (.tail _ (.tail _ (.tail _ (List.mem_append_left _ hm))))
        exact hideAll_get _ (No (b, o) (.tail _ (.tail _ (.tail _ (.tail _ (.tail _ (.tail _ (.tail _ (.tail _ (.tail _ (.tail _ hm2))))))))))).1 (nin _ hb' (n134 _ hm2))
    case Bs =>
      rcases List.mem_cons.mp hq with rfl | hq
      · exact ⟨(No (pl, _) (by k_mem)).1, hideAll_none _ (.head _)⟩
      · cases List.mem_singleton.mp hq
        exact ⟨(No (134, _) (by k_mem)).1, hideAll_none _ (.tail _ (.head _))⟩
    have F9 : Fr g L h9 (fun y => if y = Str.ofString "tape" then some (.ref tp) else if y = Str.ofString "row" then some (.ref D) else m₀ y) := but_fr (cs := [pl, 134]) Fo (fun b o hb => kk b o (fun q => hb (q ▸ .head _)) fun q => hb (q ▸ .tail _ (.head _))) fun c hc => by
      rcases List.mem_cons.mp hc with q | hc
      · rw [q]; exact (No (pl, _) (by k_mem)).2
      · rw [List.mem_singleton.mp hc]; exact (No (134, _) (by k_mem)).2
    have N8 : News g L _ (led L o1 o2 o3 o4 o5 [(134, tabObj #[]), (87, tabObj ps), (57, tabObj #[]), (50, tabObj #[]), (146, tabObj #[])] ((tp, (⟨.type "function", some d, .func fd, #[]⟩ : Obj)) :: (d, dictOf es n) :: (tkf, of) :: (pl, listOf #[.int 0 t4] 0) :: (nw ++ dl))) := No
    have hpl := od5 (pl, listOf #[.int 0 t4] 0) (.tail _ (.tail _ (.tail _ (.head _))))
    have hcell : ∀ c ∈ offL L [], c ∉ [pl, 134] := fun c hc hm => by
      rcases List.mem_cons.mp hm with q | hm
      · exact hpl c (by unfold offL at hc ⊢; exact List.mem_append_left _ (by simpa using hc)) q.symm
      · have q := List.mem_singleton.mp hm
        unfold offL at hc
        simp only [List.map_nil, List.append_nil, List.mem_cons, List.not_mem_nil, or_false] at hc
        have l134 := lt.1
        rcases hc with rfl | rfl | rfl | rfl | rfl
        · exact absurd q (show ¬ @Eq Nat (L + 1 + 1 + 1 + 1 + 1) 134 by omega)
        · exact absurd q (show ¬ @Eq Nat (L + 1 + 1 + 1 + 1) 134 by omega)
        · exact absurd q (show ¬ @Eq Nat (L + 1 + 1 + 1) 134 by omega)
        · exact absurd q (show ¬ @Eq Nat (L + 1 + 1) 134 by omega)
        · exact absurd q (show ¬ @Eq Nat (L + 1) 134 by omega)
    have N9 : News g L h9 (led L o1 o2 o3 o4 o5 [(57, tabObj #[]), (50, tabObj #[]), (146, tabObj #[])] ((tp, (⟨.type "function", some d, .func fd, #[]⟩ : Obj)) :: (d, dictOf es n) :: (tkf, of) :: (nw ++ dl))) :=
      but_news N8 (cs := [pl, 134]) (fun b o hb => kk b o (fun q => hb (q ▸ .head _)) fun q => hb (q ▸ .tail _ (.head _))) (led_cut hcell (tabs_134 fun p hp q => hpl p.1 (List.mem_append_right _ (List.mem_map.mpr ⟨p, .tail _ (.tail _ hp), rfl⟩)) q.symm) fun p hp => ?d9)
    case d9 =>
      have hm : p ∈ (tp, (⟨.type "function", some d, .func fd, #[]⟩ : Obj)) :: (d, dictOf es n) :: (tkf, of) :: (pl, listOf #[.int 0 t4] 0) :: (nw ++ dl) ∧ p.1 ≠ pl := by
        rcases List.mem_cons.mp hp with rfl | hp
        · exact ⟨.head _, np1⟩
        rcases List.mem_cons.mp hp with rfl | hp
        · exact ⟨.tail _ (.head _), np2⟩
        rcases List.mem_cons.mp hp with rfl | hp
        · exact ⟨.tail _ (.tail _ (.head _)), np3⟩
        refine ⟨.tail _ (.tail _ (.tail _ (.tail _ hp))), ?_⟩
        rcases List.mem_append.mp hp with hp | hp
        · exact (hn2 p hp).1
        · exact np p hp
      exact ⟨hm.1, nin _ hm.2 (n134 p hm.1)⟩
    have nb := nb134 (tb' := [(57, tabObj #[]), (50, tabObj #[]), (146, tabObj #[])]) Fo N8 lt.1 (.head _) (fun p hp => by
      refine ⟨.tail _ (.tail _ hp), fun q => ?_⟩
      simp only [List.mem_cons, List.not_mem_nil, or_false] at hp
      rcases hp with rfl | rfl | rfl <;> exact absurd q (by decide))
    have n87 : @Ne Nat 87 pl := fun q => hpl 87 (List.mem_append_right _ (.tail _ (.head _))) q.symm
    have k87 := kk 87 _ n87 (by decide) (N8 (87, tabObj ps) (.tail _ (.tail _ (.tail _ (.tail _ (.tail _ (.tail _ (.head _)))))))).1
    have z134 := (N8 (134, tabObj #[]) (.tail _ (.tail _ (.tail _ (.tail _ (.tail _ (.head _))))))).2
    have hs9 : ∀ p ∈ (D9, listOf vs.toArray k9) :: (pl, listOf #[.int ((1 + 4 * rs.length : Nat) : Int) tpk9] kp9) :: (134, tabObj p134) :: (87, tabObj ps) :: tl, h9.get? p.1 = some p.2 ∧ p.1 ≠ L ∧ g.get? p.1 = none := fun p hp => by
      rcases List.mem_cons.mp hp with rfl | hp
      · exact ⟨gD, (nb _ nD).1, (nb _ nD).2.1⟩
      rcases List.mem_cons.mp hp with rfl | hp
      · exact ⟨gp, (N8 (pl, _) (mem_led (.tail _ (.tail _ (.tail _ (.head _)))))).2⟩
      rcases List.mem_cons.mp hp with rfl | hp
      · exact ⟨g134, z134⟩
      rcases List.mem_cons.mp hp with rfl | hp
      · exact ⟨k87, z87⟩
      · exact ⟨(htl p hp).1, (nb _ (htl p hp).2.2).1, (nb _ (htl p hp).2.2).2.1⟩
    have N10 := led_app2 N9 hs9
    have od10 : Dl L tabs3 (((D9, listOf vs.toArray k9) :: (pl, listOf #[.int ((1 + 4 * rs.length : Nat) : Int) tpk9] kp9) :: (134, tabObj p134) :: (87, tabObj ps) :: tl) ++ ((tp, (⟨.type "function", some d, .func fd, #[]⟩ : Obj)) :: (d, dictOf es n) :: (tkf, of) :: (nw ++ dl))) := fun p hp => by
      rcases List.mem_append.mp hp with hp | hp
      · rcases List.mem_cons.mp hp with rfl | hp
        · exact (nb _ nD).2.2
        rcases List.mem_cons.mp hp with rfl | hp
        · exact dl_sub (dl' := [(pl, listOf #[.int 0 t4] 0)]) od5 (fun q hq => List.mem_singleton.mp hq ▸ .tail _ (.tail _ (.tail _ (.head _)))) tabs3_sub (pl, listOf #[.int 0 t4] 0) (.head _)
        rcases List.mem_cons.mp hp with rfl | hp
        · exact tab_off (b := 134) lt.1 (by decide)
        rcases List.mem_cons.mp hp with rfl | hp
        · exact tab_off (b := 87) lt.2.1 (by decide)
        · exact (nb _ (htl p hp).2.2).2.2
      · refine dl_sub od5 (fun q hq => ?_) tabs3_sub p hp
        rcases List.mem_cons.mp hq with rfl | hq
        · exact .head _
        rcases List.mem_cons.mp hq with rfl | hq
        · exact .tail _ (.head _)
        rcases List.mem_cons.mp hq with rfl | hq
        · exact .tail _ (.tail _ (.head _))
        · exact .tail _ (.tail _ (.tail _ (.tail _ hq)))
    have m1 : ∀ p ∈ dl, p ∈ ((D9, listOf vs.toArray k9) :: (pl, listOf #[.int ((1 + 4 * rs.length : Nat) : Int) tpk9] kp9) :: (134, tabObj p134) :: (87, tabObj ps) :: tl) ++ ((tp, (⟨.type "function", some d, .func fd, #[]⟩ : Obj)) :: (d, dictOf es n) :: (tkf, of) :: (nw ++ dl)) := fun p hp => List.mem_append_right _ (.tail _ (.tail _ (.tail _ (List.mem_append_right _ hp))))
    have m2 : (D9, listOf vs.toArray k9) ∈ ((D9, listOf vs.toArray k9) :: (pl, listOf #[.int ((1 + 4 * rs.length : Nat) : Int) tpk9] kp9) :: (134, tabObj p134) :: (87, tabObj ps) :: tl) ++ ((tp, (⟨.type "function", some d, .func fd, #[]⟩ : Obj)) :: (d, dictOf es n) :: (tkf, of) :: (nw ++ dl)) := .head _
    have m3 : RowsIn (((D9, listOf vs.toArray k9) :: (pl, listOf #[.int ((1 + 4 * rs.length : Nat) : Int) tpk9] kp9) :: (134, tabObj p134) :: (87, tabObj ps) :: tl) ++ ((tp, (⟨.type "function", some d, .func fd, #[]⟩ : Obj)) :: (d, dictOf es n) :: (tkf, of) :: (nw ++ dl))) vs rs := hR.mono fun p hp => .tail _ (.tail _ (.tail _ (.tail _ (List.mem_append_left _ hp))))
    have m4 : TapeIn (((D9, listOf vs.toArray k9) :: (pl, listOf #[.int ((1 + 4 * rs.length : Nat) : Int) tpk9] kp9) :: (134, tabObj p134) :: (87, tabObj ps) :: tl) ++ ((tp, (⟨.type "function", some d, .func fd, #[]⟩ : Obj)) :: (d, dictOf es n) :: (tkf, of) :: (nw ++ dl))) tp ((1 + 4 * rs.length : Nat) : Int) :=
      ⟨pl, d, fd, es, n, tpk9, kp9, List.mem_append_right _ (.head _), List.mem_append_right _ (.tail _ (.head _)), e4, .tail _ (.head _)⟩
    have m5 : ∃ p, ((134 : Addr), tabObj p) ∈ (((D9, listOf vs.toArray k9) :: (pl, listOf #[.int ((1 + 4 * rs.length : Nat) : Int) tpk9] kp9) :: (134, tabObj p134) :: (87, tabObj ps) :: tl) ++ ((tp, (⟨.type "function", some d, .func fd, #[]⟩ : Obj)) :: (d, dictOf es n) :: (tkf, of) :: (nw ++ dl))) := ⟨_, .tail _ (.tail _ (.head _))⟩
    have m6 : ∃ p, ((87 : Addr), tabObj p) ∈ (((D9, listOf vs.toArray k9) :: (pl, listOf #[.int ((1 + 4 * rs.length : Nat) : Int) tpk9] kp9) :: (134, tabObj p134) :: (87, tabObj ps) :: tl) ++ ((tp, (⟨.type "function", some d, .func fd, #[]⟩ : Obj)) :: (d, dictOf es n) :: (tkf, of) :: (nw ++ dl))) := ⟨_, .tail _ (.tail _ (.tail _ (.head _)))⟩
    generalize (((D9, listOf vs.toArray k9) :: (pl, listOf #[.int ((1 + 4 * rs.length : Nat) : Int) tpk9] kp9) :: (134, tabObj p134) :: (87, tabObj ps) :: tl) ++ ((tp, (⟨.type "function", some d, .func fd, #[]⟩ : Obj)) :: (d, dictOf es n) :: (tkf, of) :: (nw ++ dl))) = dm at N10 od10 m1 m2 m3 m4 m5 m6
    clear nb N8 N9 hs9 hpl hcell hg n134 nin np np1 np2 np3 htl Fo No gD gp nD kk nw0 hb1 hb2 hn1 hn2 od5
    change News g L h9 (led L o1 o2 o3 o4 o5 tabs3 dm) at N10
    have c5 := dl_c od10 (c := L + 1 + 1 + 1 + 1 + 1) (.head _)
    unfold led tabs3 at N10
    simp only [List.cons_append, List.nil_append] at N10
    walk1
    rename Fr _ _ _ _ => Fe
    rename News _ _ _ _ => Ne
    rename (_ = Data.cell _) => dc
    exact next _ _ tp D9 k9 vs _ _ dm dc m1 m2 m3 m4 m5 m6 Fe od10 Ne
  run_tac Mine.Sh.fin
end
section
variable {w : World} {loose : List Str} {mean : ExcName → Option Value} {mg mb : Str → Option Value} {g : Heap} (C : LawCtx w loose mean mg mb g)
    {L a : Addr} {h : Heap} {gn : Array GenState} {dr : Drawn} {tk : Nat} {os : OsState} {m₀ : Str → Option Value} {Q : Flow → Shared → Prop} {E : Value → Shared → Prop} (hE : PassesOwn (model prg w) (lawA L a) (lawEnv L a) E) {o1 o2 o3 o4 o5 : Obj} {dl : List (Addr × Obj)} (od : Dl L tabs3 dl) (lt : @LT.lt Nat _ 134 L ∧ @LT.lt Nat _ 87 L ∧ @LT.lt Nat _ 57 L ∧ @LT.lt Nat _ 50 L ∧ @LT.lt Nat _ 146 L)
include C od lt
section
local macro_rules | `(tactic| walk_at "eval ListComp") => Mine.Tx.line "(k_here; refine halt2 ?_)"
theorem st6 {rs : List Rule} {rl Dt : Addr} {kt : Nat} {vs : List Value} (d1 : cell (some (.ref rl)) o1) (d5 : cell (some (.ref Dt)) o5) (R : RsIn dl rl rs) (hT : (Dt, listOf vs.toArray kt) ∈ dl) (hR : RowsIn dl vs rs)
    (F : Fr g L h m₀) (N : News g L h (led L o1 o2 o3 o4 o5 tabs3 dl))
    (next : ∀ (h' : Heap) (tk' : Nat), Fr g L h' m₀ → News g L h' (led L o1 o2 o3 o4 o5 tabs3 dl) → LawAt w L a 7 Q E ⟨h', gn, dr, tk', os⟩) :
    LawAt w L a 6 Q E ⟨h, gn, dr, tk, os⟩ := by
  run_tac Mine.Sh.mark
  focus
    obtain ⟨X, T, CH1, CH2, CH3, CH4, CH5⟩ := C
    have N0 := N
    unfold led tabs3 at N0
    simp only [List.cons_append, List.nil_append] at N0
    unfold LawAt
    run_tac expose
    clear N
    obtain ⟨Nx, hNx⟩ : ∃ Nx : Shared → Prop, Nx = fun s' => LawAt w L a 7 Q E s' := ⟨_, rfl⟩
    refine law_one (Nx := Nx) (fun s' h => by rw [hNx] at h; exact h) ?_
    k_steps
    unfold Halt2
    obtain ⟨n4, n9, ok, vl, kv, mL, hvl, mR⟩ := R
    have mR' : ∀ (j : Nat) (r : Rule), rs[j]? = some r → ∃ v, vl[j]? = some v ∧ ∃ a t1 t2 t3, v = .ref a ∧ IsTup h a #[.int r.b t1, .int r.h t2, .int r.l t3] := fun j r e => by
      obtain ⟨v, ev, ar, t1, t2, t3, rfl, mr⟩ := mR j r e
      exact ⟨_, ev, ar, t1, t2, t3, rfl, _, (N0 _ (.tail _ (.tail _ (.tail _ (.tail _ (.tail _ (.tail _ (.tail _ (.tail _ mr)))))))) ).1, rfl, 0, rfl⟩
    refine comp_list (by exact rfl) (by decide) rfl (by decide) ?_
    k_steps
    rename Fr _ _ _ _ => Fo
    rename News _ _ _ _ => No
    have X2 := X.keeps Fo.keep
    have T2 := T.keeps Fo.keep
    refine ⟨h, rl, vl.toArray, [], fun i ys tl gn' => gn' = gn ∧ RowsIn tl ys (rs.take i), rfl, rfl, Sub.refl _, Nat.le_refl _, Beside.nil, news_list No (by k_mem), ?hz, ⟨rfl, rfl, fun _ _ _ h _ => nil_at h⟩, ?turn, ?fin⟩
    case hz =>
      rw [List.size_toArray, sizeLine_eq]; omega
    case turn =>
      rintro i v ys tl' C J D' oJ h10 gn10 m10 tk10 E' hv ⟨rfl, hys⟩ F10 N10 off10 ne10 hyl
      clear Fo No
      have hj : i < rs.length := by
        have := (Array.getElem?_eq_some_iff.mp hv).1
        rw [List.size_toArray, hvl] at this
        exact this
      obtain ⟨r, hr⟩ : ∃ r, rs[i]? = some r := ⟨_, List.getElem?_eq_getElem hj⟩
      obtain ⟨v', ev, ar, t1, t2, t3, rfl, oT, eT, cT, zT, dT⟩ := mR' i r hr
      obtain rfl : v = .ref ar := by
        rw [List.getElem?_toArray, ev] at hv
        exact (Option.some.inj hv).symm
      have hit : IsTup h10 ar #[.int r.b t1, .int r.h t2, .int r.l t3] := ⟨oT, F10.keep _ _ eT, cT, zT, dT⟩
      obtain ⟨b0, b1, h0, h1, l0, l1⟩ := ok r (List.mem_of_getElem? hr)
      k_steps
      rename Fr _ _ _ _ => Fe
      rename News _ _ _ _ => Ne
      rename (_ ∧ _ ∧ AllLt _ _) => l3
      show CEnd _ _ _ _ _ _ _ _ _ _ _
      refine ⟨_, _, _, _ :: tl', _, rfl, Fe, sub_news Ne swap3, fun p hp => ?_, rfl, ?_⟩
      · rcases List.mem_cons.mp hp with rfl | hp
        · exact ⟨Nat.ne_of_gt l3.1, Nat.ne_of_gt l3.2.1⟩
        · exact off10 p hp
      · rw [List.take_add_one, hr]
        exact rows_snoc hys
    case fin =>
      rintro D h10 gn10 tk10 ys tl' ⟨rfl, hys⟩ S10 hD10 gD hyl htl
      rw [List.size_toArray, hvl, List.take_length] at hys
      have F10 := sub_fr Fo S10
      have N1 : News g L h (led L o1 o2 o3 o4 o5 tabs3 dl) := No
      clear No
      have hm : ∀ p ∈ (D, LCg.lst ys) :: tl', h10.get? p.1 = some p.2 ∧ h.get? p.1 = none := fun p hp => by
        rcases List.mem_cons.mp hp with rfl | hp
        · exact ⟨gD, hD10⟩
        · exact ⟨(htl p hp).1, (htl p hp).2.1⟩
      have N10 := led_app Fo (grow_news N1 S10) (fun p hp => (hm p hp).2) fun p hp => (hm p hp).1
      k_here
      refine kqd_ne N10 (mem_led (List.mem_append_right _ hT)) rfl rfl (rows_dat hR) (fun p hp => mem_led (List.mem_append_right _ hp)) (mem_led (.head _)) rfl rfl (rows_dat hys) (fun p hp => mem_led (.tail _ (List.mem_append_left _ hp))) (rowD_ok ok) (rowD_ok ok) (by ke_room) ?_
      simp only [eq_self, decide_true, Bool.not_true]
      clear N10 hm Fo
      k_steps
      show Nx _
      rw [hNx]
      exact next _ _ F10 (grow_news N1 S10)
  run_tac Mine.Sh.fin
end
theorem st7 {rs : List Rule} {tp D : Addr} {k : Nat} {ws : List Value} (n9 : rs.length ≤ 9) (hT : TapeIn dl tp ((1 + 4 * rs.length : Nat) : Int)) (hD : (D, listOf ws.toArray k) ∈ dl) (hw : ws.length = 1 + 4 * rs.length)
    (F : Fr g L h (fun y => if y = Str.ofString "tape" then some (.ref tp) else if y = Str.ofString "row" then some (.ref D) else m₀ y)) (N : News g L h (led L o1 o2 o3 o4 o5 tabs3 dl))
    (next : ∀ (h' : Heap) (tk' : Nat), Fr g L h' (fun y => if y = Str.ofString "tape" then some (.ref tp) else if y = Str.ofString "row" then some (.ref D) else m₀ y) → News g L h' (led L o1 o2 o3 o4 o5 tabs3 dl) → LawAt w L a 8 Q E ⟨h', gn, dr, tk', os⟩) :
    LawAt w L a 7 Q E ⟨h, gn, dr, tk, os⟩ := by
  run_tac Mine.Sh.mark
  focus
    obtain ⟨X, T, CH1, CH2, CH3, CH4, CH5⟩ := C
    have N0 := N
    unfold led tabs3 at N0
    simp only [List.cons_append, List.nil_append] at N0
    obtain ⟨pl, d, fd, es, n, t, kp, hT1, hT2, hT3, hT4⟩ := hT
    unfold LawAt
    run_tac expose
    clear N
    obtain ⟨Nx, hNx⟩ : ∃ Nx : Shared → Prop, Nx = fun s' => LawAt w L a 8 Q E s' := ⟨_, rfl⟩
    refine law_one (Nx := Nx) (fun s' h => by rw [hNx] at h; exact h) ?_
    k_steps
    rename Fr _ _ _ _ => Fo
    rename News _ _ _ _ => No
    k_here
    refine getattr_fn (No (tp, _) (by k_mem)).1 (No (d, _) (by k_mem)).1 rfl fn_place hT3 fun tk' => ?_
    k_steps
    dsimp only
    k_here
    refine item_ledE 0 No (its := #[Value.int ((1 + 4 * rs.length : Nat) : Int) t]) (w' := Value.int ((1 + 4 * rs.length : Nat) : Int) t) (by k_mem) rfl (by decide) rfl ?_
    k_steps
    unfold Halt2
    rename Fr _ _ _ _ => Fo
    rename News _ _ _ _ => No
    k_here
    refine len_list (items := ws.toArray) (news_list No (by k_mem)) (by rw [List.size_toArray]; omega) ?_
    rw [List.size_toArray, hw]
    k_steps
    · rename (_ ≠ _) => hne
      exact absurd rfl hne
    · rename Fr _ _ _ _ => Fe
      rename News _ _ _ _ => Ne
      show Nx _
      rw [hNx]
      exact next _ _ Fe Ne
  run_tac Mine.Sh.fin
section
local macro_rules | `(tactic| walk_at "call type:range") => Mine.Tx.line "(k_here; (k_dflt (refine' range_led ?F ?N ?_; (case F => k_asm); (case N => k_asm))); intro r' h' tk' t' u' v' F' N' l1; (try k_lt l1); (try k_sweep))"
theorem st8 {rs : List Rule} {rl : Addr} (d1 : cell (some (.ref rl)) o1) (R : RsIn dl rl rs)
    (F : Fr g L h m₀) (N : News g L h (led L o1 o2 o3 o4 o5 tabs3 dl))
    (next : ∀ (h' : Heap) (tk' : Nat) (D : Addr) (k : Nat) (ws : List Value), IntsAre ws ((List.range rs.length).map fun (i : Nat) => (i : Int)) → Fr g L h' (fun y => if y = Str.ofString "places" then some (.ref D) else m₀ y) →
       Dl L tabs3 ((D, listOf ws.toArray k) :: dl) → News g L h' (led L o1 o2 o3 o4 o5 tabs3 ((D, listOf ws.toArray k) :: dl)) → LawAt w L a 9 Q E ⟨h', gn, dr, tk', os⟩) :
    LawAt w L a 8 Q E ⟨h, gn, dr, tk, os⟩ := by
  run_tac Mine.Sh.mark
  focus
    obtain ⟨X, T, CH1, CH2, CH3, CH4, CH5⟩ := C
    have N0 := N
    unfold led tabs3 at N0
    simp only [List.cons_append, List.nil_append] at N0
    obtain ⟨n4, n9, ok, vl, kv, mL, hvl, mR⟩ := R
    unfold LawAt
    run_tac expose
    clear N
    obtain ⟨Nx, hNx⟩ : ∃ Nx : Shared → Prop, Nx = fun s' => LawAt w L a 9 Q E s' := ⟨_, rfl⟩
    refine law_one (Nx := Nx) (fun s' h => by rw [hNx] at h; exact h) ?_
    k_steps
    unfold Halt2
    refine rcomp_assign (m := m₀) (by with_unfolding_all rfl) (by exact rfl) (by decide) rfl (by decide) (by rfl) (by rfl) ?_
    k_steps
    unfold Halt2
    rename Fr _ _ _ _ => Fo
    rename News _ _ _ _ => No
    k_here
    refine len_list (items := vl.toArray) (news_list No (by k_mem)) (by rw [List.size_toArray]; omega) ?_
    rw [List.size_toArray, hvl]
    k_steps
    rename Fr _ _ _ _ => Fo
    rename News _ _ _ _ => No
    rename_i r2 h2 _ t2 u2 v2 _
    have hns := Fo.ns
    refine ⟨h2, r2, rs.length, t2, u2, v2, [], fun i ys tl gn' => gn' = gn ∧ tl = [] ∧ IntsAre ys ((List.range i).map fun (i : Nat) => (i : Int)), rfl, rfl, Sub.refl _, Nat.le_refl _, Beside.nil, News.get No (by k_mem), small_n ⟨rs.length, by omega⟩, by rw [sizeLine_eq]; omega, ⟨rfl, rfl, .nil⟩, ?turn, Fo.ns, ?fin⟩
    case turn =>
      rintro i t ys tl' C J D' oJ h10 gn10 m10 tk10 E' hi ⟨rfl, rfl, hys⟩ F10 N10 off10 ne10 hyl
      clear Fo No
      k_steps
      rename Fr _ _ _ _ => Fe
      rename News _ _ _ _ => Ne
      refine ⟨_, _, _, [], _, rfl, Fe, Ne, by simp, rfl, rfl, ?_⟩
      rw [List.range_succ, List.map_append]
      exact ksk_snoc hys
    case fin =>
      rintro D h10 gn10 tk10 ys tl' ⟨rfl, rfl, hys⟩ kp hns hD gD hyl htl
      have N1 : News g L h2 (led L o1 o2 o3 o4 o5 tabs3 dl) := sub_news No fun p hp => .tail _ hp
      have N2 : News g L h10 (led L o1 o2 o3 o4 o5 tabs3 dl) := back_news N1 kp fun p hp => hp
      show Nx _
      rw [hNx]
      exact next h10 tk10 D _ ys hys (back_fr Fo kp hns) (dl_cons N1 hD od) (led_cons N2 (new_news Fo hD gD))
  run_tac Mine.Sh.fin
end
section
local macro_rules | `(tactic| walk_at "eval Lambda") => Mine.Tx.line "(k_here; refine halt2 ?_)"
include hE in
theorem st9 {rs : List Rule} {Dt Dp : Addr} {kt : Nat} {vs : List Value} (n4 : 4 ≤ rs.length) (n9 : rs.length ≤ 9) (ok : ∀ r ∈ rs, r.ok) (d4 : cell none o4) (d5 : cell (some (.ref Dt)) o5) (hT : (Dt, listOf vs.toArray kt) ∈ dl) (hR : RowsIn dl vs rs)
    (F : Fr g L h (fun y => if y = Str.ofString "places" then some (.ref Dp) else m₀ y)) (N : News g L h (led L o1 o2 o3 o4 o5 tabs3 dl))
    (next : ∀ (h' : Heap) (tk' : Nat) (D : Addr) (k : Nat) (hs : List Value) (c1 : Addr) (o4' : Obj) (m₁ : Str → Option Value) (dm : List (Addr × Obj)), cell (some (.ref D)) o4' → (∀ p ∈ dl, p ∈ dm) → (D, listOf hs.toArray k) ∈ dm → HeldIn dm hs (headsL rs) →
       Fr g L h' (fun y => if y = Str.ofString "places" then some (.ref Dp) else m₁ y) → Dl L tabs3 dm → News g L h' (led L o1 o2 o3 o4' o5 (tabsP #[rawInt 221, rawInt 24, .ref c1]) dm) → LawAt w L a 11 Q E ⟨h', gn, dr, tk', os⟩) :
    LawAt w L a 9 Q E ⟨h, gn, dr, tk, os⟩ := by
  run_tac Mine.Sh.mark
  focus
    obtain ⟨X, T, CH1, CH2, CH3, CH4, CH5⟩ := C
    have N0 := N
    unfold led tabs3 at N0
    simp only [List.cons_append, List.nil_append] at N0
    unfold LawAt
    run_tac expose
    clear N
    obtain ⟨Nx, hNx⟩ : ∃ Nx : Shared → Prop, Nx = fun s' => LawAt w L a 11 Q E s' := ⟨_, rfl⟩
    refine law_two (Nx := Nx) (fun s' h => by rw [hNx] at h; exact h) ?_
    k_steps
    unfold Halt2
    rename Fr _ _ _ _ => Fo
    rename News _ _ _ _ => No
    rename_i D h1 l1 h2 o4' d4'
    refine for_items (items := vs.toArray) (k := kt) hE rfl (fun j l m => ∃ (kk : Nat) (hs : List Value) (tl : List (Addr × Obj)) (ps : Array Value) (m₁ : Str → Option Value), (m = fun y => if y = Str.ofString "places" then some (.ref Dp) else m₁ y) ∧ l = (D, listOf hs.toArray kk) :: led L o1 o2 o3 o4' o5 (tabsP ps) (tl ++ dl) ∧
        ((j = 0 ∧ ps = #[]) ∨ LamIn tl 221 24 ps ((lawEnv L a).qual ++ "<lambda>")) ∧ Dl L tabs3 tl ∧ (∀ p ∈ tl, p.1 ≠ D) ∧ HeldIn tl hs ((headsL rs).take j))
      (fun j l m q => by obtain ⟨kk, hs, tl, ps, m₁, _, e, _⟩ := q; subst e; exact .tail _ (mem_led (List.mem_append_right _ hT))) ⟨0, [], [], #[], m₀, ?P0⟩ Fo No ?turn ?fin
    case P0 =>
      exact ⟨rfl, rfl, .inl ⟨rfl, rfl⟩, dl_nil', (fun _ h => nil_in h), rfl, fun i p e => nil_at e⟩
    case turn =>
      rintro j v I o h3 tk3 l m hv ⟨kk, hs, tl, ps, m₁, rfl, rfl, hL, oD, neD, hH⟩ F3 N3 ne3
      clear Fo No
      unfold led tabsP at N3
      simp only [List.cons_append, List.nil_append] at N3
      have hj : j < rs.length := by
        have := (Array.getElem?_eq_some_iff.mp hv).1
        rw [List.size_toArray, hR.1] at this
        exact this
      obtain ⟨r, hr⟩ : ∃ r, rs[j]? = some r := ⟨_, List.getElem?_eq_getElem hj⟩
      have hv' : vs[j]? = some v := by simpa using hv
      obtain ⟨ar, t1, t2, rfl, mr⟩ := hR.2 j v r hv' hr
      have mr' := List.mem_append_right tl mr
      k_steps
      unfold Halt2
      rename Fr _ _ _ _ => Fo
      rename News _ _ _ _ => No
      have No2 : News g L _ ((I, o) :: (D, listOf hs.toArray kk) :: led L o1 o2 o3 o4' o5 (tabsP ps) (tl ++ dl)) := No
      refine kla_eval (by exact rfl) ?_
      have nI : @Ne Nat I 146 := fun q => ne3 (146, tabObj ps) (.tail _ (.tail _ (.tail _ (.tail _ (.tail _ (.tail _ (.tail _ (.tail _ (.head _))))))))) q.symm
      have nD : @Ne Nat D 146 := by omega
      refine lam_law Fo No2 T CH5 od oD (fun p hp => ⟨ne3 p (.tail _ (mem_led (List.mem_append_left _ hp))), neD p hp⟩) lt.2.2.2.2 nI nD rfl rfl (hL.imp And.right id) rfl fun f c' oc vs1 t9 ctv h4 tk4 tl' F4 N4 st' mc dc vc oD' ne' => ?_
      clear Fo No No2
      unfold led tabsP at N4
      simp only [List.cons_append, List.nil_append] at N4
      k_steps
      unfold Halt2
      rename Fr _ _ _ _ => Fo
      rename News _ _ _ _ => No
      have gf := (No (f, _) (.head _)).1
      have gc := (No (c', oc) (.tail _ (.tail _ (.tail _ (.tail _ (.tail _ (.tail _ (.tail _ (.tail _ (.tail _ (.tail _ (.tail _ (List.mem_append_left _ mc)))))))))))) ).1
      k_here
      refine reduce_K w loose mean mg mb _ _ _ _ _ _ _ h4 [] f (.str ⟨#[r.h.toNat, r.l.toNat]⟩ t2) (.int 0 _) ⟨_, _, _, _, gf⟩ 2 (SignAt ⟨#[r.h.toNat, r.l.toNat]⟩) (fun j v bl => bl = [] ∧ ∃ t, v = .int ([0, r.h, numR r].getD j 0) t) ⟨rfl, _, rfl⟩
        (.int 0 _) (iters_str _ _) (Sub.refl _) Beside.nil (X.keeps Fo.keep) (T.keeps Fo.keep) (by decide) (by decide) ?hcall ?hret
      case hret =>
        rintro v bl h5 tk5 ⟨rfl, t5, rfl⟩ kp nb
        have S5 : Sub h4 h5 := ⟨fun b o e => kp b o (fun _ h => nil_in h) e⟩
        have F5 := sub_fr Fo S5
        have N5 := grow_news (sub_news No (fun p hp => .tail _ hp)) S5
        have cD : ∀ p ∈ tl' ++ dl, p.1 ≠ D := fun p hp => by
          rcases List.mem_append.mp hp with hp | hp
          · exact (ne' p hp).2
          · exact Nat.ne_of_lt (allLt_mem l1.2.2.2.2.2.2.2.2 hp)
        have hsl : hs.length < 10 := by
          have := hH.1
          rw [List.length_take] at this
          omega
        have nDI : @Ne Nat I D := fun q => ne3 (D, listOf hs.toArray kk) (.head _) q.symm
        clear Fo No gf gc kp nb S5
        rw [show [0, r.h, numR r].getD 2 0 = numR r from rfl]
        obtain ⟨b0, b1, h0, h1', l0, l1'⟩ := ok r (List.mem_of_getElem? hr)
        have hnum : 0 ≤ numR r ∧ numR r ≤ 65535 := by unfold numR; omega
        k_steps
        rename Fr _ _ _ _ => Fe
        rename News _ _ _ _ => Ny
        rename (@LT.lt Nat _ I _ ∧ @LT.lt Nat _ D _ ∧ _) => l9
        obtain ⟨q1, q2, q3, q4, q5, q6, q7, q8, q9, q10, q11⟩ := l9
        have F9 := Fr.wrap Fe (Str.ofString "places") (some (.ref Dp)) (by kernel_rfl!)
        clear Fe
        rw [List.push_toArray] at Ny
        refine headOf Ny fun D2 hD2 => ?_
        subst hD2
        have neI : ∀ c ∈ offL L tabs3, @Ne Nat c I := fun c hc => by
          obtain ⟨o', hm⟩ := offL_in (L := L) (o1 := o1) (o2 := o2) (o3 := o3) (o4 := o4') (o5 := o5) (tb := tabsP ps) (dl := tl ++ dl) c hc
          exact ne3 _ (.tail _ hm)
        refine ⟨rfl, _, _, _, _, rfl, F9, sub_news Ny (fun p hp => lam_mem (ps := #[rawInt 221, rawInt 24, .ref c']) p hp), ?_, kk + 1, hs ++ [.ref D2], _ :: tl', _, _, rfl, rfl, .inr ⟨c', oc, vs1, t9, rfl, .tail _ mc, dc, vc⟩, dl_join (a := [(D2, _)]) (dl_lt3 ⟨q3, q4, q5, q6, q7⟩ ⟨q8, q9, q10⟩) oD', ?_, ?_⟩
        · intro p hp
          rcases List.mem_cons.mp hp with rfl | hp
          · exact nDI.symm
          · refine led_ne neI (fun p hp => ?_) p hp
            rcases List.mem_append.mp hp with hp | hp
            · rcases List.mem_cons.mp hp with rfl | hp
              · exact Nat.ne_of_gt q1
              · exact (ne' p hp).1
            · exact ne3 p (.tail _ (mem_led (List.mem_append_right _ hp)))
        · intro p hp
          rcases List.mem_cons.mp hp with rfl | hp
          · exact Nat.ne_of_gt q2
          · exact (ne' p hp).2
        · rw [List.take_add_one, heads_at hr]
          exact held_snoc (hH.mono st')
      case hcall =>
        rintro jj v x bl dp' un' fr' gd' h5 tk5 Q' E' hjj hdp hun ⟨rfl, t5, rfl⟩ ⟨c, u, hc, rfl⟩ hk hbl hnone hq
        obtain ⟨v0, hv0⟩ : ∃ v0, [0, r.h, numR r].getD jj 0 = v0 := ⟨_, rfl⟩
        rw [hv0]
        have gkeep : ∀ b o, g.get? b = some o → h5.get? b = some o := fun b o e => hk b o (Fo.keep b o e)
        have X5 := X.keeps gkeep
        have T5 := T.keeps gkeep
        have gf := hk _ _ gf
        have gc := hk _ _ gc
        clear Fo No mr mr' hR
        refine wpAny_call ?_
        refine enterGL (binds := [(Str.ofString "total", .int v0 t5), (Str.ofString "sign", .str ⟨#[c]⟩ u)]) T5 (Sub.refl _) (Nat.le_refl _) Beside.nil gf rfl ⟨c', oc, vs1, t9, rfl, gc, dc, vc⟩ (Nat.lt_of_le_of_lt hdp (by decide)) (BindsTo.of_eq rfl) (locs rfl) ?_ rfl rfl rfl (by decide)
        intro L3 h6 F6 N6 l6
        k_steps
        obtain ⟨b0, b1, h0, h1', l0, l1'⟩ := ok r (List.mem_of_getElem? hr)
        have hv1 : 256 * v0 + (c : Int) = [0, r.h, numR r].getD (jj + 1) 0 := by
          match jj, hjj, hc, hv0 with
          | 0, _, hc, hv0 =>
            have e1 : r.h.toNat = c := Option.some.inj hc
            have e2 : (0 : Int) = v0 := hv0
            show _ = r.h
            omega
          | 1, _, hc, hv0 =>
            have e1 : r.l.toNat = c := Option.some.inj hc
            have e2 : r.h = v0 := hv0
            show _ = numR r
            unfold numR
            omega
        exact hq _ [] _ _ (fun b o _ e => F6.keep b o e) (fun p hp => nil_in hp) ⟨rfl, _, by rw [← hv1]⟩
    case fin =>
      rintro h3 tk3 l m ⟨kk, hs, tl, ps, m₁, rfl, rfl, hL, oD, neD, hH⟩ F3 N3
      rw [List.size_toArray, hR.1] at hL hH
      rw [List.take_of_length_le (by unfold headsL; rw [List.length_map]; exact Nat.le_refl _)] at hH
      rcases hL with ⟨hz, _⟩ | ⟨c', oc, vs1, t9, rfl, _, _, _⟩
      · omega
      show Nx _
      rw [hNx]
      refine next _ _ D kk hs c' o4' m₁ ((D, listOf hs.toArray kk) :: (tl ++ dl)) d4' (fun p hp => .tail _ (List.mem_append_right _ hp)) (.head _) (hH.mono fun p hp => .tail _ (List.mem_append_left _ hp)) F3 (dl_join (a := [(D, _)]) (dl_lt3 ⟨l1.1, l1.2.1, l1.2.2.1, l1.2.2.2.1, l1.2.2.2.2.1⟩ ⟨l1.2.2.2.2.2.1, l1.2.2.2.2.2.2.1, l1.2.2.2.2.2.2.2.1⟩) (dl_join oD od)) (sub_news N3 led_sub1)
  run_tac Mine.Sh.fin
end
section
local macro_rules | `(tactic| walk_at $k) => Mine.Tx.look k.getString "call builtin:sorted ==> (k_here; refine halt2 ?_)
compareOp Gt ref ref ==> (k_here; refine halt2 ?_)
compareOp Lt ref ref ==> (k_here; refine halt2 ?_)
subscriptTail Name Name ref int ==> (k_here; k_dflt (refine item_baseL _ (by with_reducible assumption) (by with_reducible assumption) rfl (by with_reducible assumption) (by with_reducible assumption) ?_))
eval Name ==> (k_here; kc_free; (k_dflt (refine nameX_base (by with_reducible assumption) (by rfl) (by with_reducible assumption) (by with_reducible assumption) ?_)))"
theorem st11 {rs : List Rule} {Dh Dp c1 : Addr} {kh kp : Nat} {hs ps : List Value} (n4 : 4 ≤ rs.length) (n9 : rs.length ≤ 9) (ok : ∀ r ∈ rs, r.ok) (d4 : cell (some (.ref Dh)) o4) (hD : (Dh, listOf hs.toArray kh) ∈ dl) (hH : HeldIn dl hs (headsL rs))
    (hP : (Dp, listOf ps.toArray kp) ∈ dl) (hp : IntsAre ps ((List.range rs.length).map fun (i : Nat) => (i : Int)))
    (F : Fr g L h (fun y => if y = Str.ofString "places" then some (.ref Dp) else m₀ y)) (N : News g L h (led L o1 o2 o3 o4 o5 (tabsP #[rawInt 221, rawInt 24, .ref c1]) dl))
    (next : ∀ (h' : Heap) (tk' : Nat) (Do c2 : Addr) (ko : Nat) (vo : List Value) (dm : List (Addr × Obj)), (∀ p ∈ dl, p ∈ dm) → (Do, listOf vo.toArray ko) ∈ dm → (∃ p, ((57 : Addr), tabObj p) ∈ dm) → IntsAre vo ((ordL (rkP (headsL rs)) rs.length).map fun (i : Nat) => (i : Int)) → Fr g L h' (fun y => if y = Str.ofString "order" then some (.ref Do) else if y = Str.ofString "places" then some (.ref Dp) else m₀ y) →
       Dl L (tabsQ #[]) dm → News g L h' (led L o1 o2 o3 o4 o5 (tabsQ #[rawInt 221, rawInt 24, .ref c1, rawInt 223, rawInt 42, .ref c2]) dm) → LawAt w L a 12 Q E ⟨h', gn, dr, tk', os⟩) :
    LawAt w L a 11 Q E ⟨h, gn, dr, tk, os⟩ := by
  run_tac Mine.Sh.mark
  focus
    obtain ⟨X, T, CH1, CH2, CH3, CH4, CH5⟩ := C
    have N0 := N
    unfold led tabsP at N0
    simp only [List.cons_append, List.nil_append] at N0
    unfold LawAt
    run_tac expose
    clear N
    obtain ⟨Nx, hNx⟩ : ∃ Nx : Shared → Prop, Nx = fun s' => LawAt w L a 12 Q E s' := ⟨_, rfl⟩
    refine law_one (Nx := Nx) (fun s' h => by rw [hNx] at h; exact h) ?_
    have c146 := dl_c od (c := 146) (by unfold offL tabs3; exact List.mem_append_right _ (.tail _ (.tail _ (.head _))))
    k_steps
    unfold Halt2
    rename Fr _ _ _ _ => Fo
    rename News _ _ _ _ => No
    rename_i f c2 oc vs2 t2 ct2 h4 tk4 d1 d2 l1 l2
    k_here
    have z57 := (No (57, tabObj #[]) (by k_mem)).2
    have g57 : g.get? 57 = none := z57.2
    have hgk : ∀ b o, g.get? b = some o → (hideAll h4 [57]).get? b = some o := fun b o e => hideAll_get _ (Fo.keep _ _ e) (fun hm => by rw [List.mem_singleton.mp hm, g57] at e; cases e)
    refine cmp_to_key w loose mean mg mb _ _ _ _ _ _ _ (hideAll h4 [57]) f ⟨fun b o e => of_hideAll _ e⟩ (fun q hq => ?Bs) (CH3.keeps hgk) (X.keeps hgk) (T.keeps hgk) (by decide) (by decide) fun C bl h5 tk5 kp5 nb5 KM KL ⟨p57, e57⟩ => ?_
    case Bs =>
      cases List.mem_singleton.mp hq
      exact ⟨(No _ (by k_mem)).1, hideAll_none _ (.head _)⟩
    have nf : @Ne Nat f 57 := by omega
    have nc : @Ne Nat c2 57 := by omega
    have gf := kp5 f _ nf (No (f, _) (.head _)).1
    have gc := kp5 c2 _ nc (No (c2, _) (.tail _ (.head _))).1
    have F5 := but_fr (cs := [57]) Fo (fun b o hb => kp5 b o fun q => hb (q ▸ .head _)) fun c hc => by
      rw [List.mem_singleton.mp hc]; exact (No (57, tabObj #[]) (by k_mem)).2
    have N4 : News g L h4 (led L o1 o2 o3 o4 o5 (tabsP #[rawInt 221, rawInt 24, .ref c1, rawInt 223, rawInt 42, .ref c2]) dl) := sub_news No fun p hp => .tail _ (.tail _ hp)
    have N5 : News g L h5 (led L o1 o2 o3 o4 o5 (tabsQ #[rawInt 221, rawInt 24, .ref c1, rawInt 223, rawInt 42, .ref c2]) dl) := but_news (cs := [57]) N4 (fun b o hb => kp5 b o fun q => hb (q ▸ .head _)) (led_less (tb := tabsP #[rawInt 221, rawInt 24, .ref c1, rawInt 223, rawInt 42, .ref c2]) od tabsQ_less fun c hc => by
      cases List.mem_singleton.mp hc
      exact ⟨lt.2.2.1, .head _⟩)
    have S5 : Sub (hideAll h4 [57]) h5 := ⟨fun b o e => kp5 b o (fun q => by subst q; rw [hideAll_none _ (.head _)] at e; cases e) (of_hideAll _ e)⟩
    clear N4 Fo No
    unfold led tabsQ at N5
    simp only [List.cons_append, List.nil_append] at N5
    k_steps
    unfold Halt2
    rename Fr _ _ _ _ => Fo
    rename News _ _ _ _ => No
    k_here
    have hpl : ps.length = rs.length := by have := hp.length; rw [List.length_map, List.length_range] at this; exact this
    refine sorted_K (w := w) (h₀ := hideAll h4 [57]) (bl := bl) (vs := ps) (rk := rkP (headsL rs)) (fc := f) (C := C) KM KL ?CS S5 (fun p hp => (nb5 p hp).1) ⟨_, _, _, _, gf⟩ ?hin (news_list No (by k_mem)) (by omega) (by omega) (by decide) (by decide) fun D h6 tk6 cc kp6 nD gD => ?_
    case hin => exact ints_in hp
    case CS =>
      intro i j x y hx hy dp' un' fr' gd' s Q' E' hdp hun hk hq
      obtain ⟨xi, ti, rfl, hxi⟩ := ints_item hp hx
      obtain ⟨xj, tj, rfl, hxj⟩ := ints_item hp hy
      obtain ⟨hi, rfl⟩ := range_item hxi
      obtain ⟨hj, rfl⟩ := range_item hxj
      obtain ⟨ri, hri⟩ : ∃ r, rs[i]? = some r := ⟨_, List.getElem?_eq_getElem hi⟩
      obtain ⟨rj, hrj⟩ : ∃ r, rs[j]? = some r := ⟨_, List.getElem?_eq_getElem hj⟩
      obtain ⟨ai, t1i, t2i, ei, mi⟩ := hH.2 i _ (heads_at hri)
      obtain ⟨aj, t1j, t2j, ej, mj⟩ := hH.2 j _ (heads_at hrj)
      obtain ⟨hp0, gn0, dr0, tk0, os0⟩ := s
      dsimp only at hk hq ⊢
      have hlD : hp0.IsList Dh hs.toArray := isList_keeps (news_list No (by k_mem)) hk
      have o4h : hp0.get? (L + 1 + 1 + 1 + 1) = some o4 := hk _ _ (No (L + 1 + 1 + 1 + 1, o4) (by k_mem)).1
      have d4' : o4.data = .cell (some (.ref Dh)) := d4
      have gi : hp0.get? ai = some (tupO [.int (headR ri) t1i, .int ri.b t2i]) := hk _ _ (No (ai, _) (by k_mem)).1
      have gj : hp0.get? aj = some (tupO [.int (headR rj) t1j, .int rj.b t2j]) := hk _ _ (No (aj, _) (by k_mem)).1
      have gf := hk _ _ gf
      have gc := hk _ _ gc
      have ei : hs.toArray[i]? = some (.ref ai) := by simpa using ei
      have ej : hs.toArray[j]? = some (.ref aj) := by simpa using ej
      have i63 : (i : Int) < 2 ^ 63 := by omega
      have j63 : (j : Int) < 2 ^ 63 := by omega
      have X5 := X.keeps fun b o e => hk b o (Fo.keep b o e)
      have T5 := T.keeps fun b o e => hk b o (Fo.keep b o e)
      clear Fo No
      refine wpAny_call ?_
      refine enterGL (binds := [(Str.ofString "a", .int (i : Int) ti), (Str.ofString "b", .int (j : Int) tj)]) T5 (Sub.refl _) (Nat.le_refl _) Beside.nil gf rfl ⟨c2, oc, vs2, t2, rfl, gc, d1, d2⟩ (Nat.lt_of_le_of_lt hdp (by decide)) (BindsTo.of_eq rfl) (locs rfl) ?_ rfl rfl rfl (by decide)
      intro L3 h6 F6 N6 l6
      have d1 := d1
      k_steps
      obtain ⟨bi0, bi1, _⟩ := ok ri (List.mem_of_getElem? hri)
      obtain ⟨bj0, bj1, _⟩ := ok rj (List.mem_of_getElem? hrj)
      unfold Halt2
      rename Fr _ _ _ _ => Fo
      rename News _ _ _ _ => No
      k_here
      refine cmp_gt (Fo.keep _ _ gi) (Fo.keep _ _ gj) (show un' + 3 < cLine from Nat.lt_of_le_of_lt (Nat.add_le_add_right hun 3) (by decide)) ?_
      rw [pair_gt bi0 (by omega) bj0 (by omega), ← rk_at hri, ← rk_at hrj]
      k_steps
      unfold Halt2
      rename Fr _ _ _ _ => Fo
      rename News _ _ _ _ => No
      k_here
      refine cmp_lt (Fo.keep _ _ gi) (Fo.keep _ _ gj) (show un' + 3 < cLine from Nat.lt_of_le_of_lt (Nat.add_le_add_right hun 3) (by decide)) ?_
      rw [pair_lt bi0 (by omega) bj0 (by omega), ← rk_at hri, ← rk_at hrj]
      clear bi0 bi1 bj0 bj1 X5 T5
      generalize rkP (headsL rs) i = x at hq ⊢
      generalize rkP (headsL rs) j = y at hq ⊢
      k_steps
      rename Fr _ _ _ _ => Fe
      exact hq _ _ _ _ (fun b o e => Fe.keep b o e) b2i_lt
    have hn : 1 ≤ rs.length := by omega
    rw [hpl] at gD
    have hv := ord_vals hp (ord_low (rk := rkP (headsL rs)) hn)
    have gD' : h6.get? D = some (listOf ((ordL (rkP (headsL rs)) rs.length).map fun i => ps.getD i Value.none).toArray cc) := gD
    generalize hvo : ((ordL (rkP (headsL rs)) rs.length).map fun i => ps.getD i Value.none) = vo at gD' hv
    have S6 : Sub h5 h6 := ⟨kp6⟩
    have N1 : News g L h5 (led L o1 o2 o3 o4 o5 (tabsQ #[rawInt 221, rawInt 24, .ref c1, rawInt 223, rawInt 42, .ref c2]) dl) := No
    have N6 := led_cons (q := (57, tabObj p57)) (led_cons (q := (D, listOf vo.toArray cc)) (grow_news N1 S6) (new_news Fo nD gD')) ⟨S6.stays _ _ e57, z57⟩
    have od6 : Dl L (tabsQ #[]) ([(57, tabObj p57)] ++ ((D, listOf vo.toArray cc) :: dl)) := dl_join (fun p hp => by cases List.mem_singleton.mp hp; exact tab_offQ (b := 57) lt.2.2.1 (by decide)) (show Dl L (tabsQ #[rawInt 221, rawInt 24, .ref c1, rawInt 223, rawInt 42, .ref c2]) _ from dl_cons N1 nD (tabsQ_sub od))
    have F6 := sub_fr Fo S6
    clear Fo No N1 S6 KM KL kp6 gD gD' gf gc nb5 S5
    have N7 := N6
    unfold led tabsQ at N7
    simp only [List.cons_append, List.nil_append] at N7
    clear N6
    k_steps
    rename Fr _ _ _ _ => Fe
    rename News _ _ _ _ => Nz
    rw [hNx]
    exact next _ _ D c2 cc vo _ (fun p hp => .tail _ (.tail _ hp)) (.tail _ (.head _)) ⟨_, .head _⟩ hv Fe od6 Nz
  run_tac Mine.Sh.fin
end
end
section
variable {w : World} {loose : List Str} {mean : ExcName → Option Value} {mg mb : Str → Option Value} {g : Heap} (C : LawCtx w loose mean mg mb g)
    {L a : Addr} {h : Heap} {gn : Array GenState} {dr : Drawn} {tk : Nat} {os : OsState} {m₀ : Str → Option Value} {Q : Flow → Shared → Prop} {E : Value → Shared → Prop} (hE : PassesOwn (model prg w) (lawA L a) (lawEnv L a) E) {o1 o2 o3 o4 o5 : Obj} {dl : List (Addr × Obj)} (od : Dl L (tabsQ #[]) dl) (lt : @LT.lt Nat _ 134 L ∧ @LT.lt Nat _ 87 L ∧ @LT.lt Nat _ 57 L ∧ @LT.lt Nat _ 50 L ∧ @LT.lt Nat _ 146 L)
include C od lt
section
local macro_rules | `(tactic| walk_at "eval ListComp") => Mine.Tx.line "(k_here; refine halt2 ?_)"
theorem st12 {rs : List Rule} {rl : Addr} {ps : Array Value} (d1 : cell (some (.ref rl)) o1) (d3 : cell none o3) (R : RsIn dl rl rs)
    (F : Fr g L h m₀) (N : News g L h (led L o1 o2 o3 o4 o5 (tabsQ ps) dl))
    (next : ∀ (h' : Heap) (gn' : Array GenState) (tk' : Nat) (Dc : Addr) (kc : Nat) (cvs : List Value) (pss : List (List (Int × Int) × List (Int × Int))) (o3' : Obj) (dm : List (Addr × Obj)), cell (some (.ref Dc)) o3' → (∀ p ∈ dl, p ∈ dm) → (Dc, listOf cvs.toArray kc) ∈ dm → CodesIn dm cvs rs pss → pss.length = rs.length → (∃ p, ((50 : Addr), tabObj p) ∈ dm) → (AllBare gn → AllBare gn') →
       Fr g L h' m₀ → Dl L (tabsR #[]) dm → News g L h' (led L o1 o2 o3' o4 o5 (tabsR ps) dm) → LawAt w L a 13 Q E ⟨h', gn', dr, tk', os⟩) :
    LawAt w L a 12 Q E ⟨h, gn, dr, tk, os⟩ := by
  run_tac Mine.Sh.mark
  focus
    obtain ⟨X, T, CH1, CH2, CH3, CH4, CH5⟩ := C
    have N0 := N
    unfold led tabsQ at N0
    simp only [List.cons_append, List.nil_append] at N0
    unfold LawAt
    run_tac expose
    clear N
    obtain ⟨Nx, hNx⟩ : ∃ Nx : Shared → Prop, Nx = fun s' => LawAt w L a 13 Q E s' := ⟨_, rfl⟩
    refine law_one (Nx := Nx) (fun s' h => by rw [hNx] at h; exact h) ?_
    obtain ⟨n4, n9, ok, vl, kv, mL, hvl, mR⟩ := R
    have g50 : g.get? 50 = none := (N0 (50, tabObj #[]) (by k_mem)).2.2
    obtain ⟨hB, hhB⟩ : ∃ hB, hideAll h [50] = hB := ⟨_, rfl⟩
    have hBk : ∀ b o, b ≠ (50 : Addr) → h.get? b = some o → hB.get? b = some o := fun b o n e => by
      rw [← hhB]; exact hideAll_get _ e fun hm => n (List.mem_singleton.mp hm)
    have hBs : Sub hB h := ⟨fun b o e => by rw [← hhB] at e; exact of_hideAll _ e⟩
    have hB50 : hB.get? 50 = none := by rw [← hhB]; exact hideAll_none _ (.head _)
    have hBz : hB.objs.size ≤ h.objs.size := by rw [← hhB]; exact Nat.le_of_eq (hideAll_size _ _)
    have gB : ∀ b o, g.get? b = some o → hB.get? b = some o := fun b o e => hBk b o (fun q => by rw [q, g50] at e; cases e) (F.keep _ _ e)
    have c50 := dl_c od (c := 50) (by unfold offL tabsQ; exact List.mem_append_right _ (.head _))
    have mR' : ∀ (j : Nat) (r : Rule), rs[j]? = some r → ∃ v, vl[j]? = some v ∧ ∃ a t1 t2 t3, v = .ref a ∧ IsTup hB a #[.int r.b t1, .int r.h t2, .int r.l t3] := fun j r e => by
      obtain ⟨v, ev, ar, t1, t2, t3, rfl, mr⟩ := mR j r e
      exact ⟨_, ev, ar, t1, t2, t3, rfl, _, hBk _ _ (c50 _ mr) (N0 (ar, _) (by k_mem)).1, rfl, 0, rfl⟩
    have hlB : hB.IsList rl vl.toArray := ⟨_, hBk _ _ (c50 _ mL) (N0 (rl, _) (by k_mem)).1, rfl, _, rfl⟩
    have XB := X.keeps gB
    have TB := T.keeps gB
    have CB := CH4.keeps gB
    k_steps
    unfold Halt2
    refine wpAny_Assign_Name (comp_listL (by exact rfl) (by decide) rfl (by decide) ?_) (by with_unfolding_all rfl)
    k_steps
    rename Fr _ _ _ _ => Fo
    rename News _ _ _ _ => No
    refine ⟨hB, rl, vl.toArray, [(50, tabObj #[])], fun i ys tl gn' => (AllBare gn → AllBare gn') ∧ ∃ (ps : Array Value) (rest : List (Addr × Obj)) (pss : List (List (Int × Int) × List (Int × Int))), tl = (50, tabObj ps) :: rest ∧ LamT hB rest ps ∧ CodesIn rest ys rs pss ∧ pss.length = i ∧ ∀ p ∈ rest, p.1 ≠ (50 : Addr), rfl, rfl, hBs, hBz, ?bes, hlB, ?hz, ⟨fun x => x, #[], [], [], rfl, ⟨True.intro, (fun cv e => nomatch e)⟩, ⟨rfl, (fun k p e => nil_at e), (fun k p r e => nil_at e)⟩, rfl, (fun _ h => nil_in h)⟩, ?turn, ?fin⟩
    case bes =>
      intro q hq
      cases List.mem_singleton.mp hq
      exact ⟨(No (50, tabObj #[]) (by k_mem)).1, hB50⟩
    case hz =>
      rw [List.size_toArray, sizeLine_eq]; omega
    case turn =>
      rintro i v ys tl' C J D' oJ h10 gn10 m10 tk10 E' hv ⟨hBn, pt, rest, pss, rfl, hLT, hCI, hpl, h50⟩ F10 N10 off10 ne10 hyl hit10
      clear Fo No
      have hj : i < rs.length := by
        have := (Array.getElem?_eq_some_iff.mp hv).1
        rw [List.size_toArray, hvl] at this
        exact this
      obtain ⟨r, hr⟩ : ∃ r, rs[i]? = some r := ⟨_, List.getElem?_eq_getElem hj⟩
      obtain ⟨v', ev, ar, t1, t2, t3, rfl, oT, eT, cT, zT, dT⟩ := mR' i r hr
      obtain rfl : v = .ref ar := by
        rw [List.getElem?_toArray, ev] at hv
        exact (Option.some.inj hv).symm
      have hit : IsTup h10 ar #[.int r.b t1, .int r.h t2, .int r.l t3] := ⟨oT, F10.keep _ _ eT, cT, zT, dT⟩
      obtain ⟨b0, b1, h0, h1, l0, l1⟩ := ok r (List.mem_of_getElem? hr)
      k_steps
      unfold Halt2
      refine comp_list (by exact rfl) (by decide) rfl (by decide) ?_
      k_steps
      unfold Halt2
      rename Fr _ _ _ _ => Fo
      rename News _ _ _ _ => No
      rename_i lp h11 l9
      k_here
      obtain ⟨r1, r2, ps1, ps2, n, hn, hn10, hPc, hc1, hc2, hHit⟩ := pat_ok b0 b1 h0 h1 l0 l1
      refine law_pattern w loose mean mg mb _ _ _ _ _ _ _ hB r.b r.h r.l lp t1 t2 t3 b0 b1 h0 h1 l0 l1 ⟨Fo.keep⟩ (fun q hq => by cases List.mem_singleton.mp hq; exact ⟨(No _ (.head _)).1, (No _ (.head _)).2.2⟩) XB TB (by decide) (by decide) fun P tP h12 tk12 hP S12 => ?_
      have F12 := sub_fr Fo S12
      have N12 := grow_news (sub_news No fun p hp => .tail _ hp) S12
      clear Fo No S12
      rw [← hP] at hn hPc
      k_steps
      unfold Halt2
      rename Fr _ _ _ _ => Fo
      rename News _ _ _ _ => No
      k_here
      refine law_translate w loose mean mg mb _ _ _ _ _ _ _ hB pt P n [r1, r2] tP _ hn (by omega) (show 2 ≤ 9 by decide) hPc ⟨Fo.keep⟩ (fun q hq => ?b50) CB hLT.ok (fun cv e => ?tr) (TokPos.succ _) XB TB (by decide) (by decide) fun aT vt kT pt' h13 gn13 tk13 hsv kp13 e50 Tt' Tr' fr13 ptk13 bb13 => ?_
      case b50 =>
        cases List.mem_singleton.mp hq
        exact ⟨(No (50, tabObj pt) (by k_mem)).1, hB50⟩
      case tr =>
        obtain ⟨c', oc, vs, t, rfl, hm, hd, hv⟩ := hLT.code cv e
        refine ⟨c', oc, vs, t, rfl, ?_, hd, hv⟩
        rcases hm with hm | hm
        · exact (No (c', oc) (.tail _ (.tail _ (.tail _ hm)))).1
        · exact Fo.keep _ _ hm
      have z50 := No (50, tabObj pt) (by k_mem)
      have F13 := but_fr (cs := [50]) Fo (fun b o hb => kp13 b o fun q => hb (q ▸ .head _)) fun c hc => by
        rw [List.mem_singleton.mp hc]; exact z50.2
      have nJ50 : @Ne Nat J 50 := fun q => (off10 (50, tabObj pt) (.head _)).1 q.symm
      have nD50 : @Ne Nat D' 50 := fun q => (off10 (50, tabObj pt) (.head _)).2 q.symm
      have eJ := kp13 J _ nJ50 (No (J, oJ) (.head _)).1
      have eD := kp13 D' _ nD50 (No (D', LCg.lst ys) (.tail _ (.head _))).1
      obtain ⟨cn, hLT', hcn⟩ := code_new (rest := rest) F13 eJ hit10 eD e50 Tt' Tr'
      have hrest : ∀ p ∈ rest, h13.get? p.1 = some p.2 := fun p hp => kp13 _ _ (h50 p hp) (No p (.tail _ (.tail _ (.tail _ hp)))).1
      have hrest2 : ∀ p ∈ rest, p.1 ≠ C ∧ hB.get? p.1 = none := fun p hp => (No p (.tail _ (.tail _ (.tail _ hp)))).2
      have zJ := (No (J, oJ) (.head _)).2
      have zD := (No (D', LCg.lst ys) (.tail _ (.head _))).2
      clear Fo No
      have X13 := XB.keeps F13.keep
      have T13 := TB.keeps F13.keep
      obtain ⟨ta, tb, rfl⟩ : ∃ ta tb, vt = [.str r1 ta, .str r2 tb] := by
        cases hsv with
        | cons h2 => cases h2 with
          | cons h3 => cases h3; exact ⟨_, _, rfl⟩
      refine ⟨h13, aT, _, [], fun i ys tl gn' => gn' = gn13 ∧ PartsIn tl ys ([ps1, ps2].take i), rfl, rfl, Sub.refl _, Nat.le_refl _, Beside.nil, ⟨_, (fr13 _ (.head _)).1, rfl, _, rfl⟩, by rw [sizeLine_eq]; exact (show 2 ≤ 16777216 by decide), ⟨rfl, rfl, fun k p e => nil_at e⟩, ?turn2, ?fin2⟩
      case turn2 =>
        clear F13
        rintro i2 v2 ys2 tl2 C2 J2 D2 oJ2 h20 gn20 m20 tk20 E2 hv2 ⟨rfl, hys2⟩ F20 N20 off20 ne20 hyl2
        obtain ⟨x, t, p, rfl, hp, hcx⟩ : ∃ x t p, v2 = .str x t ∧ [ps1, ps2][i2]? = some p ∧ CodesOk x p := by
          match i2, hv2 with
          | 0, hv2 => cases hv2; exact ⟨_, _, _, rfl, rfl, hc1⟩
          | 1, hv2 => cases hv2; exact ⟨_, _, _, rfl, rfl, hc2⟩
          | i + 2, hv2 => simp at hv2
        k_steps
        unfold Halt2
        rename Fr _ _ _ _ => Fo
        rename News _ _ _ _ => No
        k_here
        refine law_codes w loose mean mg mb _ _ _ _ _ _ _ x t p hcx (X13.keeps Fo.keep) (T13.keeps Fo.keep) (by decide) (by decide) fun v nw h21 tk21 S21 Fn21 hPi => ?_
        have F21 := call_fr Fo S21
        have nwJ := fresh_ne No Fn21 (.head _)
        have nwD := fresh_ne No Fn21 (.tail _ (.head _))
        have N21 := call_news Fo No S21 Fn21
        show CEnd _ _ _ _ _ _ _ _ _ _ _
        refine ⟨_, _, _, nw ++ tl2, _, rfl, F21, sub_news N21 (mem_swap2 (J2, oJ2) (D2, LCg.lst ys2)), fun p hp => ?_, rfl, ?_⟩
        · rcases List.mem_append.mp hp with hp | hp
          · exact ⟨nwJ p hp, nwD p hp⟩
          · exact off20 p hp
        · rw [List.take_add_one, hp]
          exact parts_snoc hys2 hPi
      case fin2 =>
        rintro D2 h20 gn20 tk20 ys2 tl2 ⟨rfl, hys2⟩ S20 hD20 gD20 hyl2 htl2
        rw [List.take_of_length_le (show [ps1, ps2].length ≤ [Value.str r1 ta, Value.str r2 tb].toArray.size from Nat.le_refl 2)] at hys2
        obtain ⟨v1, v2, rfl, ⟨a1, vs1, k1, rfl, m1, q1⟩, ⟨a2, vs2, k2, rfl, m2, q2⟩⟩ := two_of hys2
        have F20 := sub_fr F13 S20
        have hnew : ∀ p ∈ (D2, LCg.lst [Value.ref a1, Value.ref a2]) :: tl2, h13.get? p.1 = none ∧ h20.get? p.1 = some p.2 := fun p hp => by
          rcases List.mem_cons.mp hp with rfl | hp
          · exact ⟨hD20, gD20⟩
          · exact ⟨(htl2 p hp).2.1, (htl2 p hp).1⟩
        have hold : ∀ (b : Addr) (o : Obj), h13.get? b = some o → ∀ p ∈ (D2, LCg.lst [Value.ref a1, Value.ref a2]) :: tl2, p.1 ≠ b := fun b o e p hp q => by
          have := (hnew p hp).1
          rw [q, e] at this; cases this
        show CEnd _ _ _ _ _ _ _ _ _ _ _
        refine ⟨h20, gn20, tk20, (50, tabObj pt') :: (((D2, LCg.lst [Value.ref a1, Value.ref a2]) :: tl2) ++ (cn ++ rest)), _, rfl, F20, ?_, ?_, fun x => bb13 (hBn x), pt', _, pss ++ [(ps1, ps2)], rfl, hLT'.mono fun p hp => List.mem_append_right _ hp, ?_, by rw [List.length_append, hpl]; rfl, ?_⟩
        · intro p hp
          rcases List.mem_cons.mp hp with rfl | hp
          · exact ⟨S20.stays _ _ eJ, zJ⟩
          rcases List.mem_cons.mp hp with rfl | hp
          · exact ⟨S20.stays _ _ eD, zD⟩
          rcases List.mem_cons.mp hp with rfl | hp
          · exact ⟨S20.stays _ _ e50, z50.2⟩
          rcases List.mem_append.mp hp with hp | hp
          · exact new_news F13 (hnew p hp).1 (hnew p hp).2
          rcases List.mem_append.mp hp with hp | hp
          · exact ⟨S20.stays _ _ (hcn p hp).1, (hcn p hp).2.1, (hcn p hp).2.2.1⟩
          · exact ⟨S20.stays _ _ (hrest p hp), hrest2 p hp⟩
        · intro p hp
          rcases List.mem_cons.mp hp with rfl | hp
          · exact ⟨nJ50.symm, nD50.symm⟩
          rcases List.mem_append.mp hp with hp | hp
          · exact ⟨hold _ _ eJ p hp, hold _ _ eD p hp⟩
          rcases List.mem_append.mp hp with hp | hp
          · exact ⟨(hcn p hp).2.2.2.1, (hcn p hp).2.2.2.2.1⟩
          · exact off10 p (.tail _ hp)
        · refine codes_snoc (hCI.mono fun p hp => List.mem_append_right _ (List.mem_append_right _ hp)) (hpl ▸ hr) ⟨D2, a1, a2, vs1, vs2, _, k1, k2, rfl, List.mem_append_left _ (.head _), List.mem_append_left _ (.tail _ m1), List.mem_append_left _ (.tail _ m2), q1.mono' fun p hp => List.mem_append_left _ (.tail _ hp), q2.mono' fun p hp => List.mem_append_left _ (.tail _ hp)⟩ ⟨codesOk_len hc1, codesOk_len hc2, hHit⟩
        · intro p hp
          rcases List.mem_append.mp hp with hp | hp
          · exact hold _ _ e50 p hp
          rcases List.mem_append.mp hp with hp | hp
          · exact (hcn p hp).2.2.2.2.2
          · exact h50 p hp
    case fin =>
      rintro D h20 gn20 tk20 ys tl ⟨hBn, pt, rest, pss, rfl, hLT, hCI, hpl, h50⟩ S20 hD20 gD20 hyl htl
      rw [List.size_toArray, hvl] at hpl
      have N1 : News g L h (led L o1 o2 o3 o4 o5 (tabsQ ps) dl) := No
      have k20 : ∀ b o, b ∉ [(50 : Addr)] → h.get? b = some o → h20.get? b = some o := fun b o hb e => S20.stays _ _ (hBk b o (fun q => hb (q ▸ .head _)) e)
      have F20 := but_fr (cs := [50]) Fo k20 fun c hc => by
        rw [List.mem_singleton.mp hc]; exact (No (50, tabObj #[]) (by k_mem)).2
      have N20 : News g L h20 (led L o1 o2 o3 o4 o5 (tabsR ps) dl) := but_news (cs := [50]) N1 k20 (led_less (tb := tabsQ ps) od tabsR_less fun c hc => by
        cases List.mem_singleton.mp hc
        exact ⟨lt.2.2.2.1, .head _⟩)
      have hnew : ∀ p ∈ (D, LCg.lst ys) :: rest, h.get? p.1 = none ∧ h20.get? p.1 = some p.2 := fun p hp => by
        rcases List.mem_cons.mp hp with rfl | hp
        · exact ⟨hD20, gD20⟩
        · refine ⟨?_, (htl p (.tail _ hp)).1⟩
          cases q : h.get? p.1 with
          | none => rfl
          | some o => have := hBk _ _ (h50 p hp) q; rw [(htl p (.tail _ hp)).2.1] at this; cases this
      have N21 := led_cons (q := (50, tabObj pt)) (led_app Fo N20 (fun p hp => (hnew p hp).1) fun p hp => (hnew p hp).2) ⟨(htl _ (.head _)).1, (No (50, tabObj #[]) (by k_mem)).2⟩
      have od21 : Dl L (tabsR #[]) ([(50, tabObj pt)] ++ (((D, LCg.lst ys) :: rest) ++ dl)) := dl_join (fun p hp => by cases List.mem_singleton.mp hp; exact tab_offR (b := 50) lt.2.2.2.1 (by decide)) (tabsR_sub (show Dl L (tabsQ ps) _ from dl_app N1 (fun p hp => (hnew p hp).1) od))
      have m1 : ∀ p ∈ dl, p ∈ [((50 : Addr), tabObj pt)] ++ (((D, LCg.lst ys) :: rest) ++ dl) := fun p hp => List.mem_append_right _ (List.mem_append_right _ hp)
      have m2 : (D, listOf ys.toArray ys.length) ∈ [((50 : Addr), tabObj pt)] ++ (((D, LCg.lst ys) :: rest) ++ dl) := .tail _ (.head _)
      have m4 : ∃ p, ((50 : Addr), tabObj p) ∈ [((50 : Addr), tabObj pt)] ++ (((D, LCg.lst ys) :: rest) ++ dl) := ⟨_, .head _⟩
      have m3 := hCI.mono (tl' := [((50 : Addr), tabObj pt)] ++ (((D, LCg.lst ys) :: rest) ++ dl)) fun p hp => .tail _ (.tail _ (List.mem_append_left _ hp))
      replace N21 : News g L h20 (led L o1 o2 o3 o4 o5 (tabsR ps) ([((50 : Addr), tabObj pt)] ++ (((D, LCg.lst ys) :: rest) ++ dl))) := N21
      generalize [((50 : Addr), tabObj pt)] ++ (((D, LCg.lst ys) :: rest) ++ dl) = dm at N21 od21 m1 m2 m3 m4
      clear N1 No Fo N20 hnew htl h50 hLT hCI S20 k20 hD20 gD20 c50 hhB hBk hBs hBz gB mR' hlB XB TB CB
      have c3 := dl_c od21 (c := L + 1 + 1 + 1) (.tail _ (.tail _ (.head _)))
      unfold led tabsR at N21
      simp only [List.cons_append, List.nil_append] at N21
      k_steps
      rename Fr _ _ _ _ => Fe
      rename News _ _ _ _ => Nz
      rename (_ = Data.cell _) => dc
      show Nx _
      rw [hNx]
      exact next _ _ _ D _ ys pss _ dm dc m1 m2 m3 hpl m4 hBn Fe od21 Nz
  run_tac Mine.Sh.fin
end
end
section
variable {w : World} {loose : List Str} {mean : ExcName → Option Value} {mg mb : Str → Option Value} {g : Heap} (C : LawCtx w loose mean mg mb g)
    {L a : Addr} {h : Heap} {gn : Array GenState} {dr : Drawn} {tk : Nat} {os : OsState} {m₀ : Str → Option Value} {Q : Flow → Shared → Prop} {E : Value → Shared → Prop} (hE : PassesOwn (model prg w) (lawA L a) (lawEnv L a) E) {o1 o2 o3 o4 o5 : Obj} {dl : List (Addr × Obj)} (od : Dl L (tabsR #[]) dl) (lt : @LT.lt Nat _ 134 L ∧ @LT.lt Nat _ 87 L ∧ @LT.lt Nat _ 57 L ∧ @LT.lt Nat _ 50 L ∧ @LT.lt Nat _ 146 L)
include C od lt
section
local macro_rules | `(tactic| walk_at $k) => Mine.Tx.look k.getString "eval Name ==> (k_here; kc_free; (k_dflt (refine nameX_base (by with_reducible assumption) (by rfl) (by with_reducible assumption) (by with_reducible assumption) ?_)))
subscriptTail Name Name ref int ==> (k_here; k_dflt (refine item_baseL _ (by with_reducible assumption) (by with_reducible assumption) rfl (by with_reducible assumption) (by with_reducible assumption) ?_))
subscriptTail Name UnaryOp ref int ==> (k_here; refine halt2 ?_)"
theorem st13 {rs : List Rule} {Do Dt Dc c1 c2 : Addr} {ko kt kc : Nat} {vo vs cvs : List Value} {pss : List (List (Int × Int) × List (Int × Int))} (n4 : 4 ≤ rs.length) (n9 : rs.length ≤ 9) (ok : ∀ r ∈ rs, r.ok) (d3 : cell (some (.ref Dc)) o3) (d5 : cell (some (.ref Dt)) o5) (hT : (Dt, listOf vs.toArray kt) ∈ dl) (hR : RowsIn dl vs rs)
    (hC : (Dc, listOf cvs.toArray kc) ∈ dl) (hCI : CodesIn dl cvs rs pss) (hpl : pss.length = rs.length)
    (hO : (Do, listOf vo.toArray ko) ∈ dl) (ho : IntsAre vo ((ordL (rkP (headsL rs)) rs.length).map fun (i : Nat) => (i : Int)))
    (F : Fr g L h (fun y => if y = Str.ofString "order" then some (.ref Do) else m₀ y)) (N : News g L h (led L o1 o2 o3 o4 o5 (tabsR #[rawInt 221, rawInt 24, .ref c1, rawInt 223, rawInt 42, .ref c2]) dl))
    (next : ∀ (h' : Heap) (tk' : Nat) (Dx : Addr) (kx : Nat) (ds : List Value) (cs : List (List Nat)) (ps' : Array Value) (dm : List (Addr × Obj)), (∀ p ∈ dl, p ∈ dm) → (Dx, listOf ds.toArray kx) ∈ dm → ListsIn dm ds cs → Chains rs rs.length cs →
       Fr g L h' (fun y => if y = Str.ofString "chains" then some (.ref Dx) else if y = Str.ofString "order" then some (.ref Do) else m₀ y) → Dl L (tabsR #[]) dm → News g L h' (led L o1 o2 o3 o4 o5 (tabsR ps') dm) → LawAt w L a 14 Q E ⟨h', gn, dr, tk', os⟩) :
    LawAt w L a 13 Q E ⟨h, gn, dr, tk, os⟩ := by
  run_tac Mine.Sh.mark
  focus
    obtain ⟨X, T, CH1, CH2, CH3, CH4, CH5⟩ := C
    have N0 := N
    unfold led tabsR at N0
    simp only [List.cons_append, List.nil_append] at N0
    unfold LawAt
    run_tac expose
    clear N
    obtain ⟨Nx, hNx⟩ : ∃ Nx : Shared → Prop, Nx = fun s' => LawAt w L a 14 Q E s' := ⟨_, rfl⟩
    refine law_one (Nx := Nx) (fun s' h => by rw [hNx] at h; exact h) ?_
    have c146 := dl_c od (c := 146) (by unfold offL tabsR; exact List.mem_append_right _ (.head _))
    k_steps
    unfold Halt2
    rename Fr _ _ _ _ => Fo
    rename News _ _ _ _ => No
    rename_i f c3 oc vs3 t3 ct3 h3 tk3 e1 e2 l1 l2 D1 h4 l4 D0 h5 l5
    obtain ⟨hB, hhB⟩ : ∃ hB, hideAll h5 [D0, D1] = hB := ⟨_, rfl⟩
    have hBk : ∀ b o, b ≠ D0 → b ≠ D1 → h5.get? b = some o → hB.get? b = some o := fun b o n1 n2 e => by
      rw [← hhB]; exact hideAll_get _ e fun hm => by
        rcases List.mem_cons.mp hm with q | hm
        · exact n1 q
        · exact n2 (List.mem_singleton.mp hm)
    have hBs : Sub hB h5 := ⟨fun b o e => by rw [← hhB] at e; exact of_hideAll _ e⟩
    have hB0 : hB.get? D0 = none := by rw [← hhB]; exact hideAll_none _ (.head _)
    have hB1 : hB.get? D1 = none := by rw [← hhB]; exact hideAll_none _ (.tail _ (.head _))
    have z0 := No (D0, _) (.head _)
    have z1 := No (D1, _) (.tail _ (.head _))
    have gB : ∀ b o, g.get? b = some o → hB.get? b = some o := fun b o e => hBk b o (fun q => by rw [q, z0.2.2] at e; cases e) (fun q => by rw [q, z1.2.2] at e; cases e) (Fo.keep _ _ e)
    have dB : ∀ p ∈ dl, hB.get? p.1 = some p.2 := fun p hp => hBk _ _ (Nat.ne_of_lt (allLt_mem l5.2.2.2.2.2.2.2.2.2 hp)) (Nat.ne_of_lt (allLt_mem l4.2.2.2.2.2.2.2.2 hp)) (No p (.tail _ (.tail _ (.tail _ (.tail _ (.tail _ (.tail _ (.tail _ (.tail _ (.tail _ (.tail _ hp))))))))))).1
    have gf := hBk f _ (by exact (show @Ne Nat f D0 by omega)) (by exact (show @Ne Nat f D1 by omega)) (No (f, _) (.tail _ (.tail _ (.head _)))).1
    have gc := hBk c3 _ (by exact (show @Ne Nat c3 D0 by omega)) (by exact (show @Ne Nat c3 D1 by omega)) (No (c3, oc) (.tail _ (.tail _ (.tail _ (.head _))))).1
    have g3 := hBk (L + 1 + 1 + 1) _ (by exact (show @Ne Nat (L + 1 + 1 + 1) D0 by omega)) (by exact (show @Ne Nat (L + 1 + 1 + 1) D1 by omega)) (No (L + 1 + 1 + 1, o3) (by k_mem)).1
    have g5 := hBk (L + 1 + 1 + 1 + 1 + 1) _ (by exact (show @Ne Nat (L + 1 + 1 + 1 + 1 + 1) D0 by omega)) (by exact (show @Ne Nat (L + 1 + 1 + 1 + 1 + 1) D1 by omega)) (No (L + 1 + 1 + 1 + 1 + 1, o5) (by k_mem)).1
    have hlO : hB.IsList Do vo.toArray := ⟨_, dB _ hO, rfl, _, rfl⟩
    have hvo : vo.length = rs.length := by
      have := ho.length
      rwa [List.length_map, ord_len (by omega)] at this
    have nD01 : @Ne Nat D0 D1 := by omega
    k_here
    refine reduce_K w loose mean mg mb _ _ _ _ _ _ _ hB [(D0, listOf [Value.ref D1].toArray 0), (D1, listOf ([] : List Value).toArray 0)] f (.ref Do) (.ref D0) ⟨_, _, _, _, gf⟩ vo.toArray.size _ (ChainJ rs) ?J0 (.obj D0 _ (.head _) (fun e => absurd (Value.type.inj e) (by decide))) (iters_list hlO) hBs ?Bs (X.keeps gB) (T.keeps gB) (by decide) (by decide) ?hcall ?hret
    case J0 =>
      refine ⟨D0, [Value.ref D1], 0, [[]], rfl, .head _, ⟨rfl, fun j c e => ?_⟩, Chains.start rs⟩
      match j, e with
      | 0, e => cases e; exact ⟨D1, [], 0, rfl, .tail _ (.head _), .nil⟩
      | j + 1, e => simp at e
    case Bs =>
      intro q hq
      rcases List.mem_cons.mp hq with rfl | hq
      · exact ⟨z0.1, hB0⟩
      · cases List.mem_singleton.mp hq
        exact ⟨z1.1, hB1⟩
    case hret =>
      rintro v bl h6 tk6 ⟨D, ds, k, cs, rfl, mD, hL, hCs⟩ kp nb
      rw [List.size_toArray, hvo] at hCs
      have hlt : ∀ p ∈ led L o1 o2 o3 o4 o5 (tabsR #[]) dl, @LT.lt Nat _ p.1 D1 := ledR_lt l4.2.2
      obtain ⟨psx, N1⟩ : ∃ psx, News g L h5 (led L o1 o2 o3 o4 o5 (tabsR psx) dl) := ⟨_, sub_news No fun p hp => .tail _ (.tail _ (.tail _ (.tail _ hp)))⟩
      have hoff : ∀ c ∈ offL L (tabsR #[]), @LT.lt Nat _ c D1 := fun c hc => let ⟨o', hm⟩ := offL_in (o1 := o1) (o2 := o2) (o3 := o3) (o4 := o4) (o5 := o5) (dl := dl) c hc; hlt _ hm
      have nin : ∀ b : Addr, @LT.lt Nat _ b D1 → b ∉ [D0, D1] := fun b hb hm => by
        rcases List.mem_cons.mp hm with q | hm
        · have q : @Eq Nat b D0 := q
          omega
        · have q : @Eq Nat b D1 := List.mem_singleton.mp hm
          omega
      have k6 : ∀ b o, b ∉ [D0, D1] → h5.get? b = some o → h6.get? b = some o := fun b o hb e => kp b o (fun p hp q => hb (by
        rcases List.mem_cons.mp hp with rfl | hp
        · exact q ▸ .head _
        · cases List.mem_singleton.mp hp; exact q ▸ .tail _ (.head _))) e
      have F6 := but_fr (cs := [D0, D1]) Fo k6 fun c hc => by
        rcases List.mem_cons.mp hc with q | hc
        · rw [q]; exact z0.2
        · rw [List.mem_singleton.mp hc]; exact z1.2
      have N6 := but_news (cs := [D0, D1]) N1 k6 fun p hp => ⟨hp, nin _ (ledR_lt l4.2.2 p hp)⟩
      have hbl : ∀ p ∈ bl, @Eq Nat p.1 D0 ∨ @Eq Nat p.1 D1 ∨ h5.get? p.1 = none := fun p hp => by
        rcases (nb p hp).2 with ⟨q, hq, e⟩ | e
        · rcases List.mem_cons.mp hq with rfl | hq
          · exact .inl e.symm
          · cases List.mem_singleton.mp hq; exact .inr (.inl e.symm)
        · exact .inr (.inr e)
      have N7 := led_app2 N6 (nw := bl) fun p hp => ⟨(nb p hp).1, by
        rcases hbl p hp with q | q | q
        · have q : p.1 = D0 := q
          rw [q]; exact z0.2
        · have q : p.1 = D1 := q
          rw [q]; exact z1.2
        · exact (new_news Fo q (nb p hp).1).2⟩
      have od7 : Dl L (tabsR #[]) (bl ++ dl) := dl_join (fun p hp c hc => by
        have hc1 := hoff c hc
        rcases hbl p hp with q | q | q
        · exact (show ¬ @Eq Nat p.1 c by omega)
        · exact (show ¬ @Eq Nat p.1 c by omega)
        · intro q2
          obtain ⟨o', hm⟩ := offL_in (o1 := o1) (o2 := o2) (o3 := o3) (o4 := o4) (o5 := o5) (dl := dl) (tb := tabsR psx) c hc
          exact new_ne N1 q (c, o') hm q2.symm) od
      have m1 : ∀ p ∈ dl, p ∈ bl ++ dl := fun p hp => List.mem_append_right _ hp
      have m2 : (D, listOf ds.toArray k) ∈ bl ++ dl := List.mem_append_left _ mD
      have m3 : ListsIn (bl ++ dl) ds cs := hL.mono fun p hp => List.mem_append_left _ hp
      generalize bl ++ dl = dm at N7 od7 m1 m2 m3
      clear N1 No Fo N6 kp nb hbl k6 hlt hoff nin hBk hBs gB dB gf gc g3 g5 hlO mD hL z0 z1
      unfold led tabsR at N7
      simp only [List.cons_append, List.nil_append] at N7
      k_steps
      rename Fr _ _ _ _ => Fe
      rename News _ _ _ _ => Nz
      rw [hNx]
      exact next _ _ D k ds cs _ dm m1 m2 m3 hCs Fe od7 Nz
    case hcall =>
      rintro j v x bl dp' un' fr' gd' h6 tk6 Q' E' hj hdp hun ⟨D, ds, k, cs, rfl, mD, hL, hCs⟩ hP hk hbl hnone hq
      obtain ⟨kx, tx, rfl, hkx⟩ := ints_item ho (by simpa using hP)
      rw [List.getElem?_map] at hkx
      obtain ⟨o, hoj, rfl⟩ := Option.map_eq_some_iff.mp hkx
      have hon := ord_low (rk := rkP (headsL rs)) (by omega) o (List.mem_of_getElem? hoj)
      obtain ⟨r, hr⟩ : ∃ r, rs[o]? = some r := ⟨_, List.getElem?_eq_getElem hon⟩
      obtain ⟨g9, Sg9, S9, hle9, Bs9, Cv9⟩ := hideUp (h₀ := hB) ⟨hk⟩ (fun p hp => ⟨hbl p hp, hnone p hp⟩)
      have X9 := X.keeps fun b o e => Sg9.stays _ _ (gB b o e)
      have T9 := T.keeps fun b o e => Sg9.stays _ _ (gB b o e)
      have hjn : j ≤ (ordR rs).length := Nat.le_of_lt (List.getElem?_eq_some_iff.mp hoj).1
      obtain ⟨c, hc⟩ : ∃ c, cs[j]? = some c := ⟨_, List.getElem?_eq_getElem (by rw [hCs.len]; omega)⟩
      obtain ⟨dd, ws, kd, ed, md, Iw⟩ := hL.2 j c hc
      have hlast : ds.getLast? = some (.ref dd) := by
        rw [List.getLast?_eq_getElem?, hL.1, hCs.len, Nat.add_sub_cancel]; exact ed
      have gT : g9.IsList Dt vs.toArray := ⟨_, Sg9.stays _ _ (dB _ hT), rfl, _, rfl⟩
      have hvo' : o < vs.length := by rw [hR.1]; exact hon
      obtain ⟨at1, u1, u2, ea, ma⟩ := hR.2 o vs[o] r (List.getElem?_eq_getElem hvo') hr
      have ev : vs.toArray[o]? = some (.ref at1) := by rw [← ea]; simp [hvo']
      have gA : g9.get? at1 = some (tupO [.int r.b u1, .str ⟨#[r.h.toNat, r.l.toNat]⟩ u2]) := Sg9.stays _ _ (dB _ ma)
      have o63 : (o : Int) < 2 ^ 63 := by omega
      have gf9 := S9.stays _ _ (Sg9.stays _ _ gf)
      have gc9 := S9.stays _ _ (Sg9.stays _ _ gc)
      have g39 := Sg9.stays _ _ g3
      have g59 := Sg9.stays _ _ g5
      have d3' : o3.data = .cell (some (.ref Dc)) := d3
      have d5' : o5.data = .cell (some (.ref Dt)) := d5
      clear Fo No
      refine wpAny_call ?_
      refine enterGL (binds := [(Str.ofString "rows", .ref D), (Str.ofString "k", .int (o : Int) tx)]) T9 S9 hle9 Bs9 gf9 rfl ⟨c3, oc, vs3, t3, rfl, gc9, e1, e2⟩ (Nat.lt_of_le_of_lt hdp (by decide)) (BindsTo.of_eq rfl) (locs rfl) ?_ rfl rfl rfl (by decide)
      intro L7 h7 F7 N7 l7
      k_steps
      unfold Halt2
      rename Fr _ _ _ _ => Fo
      rename News _ _ _ _ => No
      have hjl : j < rs.length := by
        have := (List.getElem?_eq_some_iff.mp hoj).1
        rwa [ord_len (by omega)] at this
      have hdl : ds.length < 20 := by rw [hL.1, hCs.len]; omega
      k_here
      refine item_last No mD hlast (Nat.lt_trans hdl (by decide)) ?_
      k_steps
      rename Fr _ _ _ _ => Fo
      rename News _ _ _ _ => No
      dsimp only
      refine item_baseT 1 gA Fo (by rfl) (by decide) (by decide) (by rfl) ?_
      k_steps
      unfold Halt2
      rename Fr _ _ _ _ => Fo
      rename News _ _ _ _ => No
      have hCd : CodesAt g9 Dc rs.length (fun k => pss.getD k ([], [])) := codesAt_of hCI (fun p hp => Sg9.stays _ _ (dB p hp)) ⟨_, Sg9.stays _ _ (dB _ hC), rfl, _, rfl⟩ hpl
      obtain ⟨clow, clen⟩ := hCs.low hjn hc
      obtain ⟨_, _, h0, h1', l0, l1'⟩ := ok r (List.mem_of_getElem? hr)
      have hwl : ws.length = c.length := by have := Iw.length; rwa [List.length_map] at this
      k_here
      refine law_chain w loose mean mg mb _ _ _ _ _ _ _ g9 dd Dc ws (c.map fun (i : Nat) => (i : Int)) kd u2 r.h.toNat r.l.toNat rs.length (by omega) (by omega) (fun k => pss.getD k ([], [])) Iw (fun k hk => ?hks) (by rw [hwl]; exact Nat.le_trans clen n9) n9 hCd ⟨Fo.keep⟩ (fun q hq => ?hb) X9 T9
        (show dp' + 1 + 30 < recursionLimit from Nat.lt_of_le_of_lt (Nat.add_le_add_right hdp 31) (by decide)) (show un' + 3 + 200 < cLine from Nat.lt_of_le_of_lt (Nat.add_le_add_right hun 203) (by decide)) fun D9 m kk h8 tk8 hm gD9 hD9 hno hyes S8 => ?_
      case hks =>
        obtain ⟨i, hi, rfl⟩ := List.mem_map.mp hk
        have := clow i hi
        exact ⟨Int.natCast_nonneg _, by omega⟩
      case hb =>
        cases List.mem_singleton.mp hq
        exact ⟨(No _ md).1, (No _ md).2.2⟩
      have F8 := sub_fr Fo S8
      have n9' : D9 ≠ L7 ∧ g9.get? D9 = none := by
        rcases hD9 with rfl | hD9
        · exact (No _ md).2
        · exact (new_news Fo hD9 gD9).2
      have N8 : News g9 L7 h8 ((D9, listOf (ws.take m).toArray kk) :: bl) := fun p hp => by
        rcases List.mem_cons.mp hp with rfl | hp
        · exact ⟨gD9, n9'⟩
        · exact grow_news No S8 p hp
      clear Fo No hCd
      k_steps
      unfold Halt2
      rename Fr _ _ _ _ => Fo
      rename News _ _ _ _ => No
      k_here
      refine kmk_add_ints Fo No (news_list No (.tail _ (.head _))) (news_list No (.head _)) (ints_take Iw m) (.cons _ _ .nil) (fun D3 us h10 F10 N10 l10 hu => ?_) (by rw [sizeLine_eq, List.length_take, List.length_map]; simp only [List.length_cons, List.length_nil]; omega)
      clear Fo No
      have l3 := allLt_of l10
      simp only [AllLt, and_true] at l3
      k_steps
      unfold Halt2
      rename Fr _ _ _ _ => Fo
      rename News _ _ _ _ => No
      rename_i E1 h11 l11
      k_here
      refine add_arrays (its := ds.toArray) (its2 := #[.ref D3]) Fo No (news_list No (by k_mem)) (news_list No (.head _)) (fun h12 F12 N12 => ?_) (by rw [List.size_toArray, sizeLine_eq]; show ds.length + 1 ≤ _; omega)
      dsimp only at N12 ⊢
      have hup : ∀ p ∈ bl, @LT.lt Nat _ p.1 h11.objs.size := fun p hp => Heap.lt_size (No p (.tail _ (.tail _ (.tail _ (.tail _ hp))))).1
      have v1 := N12 _ (.head _)
      have v2 := N12 (D3, listOf us.toArray 0) (.tail _ (.tail _ (.head _)))
      have hb3 : ∀ p ∈ bl, @LT.lt Nat _ p.1 D3 := fun p hp => l10 p (.tail _ (.tail _ hp))
      have Iu : IntsAre us ((c.take m ++ [o]).map fun (i : Nat) => (i : Int)) := by rw [List.map_append, List.map_take]; exact hu
      have tp : ∀ i : Nat, i < rs.length → (Takes (fun k => pss.getD k ([], [])) r.h.toNat r.l.toNat (i : Int) ↔ Pre (nz rs) (hz rs) (mz rs) i o) := fun i hi => takes_pre ok hCI.hit hpl hi hr
      have hcm : ∀ (i q : Nat), c[i]? = some q → (c.map fun (i : Nat) => (i : Int))[i]? = some (q : Int) := fun i q e => by rw [List.getElem?_map, e]; rfl
      refine hq _ ((h11.objs.size, listOf (ds ++ [Value.ref D3]).toArray 0) :: (D3, listOf us.toArray 0) :: bl) h12 _ (fun b o hb e => ?_) (fun p hp => ?_) ⟨_, ds ++ [.ref D3], 0, cs ++ [c.take m ++ [o]], rfl, .head _, (lists_snoc hL Iu).mono fun p hp => .tail _ hp, hCs.turn ok (by omega) n9 hoj hc (by omega) (fun i q hi e hp => hno i _ hi (hcm i q e) ((tp q (clow q (List.mem_of_getElem? e))).mpr hp)) fun i q hi e => (tp q (clow q (List.mem_of_getElem? e))).mp (hyes i _ hi (hcm i q e))⟩
      · rcases Cv9 b o e with e | e
        · exact F12.keep _ _ e
        · exact absurd rfl (hb _ e)
      · rcases List.mem_cons.mp hp with rfl | hp
        · exact ⟨v1.1, .inr (cov_none Cv9 v1.2.2 hup)⟩
        rcases List.mem_cons.mp hp with rfl | hp
        · exact ⟨v2.1, .inr (cov_none Cv9 v2.2.2 hb3)⟩
        · exact ⟨(N12 p (.tail _ (.tail _ (.tail _ (.tail _ (.tail _ hp)))))).1, .inl ⟨p, hp, rfl⟩⟩
  run_tac Mine.Sh.fin
end
section
local macro_rules | `(tactic| walk_at "binaryOp Pow int int") => Mine.Tx.line "(k_here; (with_reducible refine pow_int_small ?kb1 ?kb2 ?kb3 ?_); (case kb1 => omega); (case kb2 => omega); (case kb3 => decide))"
include hE in
theorem st14 {rs : List Rule} {rl Dp Do Dx : Addr} {ps : Array Value} (d1 : cell (some (.ref rl)) o1) (d2 : cell none o2) (R : RsIn dl rl rs)
    (F : Fr g L h (fun y => if y = Str.ofString "chains" then some (.ref Dx) else if y = Str.ofString "order" then some (.ref Do) else if y = Str.ofString "places" then some (.ref Dp) else m₀ y)) (N : News g L h (led L o1 o2 o3 o4 o5 (tabsR ps) dl))
    (next : ∀ (h' : Heap) (tk' : Nat) (D : Addr) (k : Nat) (us : List Value) (o2' : Obj) (m₁ : Str → Option Value), cell (some (.ref D)) o2' → IntsAre us (rs.map dueR) →
       Fr g L h' (fun y => if y = Str.ofString "chains" then some (.ref Dx) else if y = Str.ofString "order" then some (.ref Do) else if y = Str.ofString "places" then some (.ref Dp) else m₁ y) → Dl L (tabsR #[]) ((D, listOf us.toArray k) :: dl) → News g L h' (led L o1 o2' o3 o4 o5 (tabsR ps) ((D, listOf us.toArray k) :: dl)) → LawAt w L a 16 Q E ⟨h', gn, dr, tk', os⟩) :
    LawAt w L a 14 Q E ⟨h, gn, dr, tk, os⟩ := by
  run_tac Mine.Sh.mark
  focus
    obtain ⟨X, T, CH1, CH2, CH3, CH4, CH5⟩ := C
    have N0 := N
    unfold led tabsR at N0
    simp only [List.cons_append, List.nil_append] at N0
    unfold LawAt
    run_tac expose
    clear N
    obtain ⟨Nx, hNx⟩ : ∃ Nx : Shared → Prop, Nx = fun s' => LawAt w L a 16 Q E s' := ⟨_, rfl⟩
    refine law_two (Nx := Nx) (fun s' h => by rw [hNx] at h; exact h) ?_
    have c2 := dl_c od (c := L + 1 + 1) (by unfold offL tabsR; exact .tail _ (.tail _ (.tail _ (.head _))))
    obtain ⟨n4, n9, ok, vl, kv, mL, hvl, mR⟩ := R
    k_steps
    unfold Halt2
    rename Fr _ _ _ _ => Fo
    rename News _ _ _ _ => No
    rename_i D h1 l1 h2 o2' d2'
    refine for_items (items := vl.toArray) (k := kv) hE rfl (fun j l m => ∃ (kk : Nat) (us : List Value) (m₁ : Str → Option Value), (m = fun y => if y = Str.ofString "chains" then some (.ref Dx) else if y = Str.ofString "order" then some (.ref Do) else if y = Str.ofString "places" then some (.ref Dp) else m₁ y) ∧
        l = (D, listOf us.toArray kk) :: led L o1 o2' o3 o4 o5 (tabsR ps) dl ∧ IntsAre us ((rs.take j).map dueR))
      (fun j l m q => by obtain ⟨kk, us, m₁, _, e, _⟩ := q; subst e; exact .tail _ (mem_led mL)) ⟨0, [], m₀, rfl, rfl, .nil⟩ Fo No ?turn ?fin
    case turn =>
      rintro j v I o h3 tk3 l m hv ⟨kk, us, m₁, rfl, rfl, hU⟩ F3 N3 ne3
      clear Fo No
      unfold led tabsR at N3
      simp only [List.cons_append, List.nil_append] at N3
      have hj : j < rs.length := by
        have := (Array.getElem?_eq_some_iff.mp hv).1
        rw [List.size_toArray, hvl] at this
        exact this
      obtain ⟨r, hr⟩ : ∃ r, rs[j]? = some r := ⟨_, List.getElem?_eq_getElem hj⟩
      obtain ⟨v', ev, ar, t1, t2, t3, rfl, mr⟩ := mR j r hr
      obtain rfl : v = .ref ar := by
        rw [List.getElem?_toArray, ev] at hv
        exact (Option.some.inj hv).symm
      obtain ⟨b0, b1, h0, h1', l0, l1'⟩ := ok r (List.mem_of_getElem? hr)
      have cD : ∀ p ∈ dl, p.1 ≠ D := fun p hp => Nat.ne_of_lt (allLt_mem l1.2.2.2.2.2.2 hp)
      have nDI : @Ne Nat I D := fun q => ne3 (D, listOf us.toArray kk) (.head _) q.symm
      have hul : us.length < 10 := by have := hU.length; rw [List.length_map, List.length_take] at this; omega
      k_steps
      rename Fr _ _ _ _ => Fe
      rename News _ _ _ _ => Nz
      have F9 := Fr.wrap (Fr.wrap (Fr.wrap Fe (Str.ofString "places") (some (.ref Dp)) (by kernel_rfl!)) (Str.ofString "order") (some (.ref Do)) (by kernel_rfl!)) (Str.ofString "chains") (some (.ref Dx)) (by kernel_rfl!)
      clear Fe
      rw [List.push_toArray] at Nz
      refine ⟨rfl, _, _, (D, listOf (us ++ [_]).toArray (kk + 1)) :: led L o1 o2' o3 o4 o5 (tabsR ps) dl, _, rfl, F9, Nz, fun p hp => ?_, kk + 1, us ++ [_], _, rfl, rfl, ?_⟩
      · rcases List.mem_cons.mp hp with rfl | hp
        · exact nDI.symm
        · exact ne3 p (.tail _ hp)
      · rw [List.take_add_one, hr, List.map_append]
        exact ksk_snoc hU
    case fin =>
      rintro h3 tk3 l m ⟨kk, us, m₁, rfl, rfl, hU⟩ F3 N3
      rw [List.size_toArray, hvl, List.take_length] at hU
      show Nx _
      rw [hNx]
      exact next _ _ D kk us o2' m₁ d2' hU F3 (dl_join (a := [(D, _)]) (dl_ltR ⟨l1.1, l1.2.1, l1.2.2.1, l1.2.2.2.1, l1.2.2.2.2.1⟩ l1.2.2.2.2.2.1) od) (sub_news N3 led_sub1)
  run_tac Mine.Sh.fin
end
section
local macro_rules | `(tactic| walk_at $k) => Mine.Tx.look k.getString "eval ListComp ==> (k_here; refine halt2 ?_)
call builtin:sorted ==> (k_here; refine halt2 ?_)
eval Name ==> (k_here; first | k_dflt (refine' cn_local ?F ?hx ?hv ?hk ?_; (case F => k_asm); (case hx => rfl); (case hv => exact rfl); (case hk => rfl)) | k_dflt (refine' cn_free ?F ?hx ?hc ?hv ?hd ?hk ?_; (case F => k_asm); (case hx => rfl); (case hc => rfl); (case hv => with_reducible assumption); (case hd => with_reducible assumption); (case hk => rfl)))
subscriptTail Name Name ref int ==> (k_here; k_dflt (refine item_baseL _ (by with_reducible assumption) (by with_reducible assumption) rfl (by with_reducible assumption) (by with_reducible assumption) ?_))"
theorem st16 {rs : List Rule} {rl Dp Dd : Addr} {kp kd : Nat} {pv us : List Value} {ps : Array Value} (d1 : cell (some (.ref rl)) o1) (d2 : cell (some (.ref Dd)) o2) (R : RsIn dl rl rs)
    (hP : (Dp, listOf pv.toArray kp) ∈ dl) (hp : IntsAre pv ((List.range rs.length).map fun (i : Nat) => (i : Int))) (hD : (Dd, listOf us.toArray kd) ∈ dl) (hU : IntsAre us (rs.map dueR))
    {Dx Do : Addr} (F : Fr g L h (fun y => if y = Str.ofString "chains" then some (.ref Dx) else if y = Str.ofString "order" then some (.ref Do) else if y = Str.ofString "places" then some (.ref Dp) else m₀ y)) (N : News g L h (led L o1 o2 o3 o4 o5 (tabsR ps) dl))
    (next : ∀ (h' : Heap) (tk' : Nat) (Dk : Addr) (kk : Nat) (kv : List Value) (dm : List (Addr × Obj)), (∀ p ∈ dl, p ∈ dm) → (Dk, listOf kv.toArray kk) ∈ dm → KeysOrd rs dm kv →
       Fr g L h' (fun y => if y = Str.ofString "keys" then some (.ref Dk) else if y = Str.ofString "chains" then some (.ref Dx) else if y = Str.ofString "order" then some (.ref Do) else if y = Str.ofString "places" then some (.ref Dp) else m₀ y) → Dl L (tabsR #[]) dm → News g L h' (led L o1 o2 o3 o4 o5 (tabsR ps) dm) → LawAt w L a 17 Q E ⟨h', gn, dr, tk', os⟩) :
    LawAt w L a 16 Q E ⟨h, gn, dr, tk, os⟩ := by
  run_tac Mine.Sh.mark
  focus
    obtain ⟨X, T, CH1, CH2, CH3, CH4, CH5⟩ := C
    have N0 := N
    unfold led tabsR at N0
    simp only [List.cons_append, List.nil_append] at N0
    unfold LawAt
    run_tac expose
    clear N
    obtain ⟨Nx, hNx⟩ : ∃ Nx : Shared → Prop, Nx = fun s' => LawAt w L a 17 Q E s' := ⟨_, rfl⟩
    refine law_one (Nx := Nx) (fun s' h => by rw [hNx] at h; exact h) ?_
    obtain ⟨n4, n9, ok, vl, kv, mL, hvl, mR⟩ := R
    have d1' : o1.data = .cell (some (.ref rl)) := d1
    have d2' : o2.data = .cell (some (.ref Dd)) := d2
    have g1 := (N0 (L + 1, o1) (by k_mem)).1
    have g2 := (N0 (L + 1 + 1, o2) (by k_mem)).1
    have lP := news_list N0 (show (Dp, listOf pv.toArray kp) ∈ _ by k_mem)
    have lD := news_list N0 (show (Dd, listOf us.toArray kd) ∈ _ by k_mem)
    have lR := news_list N0 (show (rl, listOf vl.toArray kv) ∈ _ by k_mem)
    have mR' : ∀ (j : Nat) (r : Rule), rs[j]? = some r → ∃ a t1 t2 t3, vl.toArray[j]? = some (.ref a) ∧ h.get? a = some (tupO [.int r.b t1, .int r.h t2, .int r.l t3]) := fun j r e => by
      obtain ⟨v, ev, ar, t1, t2, t3, rfl, mr⟩ := mR j r e
      exact ⟨ar, t1, t2, t3, by simpa using ev, (N0 (ar, _) (by k_mem)).1⟩
    k_steps
    unfold Halt2
    refine comp_list (by exact rfl) (by decide) rfl (by decide) ?_
    k_steps
    rename Fr _ _ _ _ => Fo
    rename News _ _ _ _ => No
    refine ⟨h, Dp, pv.toArray, [], fun i ys tl gn' => gn' = gn ∧ KeysIn rs tl ys i, rfl, rfl, Sub.refl _, Nat.le_refl _, Beside.nil, lP, ?hz, ⟨rfl, rfl, fun j hj => absurd hj (Nat.not_lt_zero _)⟩, ?turn, ?fin⟩
    case hz =>
      have := hp.length
      rw [List.length_map, List.length_range] at this
      rw [List.size_toArray, sizeLine_eq]; omega
    case turn =>
      rintro i v ys tl' C J D' oJ h10 gn10 m10 tk10 E' hv ⟨rfl, hys⟩ F10 N10 off10 ne10 hyl
      clear Fo No
      obtain ⟨x, tx, rfl, hx⟩ := ints_item hp (by simpa using hv)
      obtain ⟨hi, rfl⟩ := range_item hx
      have i63 : (i : Int) < 2 ^ 63 := by omega
      obtain ⟨r, hr⟩ : ∃ r, rs[i]? = some r := ⟨_, List.getElem?_eq_getElem hi⟩
      obtain rfl : r = ruleAt rs i := (ruleAt_some hr).symm
      obtain ⟨ar, t1, t2, t3, ea, ga⟩ := mR' i _ hr
      obtain ⟨td, ed⟩ := ints_at hU (i := i) (k := dueR (ruleAt rs i)) (by rw [List.getElem?_map, hr]; rfl)
      have ed' : us.toArray[i]? = some (.int (dueR (ruleAt rs i)) td) := by simpa using ed
      obtain ⟨b0, b1, _⟩ := ok _ (List.mem_of_getElem? hr)
      k_steps
      rename Fr _ _ _ _ => Fo
      rename News _ _ _ _ => No
      dsimp only
      refine item_base3 0 ga Fo (by rfl) (by decide) (by decide) (by rfl) ?_
      k_steps
      rename Fr _ _ _ _ => Fe
      rename News _ _ _ _ => Nz
      rename (_ ∧ _ ∧ AllLt _ _) => l3
      show CEnd _ _ _ _ _ _ _ _ _ _ _
      refine ⟨_, _, _, _ :: tl', _, rfl, Fe, sub_news Nz swap3, fun p hp => ?_, rfl, keys_snoc hys⟩
      rcases List.mem_cons.mp hp with rfl | hp
      · exact ⟨Nat.ne_of_gt l3.1, Nat.ne_of_gt l3.2.1⟩
      · exact off10 p hp
    case fin =>
      rintro D h10 gn10 tk10 ys tl' ⟨rfl, hys⟩ S10 hD10 gD hyl htl
      have hpv : pv.length = rs.length := by
        have := hp.length
        rwa [List.length_map, List.length_range] at this
      rw [List.size_toArray, hpv] at hys
      have N1 : News g L h (led L o1 o2 o3 o4 o5 (tabsR ps) dl) := No
      have hm : ∀ p ∈ (D, LCg.lst ys) :: tl', h.get? p.1 = none ∧ h10.get? p.1 = some p.2 := fun p hp => by
        rcases List.mem_cons.mp hp with rfl | hp
        · exact ⟨hD10, gD⟩
        · exact ⟨(htl p hp).2.1, (htl p hp).1⟩
      have N10 := led_app Fo (grow_news N1 S10) (fun p hp => (hm p hp).1) fun p hp => (hm p hp).2
      have F10 := sub_fr Fo S10
      have od10 : Dl L (tabsR #[]) (((D, LCg.lst ys) :: tl') ++ dl) := (show Dl L (tabsR ps) _ from dl_app N1 (fun p hp => (hm p hp).1) od)
      have m1 : ∀ p ∈ dl, p ∈ ((D, LCg.lst ys) :: tl') ++ dl := fun p hp => List.mem_append_right _ hp
      have m2 : (D, listOf ys.toArray ys.length) ∈ ((D, LCg.lst ys) :: tl') ++ dl := .head _
      have m3 : KeysIn rs (((D, LCg.lst ys) :: tl') ++ dl) ys rs.length := hys.mono fun p hp => .tail _ (List.mem_append_left _ hp)
      generalize ((D, LCg.lst ys) :: tl') ++ dl = dm at N10 od10 m1 m2 m3
      clear Fo No N1 hm S10 hD10 gD htl hys mR' lP lD lR g1 g2
      unfold led tabsR at N10
      simp only [List.cons_append, List.nil_append] at N10
      k_steps
      unfold Halt2
      rename Fr _ _ _ _ => Fo
      rename News _ _ _ _ => No
      k_here
      have hyl : ys.length = rs.length := m3.1
      refine sorted_T (vs := ys) (ts := (List.range rs.length).map (keyL rs)) (z := 2) (rk := rk3 rs) (news_list No (by k_mem)) (by rw [List.length_map, List.length_range, hyl]) (fun t ht => ?_) (fun i v t e1 e2 => ?_) (fun i j t u e1 e2 => ?_) (by omega) (by omega) fun Dk h11 c11 k11 n11 g11 => ?_
      · obtain ⟨i, _, rfl⟩ := List.mem_map.mp ht; rfl
      · obtain ⟨hi, rfl⟩ := range_key e2
        obtain ⟨a, t1, t2, t3, e3, m⟩ := m3.2 i hi
        rw [e1] at e3
        cases e3
        exact ⟨a, _, rfl, (No (a, _) (by k_mem)).1, .cons _ _ (.cons _ _ (.cons _ _ .nil))⟩
      · obtain ⟨hi, rfl⟩ := range_key e1
        obtain ⟨hj, rfl⟩ := range_key e2
        have bi := bz_low ok hi
        have bj := bz_low ok hj
        exact lex3 bi.1 bi.2 (Int.natCast_nonneg _) (by omega) bj.1 bj.2 (Int.natCast_nonneg _) (by omega)
      have g12 : h11.get? Dk = some (listOf ((ordR rs).map fun i => ys.getD i Value.none).toArray c11) := by
        rw [hyl] at g11
        rw [← ordR_rk3 ok (by omega) n9]
        exact g11
      have m4 := keys_ord (by omega) m3
      generalize ((ordR rs).map fun i => ys.getD i Value.none) = kv at g12 m4
      have N1 : News g L h10 (led L o1 o2 o3 o4 o5 (tabsR ps) dm) := No
      have N11 := led_cons (q := (Dk, listOf kv.toArray c11)) (grow_news N1 ⟨k11⟩) (new_news Fo n11 g12)
      have F11 := sub_fr Fo ⟨k11⟩
      have od11 : Dl L (tabsR #[]) ((Dk, listOf kv.toArray c11) :: dm) := (show Dl L (tabsR ps) _ from dl_cons N1 n11 od10)
      clear Fo No N1 g11 k11
      unfold led tabsR at N11
      simp only [List.cons_append, List.nil_append] at N11
      k_steps
      rename Fr _ _ _ _ => Fe
      rename News _ _ _ _ => Nz
      rw [hNx]
      exact next _ _ Dk c11 kv _ (fun p hp => .tail _ (m1 p hp)) (.head _) (m4.mono fun p hp => .tail _ hp) Fe od11 Nz
  run_tac Mine.Sh.fin
end
section
local macro_rules | `(tactic| walk_at "eval ListComp") => Mine.Tx.line "(k_here; refine halt2 ?_)"
theorem st17 {rs : List Rule} {Do Dk Dx : Addr} {ko kk : Nat} {vo kv : List Value} {ps : Array Value} (n4 : 4 ≤ rs.length) (n9 : rs.length ≤ 9) (hO : (Do, listOf vo.toArray ko) ∈ dl) (ho : IntsAre vo ((ordR rs).map fun (i : Nat) => (i : Int))) (hK : (Dk, listOf kv.toArray kk) ∈ dl) (hKO : KeysOrd rs dl kv)
    (F : Fr g L h (fun y => if y = Str.ofString "keys" then some (.ref Dk) else if y = Str.ofString "chains" then some (.ref Dx) else if y = Str.ofString "order" then some (.ref Do) else m₀ y)) (N : News g L h (led L o1 o2 o3 o4 o5 (tabsR ps) dl))
    (next : ∀ (h' : Heap) (tk' : Nat), Fr g L h' (fun y => if y = Str.ofString "keys" then some (.ref Dk) else if y = Str.ofString "chains" then some (.ref Dx) else if y = Str.ofString "order" then some (.ref Do) else m₀ y) → News g L h' (led L o1 o2 o3 o4 o5 (tabsR ps) dl) → LawAt w L a 18 Q E ⟨h', gn, dr, tk', os⟩) :
    LawAt w L a 17 Q E ⟨h, gn, dr, tk, os⟩ := by
  run_tac Mine.Sh.mark
  focus
    obtain ⟨X, T, CH1, CH2, CH3, CH4, CH5⟩ := C
    have N0 := N
    unfold led tabsR at N0
    simp only [List.cons_append, List.nil_append] at N0
    unfold LawAt
    run_tac expose
    clear N
    obtain ⟨Nx, hNx⟩ : ∃ Nx : Shared → Prop, Nx = fun s' => LawAt w L a 18 Q E s' := ⟨_, rfl⟩
    refine law_one (Nx := Nx) (fun s' h => by rw [hNx] at h; exact h) ?_
    have lK := news_list N0 (show (Dk, listOf kv.toArray kk) ∈ _ by k_mem)
    have hol : (ordR rs).length = rs.length := ord_len (by omega)
    have mK : ∀ i o : Nat, (ordR rs)[i]? = some o → ∃ a t1 t2 t3, kv.toArray[i]? = some (.ref a) ∧ IsTup h a #[.int (dueR (ruleAt rs o)) t1, .int (ruleAt rs o).b t2, .int (o : Int) t3] := fun i o e => by
      obtain ⟨a, t1, t2, t3, e1, m⟩ := hKO.2 i o e
      exact ⟨a, t1, t2, t3, by simpa using e1, _, (N0 (a, _) (by k_mem)).1, rfl, 0, rfl⟩
    k_steps
    unfold Halt2
    refine comp_list (by exact rfl) (by decide) rfl (by decide) ?_
    k_steps
    rename Fr _ _ _ _ => Fo
    rename News _ _ _ _ => No
    refine ⟨h, Dk, kv.toArray, [], fun i ys tl gn' => gn' = gn ∧ tl = [] ∧ IntsAre ys (((ordR rs).take i).map fun (i : Nat) => (i : Int)), rfl, rfl, Sub.refl _, Nat.le_refl _, Beside.nil, lK, ?hz, ⟨rfl, rfl, .nil⟩, ?turn, ?fin⟩
    case hz =>
      rw [List.size_toArray, sizeLine_eq, hKO.1]; omega
    case turn =>
      rintro i v ys tl' C J D' oJ h10 gn10 m10 tk10 E' hv ⟨rfl, rfl, hys⟩ F10 N10 off10 ne10 hyl
      clear Fo No
      have hi : i < (ordR rs).length := by
        have := (Array.getElem?_eq_some_iff.mp hv).1
        rw [List.size_toArray, hKO.1] at this
        exact this
      obtain ⟨o, eo⟩ : ∃ o, (ordR rs)[i]? = some o := ⟨_, List.getElem?_eq_getElem hi⟩
      obtain ⟨ak, t1, t2, t3, e1, oT, eT, cT, zT, dT⟩ := mK i o eo
      obtain rfl : v = .ref ak := by rw [e1] at hv; exact (Option.some.inj hv).symm
      have hit : IsTup h10 ak #[.int (dueR (ruleAt rs o)) t1, .int (ruleAt rs o).b t2, .int (o : Int) t3] := ⟨oT, F10.keep _ _ eT, cT, zT, dT⟩
      k_steps
      rename Fr _ _ _ _ => Fe
      rename News _ _ _ _ => Nz
      show CEnd _ _ _ _ _ _ _ _ _ _ _
      refine ⟨_, _, _, [], _, rfl, Fe, Nz, by simp, rfl, rfl, ?_⟩
      rw [List.take_add_one, eo, List.map_append]
      exact ksk_snoc hys
    case fin =>
      rintro D h10 gn10 tk10 ys tl' ⟨rfl, rfl, hys⟩ S10 hD10 gD hyl htl
      rw [List.size_toArray, hKO.1, List.take_length] at hys
      have F10 := sub_fr Fo S10
      have N1 : News g L h (led L o1 o2 o3 o4 o5 (tabsR ps) dl) := No
      have N10 := grow_news N1 S10
      clear No Fo
      k_here
      refine ke_ne_ints (news_list N10 (mem_led hO)) ⟨_, gD, rfl, _, rfl⟩ ho hys (by ke_room) ?_
      simp only [eq_self, decide_true, Bool.not_true]
      clear N10
      k_steps
      show Nx _
      rw [hNx]
      exact next _ _ F10 (grow_news N1 S10)
  run_tac Mine.Sh.fin
end
section
local macro_rules | `(tactic| walk_at $k) => Mine.Tx.look k.getString "eval ListComp ==> (k_here; refine halt2 ?_)
compareOp Eq ref ref ==> (k_here; refine halt2 ?_)
eval Name ==> (k_here; first | k_dflt (refine' cn_local ?F ?hx ?hv ?hk ?_; (case F => k_asm); (case hx => rfl); (case hv => exact rfl); (case hk => rfl)) | k_dflt (refine' cn_free ?F ?hx ?hc ?hv ?hd ?hk ?_; (case F => k_asm); (case hx => rfl); (case hc => rfl); (case hv => with_reducible assumption); (case hd => with_reducible assumption); (case hk => rfl)) | k_dflt (refine' cn_global ?F ?X ?T ?e ?hx ?hg ?hk ?_; (case F => k_asm); (case X => k_asm); (case T => k_asm); (case e => k_is); (case hx => rfl); (case hg => rfl); (case hk => rfl)))"
theorem st18 {rs : List Rule} {rl Do Dk Dx : Addr} {ko kx : Nat} {vo ds : List Value} {cs : List (List Nat)} {ps : Array Value} (d1 : cell (some (.ref rl)) o1) (R : RsIn dl rl rs) (hO : (Do, listOf vo.toArray ko) ∈ dl) (ho : IntsAre vo ((ordR rs).map fun (i : Nat) => (i : Int)))
    (hX : (Dx, listOf ds.toArray kx) ∈ dl) (hL : ListsIn dl ds cs) (hCs : Chains rs rs.length cs)
    (F : Fr g L h (fun y => if y = Str.ofString "keys" then some (.ref Dk) else if y = Str.ofString "chains" then some (.ref Dx) else if y = Str.ofString "order" then some (.ref Do) else m₀ y)) (N : News g L h (led L o1 o2 o3 o4 o5 (tabsR ps) dl))
    (next : ∀ (h' : Heap) (tk' : Nat), (∀ b o, g.get? b = some o → h'.get? b = some o) → (∀ p ∈ dl, h'.get? p.1 = some p.2) → (∃ ps', h'.get? 146 = some (tabObj ps')) → Q (.ret (.bool true)) ⟨h', gn, dr, tk', os⟩) :
    LawAt w L a 18 Q E ⟨h, gn, dr, tk, os⟩ := by
  run_tac Mine.Sh.mark
  focus
    obtain ⟨X, T, CH1, CH2, CH3, CH4, CH5⟩ := C
    have N0 := N
    unfold led tabsR at N0
    simp only [List.cons_append, List.nil_append] at N0
    unfold LawAt
    run_tac expose
    clear N
    obtain ⟨n4, n9, ok, vl, kv, mL, hvl, mR⟩ := R
    have d1' : o1.data = .cell (some (.ref rl)) := d1
    have hol : (ordR rs).length = rs.length := ord_len (by omega)
    k_steps
    unfold Halt2
    rename Fr _ _ _ _ => Fo
    rename News _ _ _ _ => No
    rename_i D1 h1 l1 D0 h2 l2
    have X2 := X.keeps Fo.keep
    have T2 := T.keeps Fo.keep
    have g1 := (No (L + 1, o1) (by k_mem)).1
    have lO := news_list No (show (Do, listOf vo.toArray ko) ∈ _ by k_mem)
    have hRA : RulesAt h2 rl rs := ⟨vl, news_list No (show (rl, listOf vl.toArray kv) ∈ _ by k_mem), hvl, fun j r e => by
      obtain ⟨v, ev, ar, t1, t2, t3, rfl, mr⟩ := mR j r e
      exact ⟨ar, t1, t2, t3, ev, (No (ar, _) (by k_mem)).1⟩⟩
    refine comp_list (by exact rfl) (by decide) rfl (by decide) ?_
    k_steps
    rename Fr _ _ _ _ => Fo
    rename News _ _ _ _ => No
    refine ⟨h2, Do, vo.toArray, [], fun i ys tl gn' => gn' = gn ∧ ∃ cs' : List (List Nat), Holds rs i cs' ∧ ListsIn tl ys cs', rfl, rfl, Sub.refl _, Nat.le_refl _, Beside.nil, lO, ?hz, ⟨rfl, [], ⟨rfl, fun j o c _ e => nil_at e⟩, rfl, fun j c e => nil_at e⟩, ?turn, ?fin⟩
    case hz =>
      have := ho.length
      rw [List.length_map] at this
      rw [List.size_toArray, sizeLine_eq]; omega
    case turn =>
      rintro i v ys tl' C J D' oJ h10 gn10 m10 tk10 E' hv ⟨rfl, cs', hH, hLs⟩ F10 N10 off10 ne10 hyl
      clear Fo No
      obtain ⟨x, tx, rfl, hx⟩ := ints_item ho (by simpa using hv)
      rw [List.getElem?_map] at hx
      obtain ⟨o, eo, rfl⟩ := Option.map_eq_some_iff.mp hx
      have hon := ord_low (rk := rkP (headsL rs)) (by omega) o (List.mem_of_getElem? eo)
      k_steps
      unfold Halt2
      rename Fr _ _ _ _ => Fe
      rename News _ _ _ _ => Nz
      k_here
      refine law_holders w loose mean mg mb _ _ _ _ _ _ _ rl rs o tx hon n9 ok (hRA.keeps Fe.keep) (X2.keeps Fe.keep) (T2.keeps Fe.keep) (by decide) (by decide) fun D2 ws kk h9 tk9 S9 nD2 gD2 hI => ?_
      obtain ⟨c, ec, rc⟩ := holders_row ok n9 hon
      rw [ec] at hI
      have F9 := sub_fr Fe S9
      have q2 := new_news Fe nD2 gD2
      have neJ := new_ne Nz nD2 (J, oJ) (.head _)
      have neD := new_ne Nz nD2 (D', LCg.lst ys) (.tail _ (.head _))
      show CEnd _ _ _ _ _ _ _ _ _ _ _
      refine ⟨h9, _, tk9, (D2, listOf ws.toArray kk) :: tl', _, rfl, F9, fun p hp => ?_, fun p hp => ?_, rfl, cs' ++ [c], hH.snoc eo rc, lists_snoc hLs hI⟩
      · rcases List.mem_cons.mp hp with rfl | hp
        · exact grow_news Nz S9 _ (.head _)
        rcases List.mem_cons.mp hp with rfl | hp
        · exact grow_news Nz S9 _ (.tail _ (.head _))
        rcases List.mem_cons.mp hp with rfl | hp
        · exact q2
        · exact grow_news Nz S9 p (.tail _ (.tail _ hp))
      · rcases List.mem_cons.mp hp with rfl | hp
        · exact ⟨neJ.symm, neD.symm⟩
        · exact off10 p hp
    case fin =>
      rintro D h10 gn10 tk10 ys tl' ⟨rfl, cs', hH, hLs⟩ S10 hD10 gD hyl htl
      have hvo : vo.length = rs.length := by have := ho.length; rw [List.length_map] at this; omega
      rw [List.size_toArray, hvo] at hH
      have N1 : News g L h2 ((D0, listOf [Value.ref D1].toArray 0) :: (D1, listOf ([] : List Value).toArray 0) :: led L o1 o2 o3 o4 o5 (tabsR ps) dl) := No
      have hm : ∀ p ∈ (D, LCg.lst ys) :: tl', h2.get? p.1 = none ∧ h10.get? p.1 = some p.2 := fun p hp => by
        rcases List.mem_cons.mp hp with rfl | hp
        · exact ⟨hD10, gD⟩
        · exact ⟨(htl p hp).2.1, (htl p hp).1⟩
      have F10 := sub_fr Fo S10
      have N10 : News g L h10 (((D, LCg.lst ys) :: tl') ++ ((D0, listOf [Value.ref D1].toArray 0) :: (D1, listOf ([] : List Value).toArray 0) :: led L o1 o2 o3 o4 o5 (tabsR ps) dl)) := fun p hp => by
        rcases List.mem_append.mp hp with hp | hp
        · exact new_news Fo (hm p hp).1 (hm p hp).2
        · exact grow_news N1 S10 p hp
      clear No Fo
      have hys : ys.length = rs.length := hLs.1.trans hH.len
      k_here
      refine add_arrays (its := #[Value.ref D1]) (its2 := ys.toArray) F10 N10 ⟨_, (N10 (D0, _) (List.mem_append_right _ (.head _))).1, rfl, _, rfl⟩ ⟨_, (N10 (D, _) (.head _)).1, rfl, _, rfl⟩ (fun h11 F11 N11 => ?_) (by rw [sizeLine_eq]; show 1 + ys.length ≤ _; omega)
      dsimp only at N11 ⊢
      have mD1 : (D1, listOf ([] : List Value).toArray 0) ∈ ((D, LCg.lst ys) :: tl') ++ ((D0, listOf [Value.ref D1].toArray 0) :: (D1, listOf ([] : List Value).toArray 0) :: led L o1 o2 o3 o4 o5 (tabsR ps) dl) := List.mem_append_right _ (.tail _ (.head _))
      have m146 : ((146 : Addr), tabObj ps) ∈ led L o1 o2 o3 o4 o5 (tabsR ps) dl := .tail _ (.tail _ (.tail _ (.tail _ (.tail _ (.head _)))))
      have mdl : ∀ p ∈ dl, p ∈ ((D, LCg.lst ys) :: tl') ++ ((D0, listOf [Value.ref D1].toArray 0) :: (D1, listOf ([] : List Value).toArray 0) :: led L o1 o2 o3 o4 o5 (tabsR ps) dl) := fun p hp => List.mem_append_right _ (.tail _ (.tail _ (mem_led hp)))
      have mtl : ∀ p ∈ tl', p ∈ ((D, LCg.lst ys) :: tl') ++ ((D0, listOf [Value.ref D1].toArray 0) :: (D1, listOf ([] : List Value).toArray 0) :: led L o1 o2 o3 o4 o5 (tabsR ps) dl) := fun p hp => List.mem_append_left _ (.tail _ hp)
      refine kqd_eq (xs := ds) (ys := .ref D1 :: ys) (ds := cs.map datL) (es := ([] :: cs').map datL) (n₁ := dl) (n₂ := (D1, listOf ([] : List Value).toArray 0) :: tl') N11 (.tail _ (mdl _ hX)) rfl rfl (lists_dat hL) (fun p hp => .tail _ (mdl p hp)) (.head _) rfl rfl (.cons (.list (.head _) .nil) (lists_dat (hLs.mono fun p hp => .tail _ hp))) (fun p hp => ?_) datL_ok datL_ok (by ke_room) ?_
      · rcases List.mem_cons.mp hp with rfl | hp
        · exact .tail _ mD1
        · exact .tail _ (mtl p hp)
      · rw [chains_eq hol hCs hH]
        simp only [eq_self, decide_true]
        exact next _ _ F11.keep (fun p hp => (N11 p (.tail _ (mdl p hp))).1) ⟨ps, (N11 (146, tabObj ps) (.tail _ (List.mem_append_right _ (.tail _ (.tail _ m146))))).1⟩
  run_tac Mine.Sh.fin
end
end
end

section -- LA
section
variable {w : World} {loose : List Str} {mean : ExcName → Option Value} {mg mb : Str → Option Value} {g : Heap}
theorem law_all (C : LawCtx w loose mean mg mb g) {L a : Addr} {h : Heap} {gn : Array GenState} {dr : Drawn} {tk : Nat} {os : OsState} {m₀ : Str → Option Value} {Q : Flow → Shared → Prop} {E : Value → Shared → Prop} (hE : PassesOwn (model prg w) (lawA L a) (lawEnv L a) E)
    {o1 o2 o3 o4 o5 : Obj} (lt : @LT.lt Nat _ 134 L ∧ @LT.lt Nat _ 87 L ∧ @LT.lt Nat _ 57 L ∧ @LT.lt Nat _ 50 L ∧ @LT.lt Nat _ 146 L) {sc : Addr} {vs : List Value} {ns : List Int} (hl : g.IsList sc vs.toArray) (hi : IntsAre vs ns) (hn : ns.length ≤ 63)
    (d1 : cell none o1) (d2 : cell none o2) (d3 : cell none o3) (d4 : cell none o4) (d5 : cell none o5)
    (F : Fr g L h (fun y => if y = Str.ofString "script" then some (.ref sc) else m₀ y)) (N : News g L h (led L o1 o2 o3 o4 o5 tabs []))
    (done : ∀ (h' : Heap) (gn' : Array GenState) (tk' : Nat), (∀ b o, g.get? b = some o → h'.get? b = some o) → (AllBare gn → AllBare gn') → (∀ P ∈ [(134 : Addr), 87, 57, 50, 146], ∃ ps, h'.get? P = some (tabObj ps)) → Q (.ret (.bool true)) ⟨h', gn', dr, tk', os⟩) : LawAt w L a 0 Q E ⟨h, gn, dr, tk, os⟩ := by
  run_tac Mine.Sh.mark
  focus
    refine st0 C dl_nil lt hl hi hn F N fun h1 tk1 D1 k1 xs ds m1 hx h9 F1 od1 N1 => ?_
    refine st1 C od1 lt hx h9 (.head _) d1 F1 N1 fun h2 tk2 rl rs o1' m2 dl2 e1 R2 F2 od2 N2 => ?_
    have n4 := R2.n4
    have n9 := R2.n9
    have ok := R2.ok
    refine st2 C hE od2 lt e1 R2 F2 N2 fun h3 tk3 D3 k3 ws m3 hw F3 od3 N3 => ?_
    have R3 := R2.mono (dl' := (D3, listOf ws.toArray k3) :: dl2) fun p hp => .tail _ hp
    refine st4 C od3 lt d5 n9 ok hw (.head _) F3 N3 fun h4 tk4 tp Dt kt tv o5' m4 dm4 e5 s4 mT hR hTape ⟨p134, g134⟩ ⟨p87, g87⟩ F4 od4 N4 => ?_
    have R4 := R3.mono s4
    have hwl : ws.length = 1 + 4 * rs.length := by
      have := hw.length
      rw [this, List.length_cons, List.length_flatMap]
      simp only [List.length_cons, List.length_nil, Nat.zero_add, Nat.reduceAdd, List.map_const', List.sum_replicate_nat]
      omega
    refine st6 C od4 lt e1 e5 R4 mT hR F4 N4 fun h6 tk6 F6 N6 => ?_
    refine st7 C od4 lt n9 hTape (s4 _ (.head _)) hwl F6 N6 fun h7 tk7 F7 N7 => ?_
    refine st8 C od4 lt e1 R4 F7 N7 fun h8 tk8 Dp kp pv hp F8 od8 N8 => ?_
    refine st9 C hE od8 lt n4 n9 ok d4 e5 (.tail _ mT) (hR.mono fun p hp => .tail _ hp) F8 N8 fun h9' tk9 Dh kh hs c1 o4' m9 dm9 e4 s9 mH hH F9 od9 N9 => ?_
    refine st11 C od9 lt n4 n9 ok e4 mH hH (s9 _ (.head _)) hp F9 N9 fun h11 tk11 Do c2 ko vo dm11 s11' mO ⟨p57, g57⟩ ho F11 od11 N11 => ?_
    have s11 : ∀ p ∈ dm4, p ∈ dm11 := fun p hp => s11' _ (s9 _ (.tail _ hp))
    have R11 := R4.mono s11
    refine st12 C od11 lt e1 d3 R11 F11 N11 fun h12 gn12 tk12 Dc kc cvs pss o3' dm12 e3 s12 mC hCI hpl ⟨p50, g50⟩ bb F12 od12 N12 => ?_
    have s12' : ∀ p ∈ dm4, p ∈ dm12 := fun p hp => s12 _ (s11 _ hp)
    refine st13 C od12 lt n4 n9 ok e3 e5 (s12' _ mT) (hR.mono s12') mC hCI hpl (s12 _ mO) ho F12 N12 fun h13 tk13 Dx kx ds' cs ps13 dm13 s13 mX hLs hCs F13 od13 N13 => ?_
    have s13' : ∀ p ∈ dm4, p ∈ dm13 := fun p hp => s13 _ (s12' _ hp)
    refine st14 C hE od13 lt e1 d2 (R4.mono s13') F13 N13 fun h14 tk14 Dd kd us o2' m14 e2 hU F14 od14 N14 => ?_
    refine st16 C od14 lt e1 e2 (R4.mono fun p hp => .tail _ (s13' _ hp)) (.tail _ (s13 _ (s12 _ (s11' _ (s9 _ (.head _)))))) hp (.head _) hU F14 N14 fun h16 tk16 Dk kk kv dm16 s16 mK hKO F16 od16 N16 => ?_
    have hO : (Do, listOf vo.toArray ko) ∈ dm16 := s16 _ (.tail _ (s13 _ (s12 _ mO)))
    refine st17 C od16 lt n4 n9 hO ho mK hKO F16 N16 fun h17 tk17 F17 N17 => ?_
    refine st18 C od16 lt e1 (R4.mono fun p hp => s16 _ (.tail _ (s13' _ hp))) hO ho (s16 _ (.tail _ mX)) (hLs.mono fun p hp => s16 _ (.tail _ hp)) hCs F17 N17 fun h' tk' kg kd k146 => done h' gn12 tk' kg bb fun P hP => ?_
    have u13 : ∀ p ∈ dm13, p ∈ dm16 := fun p hp => s16 _ (.tail _ hp)
    simp only [List.mem_cons, List.not_mem_nil, or_false] at hP
    rcases hP with rfl | rfl | rfl | rfl | rfl
    · exact ⟨_, kd _ (u13 _ (s13' _ g134))⟩
    · exact ⟨_, kd _ (u13 _ (s13' _ g87))⟩
    · exact ⟨_, kd _ (u13 _ (s13 _ (s12 _ g57)))⟩
    · exact ⟨_, kd _ (u13 _ (s13 _ g50))⟩
    · exact k146
  run_tac Mine.Sh.fin
end
end

section -- LM
set_option maxHeartbeats 8000000

theorem law_post {M : Model} {A : Around} {cd : Code} {s s₁ : Shared} {cw : ClaimW} {cl : Str → Option Addr} {mean : ExcName → Option Value} {args : List WData} {tabs : List (Addr × Addr)} (hT : TabsAt tabs s₁.heap) (hr : ∀ a x, cw.raises a x = false) (hpost : cw.post args (.bool true) args = true)
    (h : codeAny M A cd (fun r s' => r = .ok (.ret (.bool true)) ∧ (∀ b o, (ghostOf s₁.heap tabs).get? b = some o → s'.heap.get? b = some o) ∧ s'.os = s₁.os ∧ AllBare s'.gens ∧ GrownAll tabs s'.heap) s) : codeAny M A cd (GoodWG cw cl mean args s₁) s := by
  run_tac Mine.Sh.mark
  focus
    refine codeAny_mono h fun r s' hq => ?_
    obtain ⟨rfl, hk, hos, hb, hgr⟩ := hq
    have old : ∀ (b : Addr) (o : Obj), s₁.heap.get? b = some o → (b ∉ tabs.map (fun q => q.2) ∧ s'.heap.get? b = some o) ∨ ∃ ps, isCodeTable s₁.heap b ∧ o = tabObj #[] ∧ s'.heap.get? b = some (tabObj ps) := fun b o e => by
      by_cases hm : b ∈ tabs.map (fun q => q.2)
      · obtain ⟨q, hq, rfl⟩ := List.mem_map.mp hm
        obtain ⟨t1, t2⟩ := hT q hq
        rw [e] at t2
        obtain ⟨ps, hP⟩ := hgr.get q hq
        exact .inr ⟨ps, (t1.tab (hT q hq).2).isCodeTable, Option.some.inj t2, hP⟩
      · exact .inl ⟨hm, hk b o (ghost_ne e hm)⟩
    refine ⟨.inl ⟨.bool true, .bool true, [], rfl, fun x => hr args x, .bool true, hpost, fun _ => ⟨List.nodup_nil, fun _ hm => nomatch hm⟩⟩, ⟨fun b o e => ?_, fun b o e => ?_⟩, hos, hb⟩
    · rcases old b o e with ⟨_, e2⟩ | ⟨ps, t1, rfl, e2⟩
      · exact .inl e2
      · exact .inr (.inl ⟨t1, rfl, #[], ps, rfl, by rw [Array.empty_append]; exact e2⟩)
    · rcases old b o e with ⟨_, e2⟩ | ⟨ps, _, _, e2⟩
      · exact ⟨_, e2⟩
      · exact ⟨_, e2⟩
  run_tac Mine.Sh.fin
theorem wrap_script {g h : Heap} {L sc : Addr} {its : Array Value} {m : Str → Option Value} (hl : g.IsList sc its) (F : Fr g L h m) (e : m (Str.ofString "script") = some (.ref sc)) : Fr g L h (fun y => if y = Str.ofString "script" then some (.ref sc) else m y) := Fr.wrap F _ _ e
open Lean Meta Elab Tactic in
def toLaw : TacticM Unit := do
  let g ← getMainGoal
  g.withContext do
    let t := (← instantiateMVars (← g.getType)).consumeMData
    let as := t.getAppArgs
    let n := as.size
    unless t.isAppOf ``wpAny do throwError "toLaw: another goal {t.ctorName} {t.getAppFn.ctorName} {t.getAppNumArgs}"
    let s := as[n-1]!
    let E := as[n-2]!
    let Q := as[n-3]!
    let m := as[n-4]!
    let M := as[n-6]!
    let env := m.appArg!
    unless env.isAppOf ``envOfC do throwError "toLaw: no envOfC {env.ctorName}"
    let es := env.getAppArgs
    let t' := mkAppN (mkConst ``LawAt) #[M.appArg!, es[2]!, es[3]!, mkNatLit 0, Q, E, s]
    check t'
    replaceMainGoal [← g.replaceTargetDefEq t']
open Lean Meta Elab Tactic in
def pick (n : Name) (f : Lean.Expr → Bool) : TacticM Unit := do
  let g ← getMainGoal
  g.withContext do
    let find : MetaM (Option FVarId) := Mine.Li.lo (fun (acc : MetaM (Option FVarId)) (d : Option LocalDecl) => do
      let r ← acc
      match d with
      | none => return r
      | some d =>
        if d.isImplementationDetail || d.userName == n then return r
        return if f (← instantiateMVars d.type).consumeMData then some d.fvarId else r) (pure none) (← getLCtx).decls.toList
    let x ← find
    let some v := x | throwError "pick: none for {n}"
    replaceMainGoal [← g.rename v n]

theorem theLaw : PySem.Challenge.rw_ik0156_01.Holds := by
  run_tac Mine.Sh.mark
  focus
    refine Mine.hd ?_
    k_fill
    intro w s₀ s₁ mg mb G Y fa o pm cd doc dV kV ho hd hcd hD hmg hg args vals as hpre hlay hrd hwl hlo
    have KX := km_in_of Y
    km_tabs Y
    have X := (Ground.X G).1
    have V := (Ground.X G).2
    refine Ground.open G ?_
    intro T B D TE TW
    try (refine guard_noD D (by decide +kernel) ?_; clear D)
    km_lay T hmg ho hd cd
    clear hmg
    wrow_args hpre hlay hrd hwl hlo
    first | refine callC_kw (enter_call ?_) | refine enter_call ?_
    w_top on
    refine Mine.law_post hT9 (fun _ _ => rfl) ?_ ?_
    · kernel_rfl
    w_call any ho hd hcd hD T F
    clear hd
    kn_ghosts F T
    k_drop
    run_tac Mine.toLaw
    run_tac Mine.pick `F fun t => t.isAppOf ``Fr
    run_tac Mine.pick `N fun t => t.isAppOf ``News
    run_tac Mine.pick `hI fun t => t.isAppOf ``IntsAre
    run_tac Mine.pick `T2 fun t => t.isAppOf ``Top && (t.getAppArgs[0]!).isAppOf ``topProg
    run_tac Mine.pick `X2 fun t => t.isAppOf ``Frag.In
    run_tac Mine.pick `lt fun t => t.isAppOf ``And && (t.appFn!.appArg!).isAppOf ``LT.lt
    run_tac Mine.pick `hn fun t => t.isAppOf ``Not
    run_tac Mine.pick `c1 fun t => t.isAppOf ``CodeHd && ((t.getAppArgs[1]!).find? fun e => e.rawNatLit? == some 138).isSome
    run_tac Mine.pick `c2 fun t => t.isAppOf ``CodeHd && ((t.getAppArgs[1]!).find? fun e => e.rawNatLit? == some 91).isSome
    run_tac Mine.pick `c3 fun t => t.isAppOf ``CodeHd && ((t.getAppArgs[1]!).find? fun e => e.rawNatLit? == some 61).isSome
    run_tac Mine.pick `c4 fun t => t.isAppOf ``CodeHd && ((t.getAppArgs[1]!).find? fun e => e.rawNatLit? == some 54).isSome
    run_tac Mine.pick `c5 fun t => t.isAppOf ``CodeHd && ((t.getAppArgs[1]!).find? fun e => e.rawNatLit? == some 148).isSome
    have C : Mine.LawCtx w _ _ _ _ _ := ⟨X2, T2, c1, c2, c3, c4, c5⟩
    run_tac Mine.pick `d5 fun t => t.isAppOfArity ``Eq 3 && (t.appArg!).isAppOf ``Data.cell && ((t.appArg!.appArg!.appArg!).find? fun e => e == .lit (.strVal "table")).isSome
    run_tac Mine.pick `d4 fun t => t.isAppOfArity ``Eq 3 && (t.appArg!).isAppOf ``Data.cell && ((t.appArg!.appArg!.appArg!).find? fun e => e == .lit (.strVal "heads")).isSome
    run_tac Mine.pick `d3 fun t => t.isAppOfArity ``Eq 3 && (t.appArg!).isAppOf ``Data.cell && ((t.appArg!.appArg!.appArg!).find? fun e => e == .lit (.strVal "codes")).isSome
    run_tac Mine.pick `d2 fun t => t.isAppOfArity ``Eq 3 && (t.appArg!).isAppOf ``Data.cell && ((t.appArg!.appArg!.appArg!).find? fun e => e == .lit (.strVal "due")).isSome
    run_tac Mine.pick `d1 fun t => t.isAppOfArity ``Eq 3 && (t.appArg!).isAppOf ``Data.cell && ((t.appArg!.appArg!.appArg!).find? fun e => e == .lit (.strVal "rules")).isSome
    replace d1 := d1.trans (congrArg Data.cell (a₂ := none) (by kernel_rfl!))
    replace d2 := d2.trans (congrArg Data.cell (a₂ := none) (by kernel_rfl!))
    replace d3 := d3.trans (congrArg Data.cell (a₂ := none) (by kernel_rfl!))
    replace d4 := d4.trans (congrArg Data.cell (a₂ := none) (by kernel_rfl!))
    replace d5 := d5.trans (congrArg Data.cell (a₂ := none) (by kernel_rfl!))
    replace hn := Nat.not_lt.mp fun q => hn (Int.ofNat_lt.mpr q)
    have F2 := Mine.wrap_script lifted F (by kernel_rfl!)
    clear F
    refine Mine.law_all C ?hE lt lifted hI hn d1 d2 d3 d4 d5 F2 N fun h' gn' tk' kg bb kt => ?done
    case done =>
      exact ⟨rfl, kg, rfl, bb (.of_eq hg), kt _ (.head _), kt _ (.tail _ (.head _)), kt _ (.tail _ (.tail _ (.head _))), kt _ (.tail _ (.tail _ (.tail _ (.head _)))), kt _ (.tail _ (.tail _ (.tail _ (.tail _ (.head _))))), trivial⟩
    case hE => first | passes_own | with_unfolding_all passes_own
  run_tac Mine.Sh.fin
end

end Mine

theorem PySem.Challenge.cw_ik0156_01_holds : PySem.Challenge.rw_ik0156_01.Holds :=
  Mine.theLaw
