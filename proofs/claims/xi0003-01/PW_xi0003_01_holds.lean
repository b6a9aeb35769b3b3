import PyProof.Rows.All
import Wide.All
import OpenK.AllK
import Wide.FinOn
import PySem.Challenge.RW_xi0003_01
set_option Elab.async false
set_option linter.all false

namespace Xi
section
open PySem PySem.W PyProof.Rows
set_option maxRecDepth 100000
set_option maxHeartbeats 8000000
open_top hd for PySem.Challenge.rw_xi0003_01
example : True := by
  first | (have : PySem.Challenge.rw_xi0003_01.Holds := hd (by k_fill; fail "kept")); trivial | trivial
end

section
noncomputable section
noncomputable def gt {α : Type} (d : α) (l : List α) (i : Nat) : α := List.rec (fun _ => d) (fun x _ ih i => Nat.rec x (fun j _ => ih j) i) l i
noncomputable def gP (l : List Prop) (i : Nat) : Prop := List.rec (fun _ => True) (fun x _ ih i => Nat.rec x (fun j _ => ih j) i) l i
/-- the value of letter i: an even one is a natural number, an odd one a whole one -/
noncomputable def lv (ρ : List Int) (σ : List Nat) (i : Nat) : Int := cond (Nat.beq (i % 2) 0) ((gt 0 σ (i / 2) : Nat) : Int) (gt 0 ρ (i / 2))
noncomputable def lz (ρ : List Int) (σ : List Nat) (t : Int.Internal.Linear.Expr) : Int :=
  Int.Internal.Linear.Expr.rec (fun c => c) (fun i => lv ρ σ i) (fun _ _ x y => x + y) (fun _ _ x y => x - y) (fun _ x => -x) (fun c _ x => c * x) (fun _ c x => x * c) t
noncomputable abbrev LF := Nat × Int.Internal.Linear.Expr × Int.Internal.Linear.Expr
/-- 0 ≤, 1 <, 2 =, of whole numbers; 3, 4, 5 of natural ones; 6 not =, 7 not = of natural ones, 8 never -/
noncomputable def fz (ρ : List Int) (σ : List Nat) (f : LF) : Prop :=
  gP [lz ρ σ f.2.1 ≤ lz ρ σ f.2.2, lz ρ σ f.2.1 < lz ρ σ f.2.2, lz ρ σ f.2.1 = lz ρ σ f.2.2, (lz ρ σ f.2.1).toNat ≤ (lz ρ σ f.2.2).toNat,
    (lz ρ σ f.2.1).toNat < (lz ρ σ f.2.2).toNat, (lz ρ σ f.2.1).toNat = (lz ρ σ f.2.2).toNat, ¬lz ρ σ f.2.1 = lz ρ σ f.2.2, ¬(lz ρ σ f.2.1).toNat = (lz ρ σ f.2.2).toNat, False] f.1
noncomputable def fAll (ρ : List Int) (σ : List Nat) (fs : List LF) : Prop := List.rec True (fun f _ p => fz ρ σ f ∧ p) fs
noncomputable def fImp (ρ : List Int) (σ : List Nat) (fs : List LF) (G : Prop) : Prop := List.rec G (fun f _ p => fz ρ σ f → p) fs
theorem fImp_of {ρ : List Int} {σ : List Nat} {G : Prop} : ∀ {fs : List LF}, (fAll ρ σ fs → G) → fImp ρ σ fs G
  | [], h => h trivial
  | _ :: _, h => fun p => fImp_of fun q => h ⟨p, q⟩
/-- a sum of letters: the figure first -/
noncomputable def pAdd (p : List Int) : List Int → List Int := List.rec (fun q => q) (fun c t ih q => List.rec (c :: t) (fun d u _ => (c + d) :: ih u) q) p
noncomputable def pMul (k : Int) (p : List Int) : List Int := List.rec [] (fun c _ r => (k * c) :: r) p
noncomputable def pVar (i : Nat) : List Int := Nat.rec [1] (fun _ r => 0 :: r) i
noncomputable def pE (f : Nat → Int) (p : List Int) : Nat → Int := List.rec (fun _ => 0) (fun c _ ih i => c * f i + ih (i + 1)) p
theorem pE_add {f : Nat → Int} : ∀ (p q : List Int) (i : Nat), pE f (pAdd p q) i = pE f p i + pE f q i
  | [], q, i => (Int.zero_add _).symm
  | c :: t, [], i => (Int.add_zero _).symm
  | c :: t, d :: u, i => by
    show (c + d) * f i + pE f (pAdd t u) (i + 1) = (c * f i + pE f t (i + 1)) + (d * f i + pE f u (i + 1))
    rw [pE_add t u, Int.add_mul, Int.add_assoc, Int.add_assoc, Int.add_left_comm (d * f i)]
theorem pE_mul {f : Nat → Int} (k : Int) : ∀ (p : List Int) (i : Nat), pE f (pMul k p) i = k * pE f p i
  | [], _ => (Int.mul_zero k).symm
  | c :: t, i => by
    show k * c * f i + pE f (pMul k t) (i + 1) = k * (c * f i + pE f t (i + 1))
    rw [pE_mul k t, Int.mul_add, Int.mul_assoc]
theorem pE_var {f : Nat → Int} : ∀ (n i : Nat), pE f (pVar n) i = f (i + n)
  | 0, i => by show 1 * f i + 0 = f i; rw [Int.add_zero, Int.one_mul]
  | n + 1, i => by
    show 0 * f i + pE f (pVar n) (i + 1) = f (i + (n + 1))
    rw [pE_var n, Int.zero_mul, Int.zero_add, Nat.add_assoc, Nat.add_comm 1 n]
noncomputable def le1 (ρ : List Int) (σ : List Nat) (i : Nat) : Int := Nat.rec 1 (fun j _ => lv ρ σ j) i
noncomputable def lp (t : Int.Internal.Linear.Expr) : List Int :=
  Int.Internal.Linear.Expr.rec (fun c => [c]) (fun i => pVar (i + 1)) (fun _ _ x y => pAdd x y) (fun _ _ x y => pAdd x (pMul (-1) y)) (fun _ x => pMul (-1) x) (fun c _ x => pMul c x) (fun _ c x => pMul c x) t
theorem lp_z {ρ : List Int} {σ : List Nat} (t : Int.Internal.Linear.Expr) : pE (le1 ρ σ) (lp t) 0 = lz ρ σ t := by
  induction t with
  | num c => exact (Int.add_zero _).trans (Int.mul_one c)
  | var i => exact (pE_var (i + 1) 0).trans (congrArg (le1 ρ σ) (Nat.zero_add (i + 1)))
  | add x y hx hy => exact (pE_add (lp x) (lp y) 0).trans (congr (congrArg HAdd.hAdd hx) hy)
  | sub x y hx hy => exact (pE_add (lp x) (pMul (-1) (lp y)) 0).trans (congr (congrArg HAdd.hAdd hx) ((pE_mul (-1) (lp y) 0).trans ((Int.neg_one_mul _).trans (congrArg Neg.neg hy))))
  | neg x hx => exact (pE_mul (-1) (lp x) 0).trans ((Int.neg_one_mul _).trans (congrArg Neg.neg hx))
  | mulL c x hx => exact (pE_mul c (lp x) 0).trans (congrArg (HMul.hMul c) hx)
  | mulR x c hx => exact (pE_mul c (lp x) 0).trans ((Int.mul_comm _ _).trans (congrArg (fun a => a * c) hx))
noncomputable def lpos (t : Int.Internal.Linear.Expr) : Bool :=
  Int.Internal.Linear.Expr.rec (fun c => decide (0 ≤ c)) (fun i => Nat.beq (i % 2) 0) (fun _ _ x y => x && y) (fun _ _ _ _ => false) (fun _ _ => false) (fun c _ x => decide (0 ≤ c) && x) (fun _ c x => decide (0 ≤ c) && x) t
theorem lpos_ok {ρ : List Int} {σ : List Nat} (t : Int.Internal.Linear.Expr) (h : lpos t = true) : 0 ≤ lz ρ σ t := by
  induction t with
  | num c => exact of_decide_eq_true h
  | var i =>
    show 0 ≤ lv ρ σ i
    unfold lv
    have : Nat.beq (i % 2) 0 = true := h
    rw [this]
    exact Int.natCast_nonneg _
  | add x y hx hy =>
    have h : (lpos x && lpos y) = true := h
    rw [Bool.and_eq_true] at h
    exact Int.add_nonneg (hx h.1) (hy h.2)
  | sub x y => exact absurd h Bool.false_ne_true
  | neg x => exact absurd h Bool.false_ne_true
  | mulL c x hx =>
    have h : (decide (0 ≤ c) && lpos x) = true := h
    rw [Bool.and_eq_true] at h
    exact Int.mul_nonneg (of_decide_eq_true h.1) (hx h.2)
  | mulR x c hx =>
    have h : (decide (0 ≤ c) && lpos x) = true := h
    rw [Bool.and_eq_true] at h
    exact Int.mul_nonneg (hx h.2) (of_decide_eq_true h.1)
/-- what a fact tells: a sum that is nought (true) or not below nought -/
noncomputable def fd (f : LF) : List Int := pAdd (lp f.2.2) (pMul (-1) (lp f.2.1))
noncomputable def fp (f : LF) : Bool × List Int :=
  gt (false, []) [(false, fd f), (false, pAdd [-1] (fd f)), (true, fd f), (false, cond (lpos f.2.2) (fd f) []), (false, pAdd [-1] (fd f)), cond (lpos f.2.1 && lpos f.2.2) (true, fd f) (false, [])] f.1
theorem fd_z {ρ : List Int} {σ : List Nat} (f : LF) : pE (le1 ρ σ) (fd f) 0 = lz ρ σ f.2.2 - lz ρ σ f.2.1 := by
  unfold fd
  rw [pE_add, pE_mul, lp_z, lp_z, Int.neg_one_mul]; rfl
theorem fd_z1 {ρ : List Int} {σ : List Nat} (f : LF) : pE (le1 ρ σ) (pAdd [-1] (fd f)) 0 = lz ρ σ f.2.2 - lz ρ σ f.2.1 - 1 := by
  rw [pE_add, fd_z]
  show (-1) * 1 + 0 + _ = _
  rw [Int.add_zero, Int.mul_one, Int.add_comm]; rfl
noncomputable def fOk (ρ : List Int) (σ : List Nat) (b : Bool × List Int) : Prop := 0 ≤ pE (le1 ρ σ) b.2 0 ∧ (b.1 = true → pE (le1 ρ σ) b.2 0 = 0)
theorem fp_ok {ρ : List Int} {σ : List Nat} (f : LF) (h : fz ρ σ f) : fOk ρ σ (fp f) := by
  obtain ⟨t, x, y⟩ := f
  have t0 : fOk ρ σ (false, []) := ⟨Int.le_refl 0, fun h => absurd h Bool.false_ne_true⟩
  have tf : ∀ p, 0 ≤ pE (le1 ρ σ) p 0 → fOk ρ σ (false, p) := fun p h => ⟨h, fun h => absurd h Bool.false_ne_true⟩
  have tt : ∀ p, pE (le1 ρ σ) p 0 = 0 → fOk ρ σ (true, p) := fun p h => ⟨Int.le_of_eq h.symm, fun _ => h⟩
  match t, h with
  | 0, h => exact tf _ (by rw [fd_z]; exact Int.sub_nonneg_of_le h)
  | 1, h => exact tf _ (by rw [fd_z1]; exact Int.le_sub_one_of_lt (Int.sub_pos_of_lt h))
  | 2, h => exact tt _ (by rw [fd_z]; exact Int.sub_eq_zero_of_eq (Eq.symm h))
  | 3, h =>
    have h : (lz ρ σ x).toNat ≤ (lz ρ σ y).toNat := h
    show fOk ρ σ (false, cond (lpos y) (fd (3, x, y)) [])
    cases e : lpos y with
    | false => exact t0
    | true =>
      refine tf _ ?_
      show 0 ≤ pE _ (fd _) 0
      rw [fd_z]
      exact Int.sub_nonneg_of_le (Int.le_trans (Int.toNat_le.mp h) (Int.le_of_eq (Int.toNat_of_nonneg (lpos_ok (ρ := ρ) (σ := σ) y e))))
  | 4, h =>
    have h : (lz ρ σ x).toNat < (lz ρ σ y).toNat := h
    refine tf _ ?_
    rw [fd_z1]
    exact Int.le_sub_one_of_lt (Int.sub_pos_of_lt (Int.lt_of_le_of_lt (Int.self_le_toNat _) (Int.lt_toNat.mp h)))
  | 5, h =>
    have h : (lz ρ σ x).toNat = (lz ρ σ y).toNat := h
    show fOk ρ σ (cond (lpos x && lpos y) (true, fd (5, x, y)) (false, []))
    cases e : (lpos x && lpos y) with
    | false => exact t0
    | true =>
      rw [Bool.and_eq_true] at e
      refine tt _ ?_
      rw [fd_z]
      exact Int.sub_eq_zero_of_eq ((Int.toNat_of_nonneg (lpos_ok (ρ := ρ) (σ := σ) y e.2)).symm.trans ((congrArg Nat.cast h.symm).trans (Int.toNat_of_nonneg (lpos_ok (ρ := ρ) (σ := σ) x e.1))))
  | n + 6, _ => exact t0
noncomputable def fTot (fs : List LF) : List Int → List Int :=
  List.rec (fun _ => []) (fun f _ ih ls => List.rec [] (fun l u _ => pAdd (pMul (cond (fp f).1 l (l.toNat : Int)) (fp f).2) (ih u)) ls) fs
theorem fTot_ok {ρ : List Int} {σ : List Nat} : ∀ (fs : List LF) (ls : List Int), fAll ρ σ fs → 0 ≤ pE (le1 ρ σ) (fTot fs ls) 0
  | [], _, _ => Int.le_refl 0
  | _ :: _, [], _ => Int.le_refl 0
  | f :: fs, l :: ls, h => by
    show 0 ≤ pE (le1 ρ σ) (pAdd (pMul (cond (fp f).1 l (l.toNat : Int)) (fp f).2) (fTot fs ls)) 0
    rw [pE_add, pE_mul]
    have h1 := fp_ok f h.1
    refine Int.add_nonneg ?_ (fTot_ok fs ls h.2)
    cases e : (fp f).1 with
    | true => rw [h1.2 e, Int.mul_zero]; exact Int.le_refl 0
    | false => exact Int.mul_nonneg (Int.natCast_nonneg _) h1.1
/-- no letter is left: natural ones with no figure above nought -/
noncomputable def pNo (p : List Int) : Nat → Bool := List.rec (fun _ => true) (fun c _ ih i => cond (Nat.beq (i % 2) 0) (decide (c ≤ 0)) (decide (c = 0)) && ih (i + 1)) p
theorem pNo_ok {ρ : List Int} {σ : List Nat} : ∀ (p : List Int) (i : Nat), pNo p i = true → pE (le1 ρ σ) p (i + 1) ≤ 0
  | [], _, _ => Int.le_refl 0
  | c :: t, i, h => by
    have h : (cond (Nat.beq (i % 2) 0) (decide (c ≤ 0)) (decide (c = 0)) && pNo t (i + 1)) = true := h
    rw [Bool.and_eq_true] at h
    have h2 := pNo_ok (ρ := ρ) (σ := σ) t (i + 1) h.2
    show c * lv ρ σ i + pE (le1 ρ σ) t (i + 1 + 1) ≤ 0
    have : c * lv ρ σ i ≤ 0 := by
      have h1 := h.1
      unfold lv
      cases e : Nat.beq (i % 2) 0 with
      | true => rw [e] at h1; exact Int.mul_nonpos_of_nonpos_of_nonneg (of_decide_eq_true h1) (Int.natCast_nonneg _)
      | false => rw [e] at h1; rw [(of_decide_eq_true h1 : c = 0), Int.zero_mul]; exact Int.le_refl 0
    exact Int.add_le_add this h2
noncomputable def fChk (fs : List LF) (ls : List Int) : Bool := List.rec false (fun c t _ => decide (c < 0) && pNo t 0) (fTot fs ls)
theorem fChk_ok {ρ : List Int} {σ : List Nat} (fs : List LF) (ls : List Int) (h : fChk fs ls = true) (g : fAll ρ σ fs) : False := by
  have h0 := fTot_ok fs ls g
  unfold fChk at h
  match e : fTot fs ls with
  | [] => rw [e] at h; exact absurd h Bool.false_ne_true
  | c :: t =>
    rw [e] at h h0
    have h : (decide (c < 0) && pNo t 0) = true := h
    rw [Bool.and_eq_true] at h
    have h1 : c < 0 := of_decide_eq_true h.1
    have h2 := pNo_ok (ρ := ρ) (σ := σ) t 0 h.2
    have h0 : 0 ≤ c * 1 + pE (le1 ρ σ) t (0 + 1) := h0
    rw [Int.mul_one] at h0
    exact absurd (Int.le_trans h0 (Int.add_le_add_left h2 c)) (by rw [Int.add_zero]; exact Int.not_le.mpr h1)
/-- what holds where the fact does not -/
noncomputable def fNo (f : LF) : LF := (gt 9 [1, 0, 9, 4, 3, 9, 2, 5] f.1, f.2.2, f.2.1)
theorem fNo_ok {ρ : List Int} {σ : List Nat} (f : LF) (h : ¬fz ρ σ f) : fz ρ σ (fNo f) := by
  obtain ⟨t, x, y⟩ := f
  match t, h with
  | 0, h => exact Int.not_le.mp h
  | 1, h => exact Int.not_lt.mp h
  | 2, _ => trivial
  | 3, h => exact Nat.not_le.mp h
  | 4, h => exact Nat.not_lt.mp h
  | 5, _ => trivial
  | 6, h => exact Eq.symm (Classical.not_not.mp h)
  | 7, h => exact Eq.symm (Classical.not_not.mp h)
  | n + 8, h => exact trivial
/-- THE STEP: the facts fs tell g, by the figures ls -/
theorem lc (ρ : List Int) (σ : List Nat) (g : LF) (fs : List LF) (ls : List Int) (h : fChk (fNo g :: fs) ls = true) : fImp ρ σ fs (fz ρ σ g) :=
  fImp_of fun q => Classical.byContradiction fun n => fChk_ok _ _ h ⟨fNo_ok g n, q⟩
/-- the same for an equation of whole numbers -/
theorem lq (ρ : List Int) (σ : List Nat) (x y : Int.Internal.Linear.Expr) (fs : List LF) (ls ks : List Int) (h : (fChk ((1, x, y) :: fs) ls && fChk ((1, y, x) :: fs) ks) = true) : fImp ρ σ fs (lz ρ σ x = lz ρ σ y) :=
  fImp_of fun q => by
    rw [Bool.and_eq_true] at h
    exact Int.le_antisymm (Int.not_lt.mp fun n => fChk_ok _ _ h.2 ⟨n, q⟩) (Int.not_lt.mp fun n => fChk_ok _ _ h.1 ⟨n, q⟩)
/-- of natural ones -/
theorem ln (ρ : List Int) (σ : List Nat) (x y : Int.Internal.Linear.Expr) (fs : List LF) (ls ks : List Int) (h : (fChk ((4, x, y) :: fs) ls && fChk ((4, y, x) :: fs) ks) = true) : fImp ρ σ fs ((lz ρ σ x).toNat = (lz ρ σ y).toNat) :=
  fImp_of fun q => by
    rw [Bool.and_eq_true] at h
    exact Nat.le_antisymm (Nat.not_lt.mp fun n => fChk_ok _ _ h.2 ⟨n, q⟩) (Nat.not_lt.mp fun n => fChk_ok _ _ h.1 ⟨n, q⟩)
theorem nnA {a : Int} (h : 2 ≤ a) : 0 ≤ a := Int.le_trans (by decide) h
theorem nnB {a : Int} (h : 0 < a) : 0 ≤ a := Int.le_of_lt h
theorem nnC {a b : Int} (h1 : b < a) (h0 : 0 ≤ b) : 0 ≤ a := Int.le_trans h0 (Int.le_of_lt h1)
theorem nnD {a : Int} (h : 2 ≤ a) : 0 ≤ a - 1 := Int.sub_nonneg_of_le (Int.le_trans (by decide) h)
theorem nnE {a : Int} (h : 2 ≤ a) : a ≠ 0 := fun e => absurd (e ▸ h) (by decide)
end
end

section
open Int.Internal.Linear.Expr
theorem omG0 : (∀ {a : Nat}, ((0 : Nat) ≤ a)) ∧
    (∀ {a : Int} (h0 : ((Int.natAbs a) = (0 : Nat))), (a = (0 : Int))) ∧
    (∀ {a : Nat} {b : Nat} (h0 : (a < b)), ((a + (1 : Nat)) ≤ b)) ∧
    (((0 : Int) < (2 : Int))) ∧
    (∀ {a : Nat} {b : Int} {c : Int} (h0 : (b ≤ c)) (h1 : ((0 : Int) < b)) (h2 : (c = (0 : Int))), ((a + (1 : Nat)) ≤ (0 : Nat))) ∧
    (∀ {a : Int} {b : Int} (h0 : (b ≤ a)) (h1 : ((0 : Int) < b)), ((Int.natAbs a) ≠ (0 : Nat))) ∧
    (∀ {a : Int} {b : Int} (h0 : (b ≤ a)) (h1 : ((0 : Int) < b)), ((0 : Int) ≤ a)) ∧
    (∀ {a : Nat} {b : Nat} (h0 : (a ≤ b)), ((a + (1 : Nat)) ≤ (b + (1 : Nat)))) ∧
    (∀ {a : Int} (h0 : ((0 : Int) ≤ a)), ((-a) < (1 : Int))) ∧
    (∀ {a : Int}, (((-((-a) - (1 : Int))) - (1 : Int)) = a)) ∧
    (∀ {a : Nat}, (((-((-(Nat.cast a : Int)) - (1 : Int))) - (1 : Int)) = (Nat.cast a : Int))) ∧
    (∀ {a : Int} (h0 : ((0 : Int) < a)), ((1 : Int) ≤ a)) :=
  ⟨(fun {a : Nat} => lc [] [a] (3, num 0, var 0) [] [1] rfl),
    (fun {a : Int} (h0 : ((Int.natAbs a) = (0 : Nat))) => lq [a] [(Int.natAbs a)] (var 1) (num 0) [(5, var 0, num 0), (2, var 0, .neg (var 1))] [1, 1, -1] [1, -1, 1] rfl h0 (Int.ofNat_natAbs_of_nonpos (lc [a] [(Int.natAbs a)] (0, var 1, num 0) [(5, var 0, num 0), (0, var 1, var 0)] [1, 1, 1] rfl h0 (Int.le_natAbs : (a ≤ (Nat.cast (Int.natAbs a) : Int))) : (a ≤ (0 : Int))) : ((Nat.cast (Int.natAbs a) : Int) = (-a)))),
    (fun {a : Nat} {b : Nat} (h0 : (a < b)) => lc [] [a, b] (3, .add (var 0) (num 1), var 2) [(4, var 0, var 2)] [1, 1] rfl h0),
    (by decide),
    (fun {a : Nat} {b : Int} {c : Int} (h0 : (b ≤ c)) (h1 : ((0 : Int) < b)) (h2 : (c = (0 : Int))) => lc [b, c] [a] (3, .add (var 0) (num 1), num 0) [(0, var 1, var 3), (1, num 0, var 1), (2, var 3, num 0)] [0, 1, 1, 1] rfl h0 h1 h2),
    (fun {a : Int} {b : Int} (h0 : (b ≤ a)) (h1 : ((0 : Int) < b)) => lc [b, a] [(Int.natAbs a)] (7, var 0, num 0) [(0, var 1, var 3), (1, num 0, var 1), (2, var 0, var 3)] [-1, 1, 1, -1] rfl h0 h1 (Int.natAbs_of_nonneg (lc [b, a] [] (0, num 0, var 3) [(0, var 1, var 3), (1, num 0, var 1)] [1, 1, 1] rfl h0 h1 : ((0 : Int) ≤ a)) : ((Nat.cast (Int.natAbs a) : Int) = a))),
    (fun {a : Int} {b : Int} (h0 : (b ≤ a)) (h1 : ((0 : Int) < b)) => lc [b, a] [] (0, num 0, var 3) [(0, var 1, var 3), (1, num 0, var 1)] [1, 1, 1] rfl h0 h1),
    (fun {a : Nat} {b : Nat} (h0 : (a ≤ b)) => lc [] [a, b] (3, .add (var 0) (num 1), .add (var 2) (num 1)) [(3, var 0, var 2)] [1, 1] rfl h0),
    (fun {a : Int} (h0 : ((0 : Int) ≤ a)) => lc [a] [] (1, .neg (var 1), num 1) [(0, num 0, var 1)] [1, 1] rfl h0),
    (fun {a : Int} => lq [a] [] (.sub (.neg (.sub (.neg (var 1)) (num 1))) (num 1)) (var 1) [] [1] [1] rfl),
    (fun {a : Nat} => lq [] [a] (.sub (.neg (.sub (.neg (var 0)) (num 1))) (num 1)) (var 0) [] [1] [1] rfl),
    (fun {a : Int} (h0 : ((0 : Int) < a)) => lc [a] [] (0, num 1, var 1) [(1, num 0, var 1)] [1, 1] rfl h0)⟩
theorem omG1 : (∀ {a : Nat}, ((Int.toNat ((Nat.cast a : Int) - (1 : Int))) = (a - (1 : Nat)))) ∧
    (∀ {a : Int} {b : Int} (h0 : ((0 : Int) ≤ b)) (h1 : (b < a)), ((0 : Int) < a)) ∧
    (∀ {a : Int} (h0 : ((0 : Int) < a)), (a ≠ (0 : Int))) ∧
    (∀ {a : Int}, (((0 : Int) + a) = a)) ∧
    (∀ {a : Int} (h0 : ((0 : Int) < a)), ((0 : Int) ≤ a)) ∧
    (∀ {a : Int} {b : Int} {c : Int} {d : Int} {e : Int} (h0 : ((0 : Int) < c)) (h1 : (a = (d + e))) (h2 : ((0 : Int) ≤ e)) (h3 : (d = b)), ((0 : Int) ≤ ((a - b) + c))) ∧
    (∀ {a : Int} (h0 : ((0 : Int) < a)), ((0 : Int) ≤ (((1 : Int) * a) - (1 : Int)))) ∧
    (∀ {a : Int} {b : Int} (h0 : ((a * (1 : Int)) ≤ b)), ((((1 : Int) * a) - (1 : Int)) < b)) ∧
    (∀ {a : Int} {b : Int} {c : Int} {d : Int} {e : Int} (h0 : (a < e)) (h1 : (e < d)) (h2 : ((c * (1 : Int)) ≤ b)), (((a - b) + c) < d)) ∧
    (∀ {a : Int} {b : Int} (h0 : (a < b)), ((a + (1 : Int)) ≤ b)) ∧
    (∀ {a : Int} {b : Int} {c : Int} {d : Int} {e : Int} {f : Int} (h0 : (c < d)) (h1 : (d < b)) (h2 : (((1 : Int) * a) ≤ e)) (h3 : ((0 : Int) ≤ f)) (h4 : (c = (e + f))), (a < b)) ∧
    (∀ {a : Int} {b : Int} {c : Int} {d : Int} {e : Int} {f : Int} (h0 : (c = (d + e))) (h1 : ((0 : Int) ≤ e)) (h2 : (c < b)) (h3 : ((f * (1 : Int)) ≤ d)) (h4 : (a < f)), (a < b)) :=
  ⟨(fun {a : Nat} => Int.toNat_sub a 1),
    (fun {a : Int} {b : Int} (h0 : ((0 : Int) ≤ b)) (h1 : (b < a)) => lc [b, a] [] (1, num 0, var 3) [(0, num 0, var 1), (1, var 1, var 3)] [1, 1, 1] rfl h0 h1),
    (fun {a : Int} (h0 : ((0 : Int) < a)) => lc [a] [] (6, var 1, num 0) [(1, num 0, var 1)] [-1, 1] rfl h0),
    (fun {a : Int} => lq [a] [] (.add (num 0) (var 1)) (var 1) [] [1] [1] rfl),
    (fun {a : Int} (h0 : ((0 : Int) < a)) => lc [a] [] (0, num 0, var 1) [(1, num 0, var 1)] [1, 1] rfl h0),
    (fun {a : Int} {b : Int} {c : Int} {d : Int} {e : Int} (h0 : ((0 : Int) < c)) (h1 : (a = (d + e))) (h2 : ((0 : Int) ≤ e)) (h3 : (d = b)) => lc [c, a, d, e, b] [] (0, num 0, .add (.sub (var 3) (var 9)) (var 1)) [(1, num 0, var 1), (2, var 3, .add (var 5) (var 7)), (0, num 0, var 7), (2, var 5, var 9)] [1, 1, -1, 1, -1] rfl h0 h1 h2 h3),
    (fun {a : Int} (h0 : ((0 : Int) < a)) => lc [a] [] (0, num 0, .sub (.mulL 1 (var 1)) (num 1)) [(1, num 0, var 1)] [1, 1] rfl h0),
    (fun {a : Int} {b : Int} (h0 : ((a * (1 : Int)) ≤ b)) => lc [a, b] [] (1, .sub (.mulL 1 (var 1)) (num 1), var 3) [(0, .mulR (var 1) 1, var 3)] [1, 1] rfl h0),
    (fun {a : Int} {b : Int} {c : Int} {d : Int} {e : Int} (h0 : (a < e)) (h1 : (e < d)) (h2 : ((c * (1 : Int)) ≤ b)) => lc [a, e, d, c, b] [] (1, .add (.sub (var 1) (var 9)) (var 7), var 5) [(1, var 1, var 3), (1, var 3, var 5), (0, .mulR (var 7) 1, var 9)] [1, 1, 1, 1] rfl h0 h1 h2),
    (fun {a : Int} {b : Int} (h0 : (a < b)) => lc [a, b] [] (0, .add (var 1) (num 1), var 3) [(1, var 1, var 3)] [1, 1] rfl h0),
    (fun {a : Int} {b : Int} {c : Int} {d : Int} {e : Int} {f : Int} (h0 : (c < d)) (h1 : (d < b)) (h2 : (((1 : Int) * a) ≤ e)) (h3 : ((0 : Int) ≤ f)) (h4 : (c = (e + f))) => lc [c, d, b, a, e, f] [] (1, var 7, var 5) [(1, var 1, var 3), (1, var 3, var 5), (0, .mulL 1 (var 7), var 9), (0, num 0, var 11), (2, var 1, .add (var 9) (var 11))] [1, 1, 1, 1, 1, -1] rfl h0 h1 h2 h3 h4),
    (fun {a : Int} {b : Int} {c : Int} {d : Int} {e : Int} {f : Int} (h0 : (c = (d + e))) (h1 : ((0 : Int) ≤ e)) (h2 : (c < b)) (h3 : ((f * (1 : Int)) ≤ d)) (h4 : (a < f)) => lc [c, d, e, b, f, a] [] (1, var 11, var 7) [(2, var 1, .add (var 3) (var 5)), (0, num 0, var 5), (1, var 1, var 7), (0, .mulR (var 9) 1, var 3), (1, var 11, var 9)] [1, -1, 1, 1, 1, 1] rfl h0 h1 h2 h3 h4)⟩
theorem omG2 : (∀ {a : Int} {b : Int} {c : Int} {d : Int} {e : Int} {f : Int} {g : Int} {i : Int} (h0 : (b < e)) (h1 : (d = (f + g))) (h2 : ((0 : Int) ≤ g)) (h3 : (i ≤ f)) (h4 : ((0 : Int) ≤ c)) (h5 : (i = (a + e))), (((a + b) - c) < d)) ∧
    (∀ {a : Int} {b : Int} (h0 : ((0 : Int) ≤ b)) (h1 : ((0 : Int) ≤ a)), ((0 : Int) ≤ (a + b))) ∧
    (∀ {a : Int} {b : Int} (h0 : (¬(b < a))), (a ≤ b)) ∧
    (∀ {a : Int} (h0 : (¬((0 : Int) < a))), (a ≤ (0 : Int))) ∧
    (∀ {a : Int} {b : Int} {c : Int} {d : Int} (h0 : (a ≤ b)) (h1 : (b = (c + d))) (h2 : (d < a)) (h3 : (c ≤ (a * (0 : Int)))), False) ∧
    (((2 : Nat) > (0 : Nat))) ∧
    (∀ {a : Nat} {b : Nat} (h0 : (b ≤ (9000 : Nat))) (h1 : ((a + (1 : Nat)) ≤ b)), (a < (9000 : Nat))) ∧
    (∀ {a : Nat} {b : Nat} {c : Nat} (h0 : ((a + (b + (1 : Nat))) < c)), (((a + (1 : Nat)) + b) < c)) ∧
    (∀ {a : Nat} {b : Nat} {c : Nat} (h0 : (((a + ((10 : Nat) * (b + (1 : Nat)))) + (40 : Nat)) < c)), ((((a + (3 : Nat)) + ((10 : Nat) * b)) + (40 : Nat)) < c)) ∧
    (∀ {a : Nat} {b : Nat} {c : Nat} {d : Nat} (h0 : (b ≤ d)) (h1 : ((a + d) < c)), ((a + b) < c)) ∧
    (∀ {a : Nat} {b : Nat} {c : Nat} {d : Nat} (h0 : (b ≤ d)) (h1 : (((a + ((10 : Nat) * d)) + (40 : Nat)) < c)), (((a + ((10 : Nat) * b)) + (40 : Nat)) < c)) ∧
    (∀ {a : Nat} {b : Nat} {c : Nat} (h0 : ((a + c) < b)), (a < b)) :=
  ⟨(fun {a : Int} {b : Int} {c : Int} {d : Int} {e : Int} {f : Int} {g : Int} {i : Int} (h0 : (b < e)) (h1 : (d = (f + g))) (h2 : ((0 : Int) ≤ g)) (h3 : (i ≤ f)) (h4 : ((0 : Int) ≤ c)) (h5 : (i = (a + e))) => lc [b, e, d, f, g, i, c, a] [] (1, .sub (.add (var 15) (var 1)) (var 13), var 5) [(1, var 1, var 3), (2, var 5, .add (var 7) (var 9)), (0, num 0, var 9), (0, var 11, var 7), (0, num 0, var 13), (2, var 11, .add (var 15) (var 3))] [1, 1, -1, 1, 1, 1, -1] rfl h0 h1 h2 h3 h4 h5),
    (fun {a : Int} {b : Int} (h0 : ((0 : Int) ≤ b)) (h1 : ((0 : Int) ≤ a)) => lc [b, a] [] (0, num 0, .add (var 3) (var 1)) [(0, num 0, var 1), (0, num 0, var 3)] [1, 1, 1] rfl h0 h1),
    (fun {a : Int} {b : Int} (h0 : (¬(b < a))) => lc [a, b] [] (0, var 1, var 3) [(0, var 1, var 3)] [1, 1] rfl (Int.not_lt.mp h0)),
    (fun {a : Int} (h0 : (¬((0 : Int) < a))) => lc [a] [] (0, var 1, num 0) [(0, var 1, num 0)] [1, 1] rfl (Int.not_lt.mp h0)),
    (fun {a : Int} {b : Int} {c : Int} {d : Int} (h0 : (a ≤ b)) (h1 : (b = (c + d))) (h2 : (d < a)) (h3 : (c ≤ (a * (0 : Int)))) => lc [a, b, c, d] [] (8, num 0, num 0) [(0, var 1, var 3), (2, var 3, .add (var 5) (var 7)), (1, var 7, var 1), (0, var 5, .mulR (var 1) 0)] [0, 1, 1, 1, 1] rfl h0 h1 h2 h3),
    (by decide),
    (fun {a : Nat} {b : Nat} (h0 : (b ≤ (9000 : Nat))) (h1 : ((a + (1 : Nat)) ≤ b)) => lc [] [b, a] (4, var 2, num 9000) [(3, var 0, num 9000), (3, .add (var 2) (num 1), var 0)] [1, 1, 1] rfl h0 h1),
    (fun {a : Nat} {b : Nat} {c : Nat} (h0 : ((a + (b + (1 : Nat))) < c)) => lc [] [a, b, c] (4, .add (.add (var 0) (num 1)) (var 2), var 4) [(4, .add (var 0) (.add (var 2) (num 1)), var 4)] [1, 1] rfl h0),
    (fun {a : Nat} {b : Nat} {c : Nat} (h0 : (((a + ((10 : Nat) * (b + (1 : Nat)))) + (40 : Nat)) < c)) => lc [] [a, b, c] (4, .add (.add (.add (var 0) (num 3)) (.mulL 10 (var 2))) (num 40), var 4) [(4, .add (.add (var 0) (.mulL 10 (.add (var 2) (num 1)))) (num 40), var 4)] [1, 1] rfl h0),
    (fun {a : Nat} {b : Nat} {c : Nat} {d : Nat} (h0 : (b ≤ d)) (h1 : ((a + d) < c)) => lc [] [b, d, a, c] (4, .add (var 4) (var 0), var 6) [(3, var 0, var 2), (4, .add (var 4) (var 2), var 6)] [1, 1, 1] rfl h0 h1),
    (fun {a : Nat} {b : Nat} {c : Nat} {d : Nat} (h0 : (b ≤ d)) (h1 : (((a + ((10 : Nat) * d)) + (40 : Nat)) < c)) => lc [] [b, d, a, c] (4, .add (.add (var 4) (.mulL 10 (var 0))) (num 40), var 6) [(3, var 0, var 2), (4, .add (.add (var 4) (.mulL 10 (var 2))) (num 40), var 6)] [1, 10, 1] rfl h0 h1),
    (fun {a : Nat} {b : Nat} {c : Nat} (h0 : ((a + c) < b)) => lc [] [a, c, b] (4, var 0, var 4) [(4, .add (var 0) (var 2), var 4)] [1, 1] rfl h0)⟩
theorem omG3 : (∀ {a : Int} {b : Int} {c : Int} (h0 : (c ≤ (a + b))), ((0 : Int) ≤ ((a + b) - c))) ∧
    (∀ {a : Int} {b : Int} {c : Int} {d : Int} (h0 : ((a + b) < (c + d))), (((a + b) - c) < d)) ∧
    (∀ {a : Int} {b : Int} {c : Int} (h0 : (b < c)) (h1 : (c ≤ a)), ((0 : Int) ≤ ((a - (1 : Int)) - b))) ∧
    (∀ {a : Int} {b : Nat} (h0 : ((Int.toNat a) = b)) (h1 : ((0 : Int) ≤ a)), (a = (Nat.cast b : Int))) ∧
    (∀ {a : Int} {b : Int} (h0 : ((b - (1 : Int)) < a)) (h1 : (a < (b + (1 : Int)))), (a = b)) ∧
    (∀ {a : Nat} (h0 : ((1 : Nat) ≤ a)) (h1 : (a ≤ (3 : Nat))), ((a = (1 : Nat)) ∨ ((a = (2 : Nat)) ∨ (a = (3 : Nat))))) ∧
    (∀ {a : Nat} {b : Nat} (h0 : (b ≤ (100000 : Nat))) (h1 : (a = (1 : Nat))), (((Nat.cast a : Int) + (Nat.cast b : Int)) ≤ ((2 : Int) ^ (27 : Nat)))) ∧
    (∀ {a : Int} {b : Int} {c : Int} {d : Int} {e : Int} (h0 : (c = (d + e))) (h1 : ((0 : Int) ≤ e)) (h2 : (c < b)) (h3 : ((a * (1 : Int)) ≤ d)), (a < b)) ∧
    (∀ {a : Nat} {b : Nat} (h0 : (b ≤ (100000 : Nat))) (h1 : (a ≤ ((2 : Nat) * b))), (((Nat.cast a : Int) + (Nat.cast b : Int)) ≤ ((2 : Int) ^ (27 : Nat)))) ∧
    (∀ {a : Nat}, ((0 : Int) ≤ (Nat.cast a : Int))) ∧
    (∀ {a : Int} {b : Int} {c : Int} (h0 : (a < c)) (h1 : (c = b)), (a < b)) ∧
    (∀ {a : Nat} {b : Nat} (h0 : (b ≤ (100000 : Nat))) (h1 : (a ≤ ((2 : Nat) * b))), (a ≤ ((2 : Nat) ^ (20 : Nat)))) :=
  ⟨(fun {a : Int} {b : Int} {c : Int} (h0 : (c ≤ (a + b))) => lc [c, a, b] [] (0, num 0, .sub (.add (var 3) (var 5)) (var 1)) [(0, var 1, .add (var 3) (var 5))] [1, 1] rfl h0),
    (fun {a : Int} {b : Int} {c : Int} {d : Int} (h0 : ((a + b) < (c + d))) => lc [a, b, c, d] [] (1, .sub (.add (var 1) (var 3)) (var 5), var 7) [(1, .add (var 1) (var 3), .add (var 5) (var 7))] [1, 1] rfl h0),
    (fun {a : Int} {b : Int} {c : Int} (h0 : (b < c)) (h1 : (c ≤ a)) => lc [b, c, a] [] (0, num 0, .sub (.sub (var 5) (num 1)) (var 1)) [(1, var 1, var 3), (0, var 3, var 5)] [1, 1, 1] rfl h0 h1),
    (fun {a : Int} {b : Nat} (h0 : ((Int.toNat a) = b)) (h1 : ((0 : Int) ≤ a)) => lq [a] [(Int.toNat a), b] (var 1) (var 2) [(5, var 0, var 2), (2, var 0, var 1)] [1, -1, 1] [1, 1, -1] rfl h0 (Int.toNat_of_nonneg (lc [a] [] (0, num 0, var 1) [(0, num 0, var 1)] [1, 1] rfl h1 : ((0 : Int) ≤ a)) : ((Nat.cast (Int.toNat a) : Int) = a))),
    (fun {a : Int} {b : Int} (h0 : ((b - (1 : Int)) < a)) (h1 : (a < (b + (1 : Int)))) => lq [b, a] [] (var 3) (var 1) [(1, .sub (var 1) (num 1), var 3), (1, var 3, .add (var 1) (num 1))] [1, 1, 0] [1, 0, 1] rfl h0 h1),
    (fun {a : Nat} (h0 : ((1 : Nat) ≤ a)) (h1 : (a ≤ (3 : Nat))) => (Decidable.em (a = (1 : Nat))).elim Or.inl fun q0 => Or.inr ((Decidable.em (a = (2 : Nat))).elim Or.inl fun q1 => Or.inr ((Nat.lt_or_gt_of_ne q0).elim (fun q2 => ln [] [a] (var 0) (num 3) [(3, num 1, var 0), (3, var 0, num 3), (4, var 0, num 1)] [0, 1, 0, 1] [1, 0, 1, 0] rfl h0 h1 q2) (fun q2 => (Nat.lt_or_gt_of_ne q1).elim (fun q3 => ln [] [a] (var 0) (num 3) [(3, var 0, num 3), (4, num 1, var 0), (4, var 0, num 2)] [0, 0, 1, 1] [1, 1, 0, 0] rfl h1 q2 q3) (fun q3 => ln [] [a] (var 0) (num 3) [(3, var 0, num 3), (4, num 2, var 0)] [1, 0, 1] [1, 1, 0] rfl h1 q3))))),
    (fun {a : Nat} {b : Nat} (h0 : (b ≤ (100000 : Nat))) (h1 : (a = (1 : Nat))) => lc [] [b, a] (0, .add (var 2) (var 0), num ((2 : Int) ^ (27 : Nat))) [(3, var 0, num 100000), (5, var 2, num 1)] [1, 1, 1] rfl h0 h1),
    (fun {a : Int} {b : Int} {c : Int} {d : Int} {e : Int} (h0 : (c = (d + e))) (h1 : ((0 : Int) ≤ e)) (h2 : (c < b)) (h3 : ((a * (1 : Int)) ≤ d)) => lc [c, d, e, b, a] [] (1, var 9, var 7) [(2, var 1, .add (var 3) (var 5)), (0, num 0, var 5), (1, var 1, var 7), (0, .mulR (var 9) 1, var 3)] [1, -1, 1, 1, 1] rfl h0 h1 h2 h3),
    (fun {a : Nat} {b : Nat} (h0 : (b ≤ (100000 : Nat))) (h1 : (a ≤ ((2 : Nat) * b))) => lc [] [b, a] (0, .add (var 2) (var 0), num ((2 : Int) ^ (27 : Nat))) [(3, var 0, num 100000), (3, var 2, .mulL 2 (var 0))] [1, 3, 1] rfl h0 h1),
    (fun {a : Nat} => lc [] [a] (0, num 0, var 0) [] [1] rfl),
    (fun {a : Int} {b : Int} {c : Int} (h0 : (a < c)) (h1 : (c = b)) => lc [a, c, b] [] (1, var 1, var 5) [(1, var 1, var 3), (2, var 3, var 5)] [1, 1, 1] rfl h0 h1),
    (fun {a : Nat} {b : Nat} (h0 : (b ≤ (100000 : Nat))) (h1 : (a ≤ ((2 : Nat) * b))) => lc [] [b, a] (3, var 2, num (Nat.cast ((2 : Nat) ^ (20 : Nat)))) [(3, var 0, num 100000), (3, var 2, .mulL 2 (var 0))] [1, 2, 1] rfl h0 h1)⟩
theorem omG4 : (∀ {a : Nat} {b : Nat} (h0 : (b ≤ (100000 : Nat))) (h1 : (a ≤ b)), (a ≤ ((2 : Nat) ^ (20 : Nat)))) ∧
    (∀ {a : Int} (h0 : (¬(a < (0 : Int)))), ((0 : Int) ≤ a)) ∧
    (∀ {a : Int} {b : Int} {c : Int} (h0 : (a < c)) (h1 : (c < b)), (a < b)) ∧
    (∀ {a : Nat} {b : Nat} (h0 : (b ≤ (7998 : Nat))) (h1 : (a ≤ (b + b))), (((Nat.cast a : Int) + (1 : Int)) ≤ ((2 : Int) ^ (27 : Nat)))) ∧
    (∀ {a : Nat} {b : Nat} {c : Nat} (h0 : (¬(((Nat.cast b : Int) - (Nat.cast c : Int)) ≤ (4000 : Int)))) (h1 : (((Nat.cast b : Int) + (1 : Int)) ≤ ((2 : Int) ^ (27 : Nat)))) (h2 : (a ≤ c)), (((Nat.cast a : Int) + (1 : Int)) ≤ ((2 : Int) ^ (27 : Nat)))) ∧
    (∀ {a : Nat}, (((Nat.cast a : Int) % ((2 : Int) ^ (1 : Nat))) = (Nat.cast (a % (2 : Nat)) : Int))) ∧
    (((0 : Int) ≤ (2 : Int))) ∧
    (∀ {a : Nat}, (((Nat.cast ((2 : Nat) * a) : Int) / (2 : Int)) = (Nat.cast a : Int))) ∧
    (∀ {a : Nat} {b : Nat} {c : Nat} {d : Int} {e : Int} (h0 : (c ≤ (7998 : Nat))) (h1 : (((d = (0 : Int)) ∧ ((e = (1 : Int)) ∧ (c = ((2 : Nat) * b)))) ∨ ((d = (1 : Int)) ∧ ((e = (2 : Int)) ∧ ((c + (1 : Nat)) = ((2 : Nat) * b)))))) (h2 : (a = (1 : Nat))), (((Nat.cast a : Int) + (Nat.cast b : Int)) ≤ ((2 : Int) ^ (27 : Nat)))) ∧
    (∀ {a : Int} {b : Int} {c : Nat} {d : Nat} (h0 : (((b = (0 : Int)) ∧ ((a = (1 : Int)) ∧ (c = ((2 : Nat) * d)))) ∨ ((b = (1 : Int)) ∧ ((a = (2 : Int)) ∧ ((c + (1 : Nat)) = ((2 : Nat) * d)))))), ((0 : Int) < a)) ∧
    (∀ {a : Nat} {b : Nat} {c : Int} {d : Int} (h0 : ((2 : Nat) ≤ b)) (h1 : (((c = (0 : Int)) ∧ ((d = (1 : Int)) ∧ (b = ((2 : Nat) * a)))) ∨ ((c = (1 : Int)) ∧ ((d = (2 : Int)) ∧ ((b + (1 : Nat)) = ((2 : Nat) * a)))))), ((1 : Nat) ≤ a)) ∧
    (∀ {a : Nat}, (a ≤ (((2 : Nat) * a) - (1 : Nat)))) :=
  ⟨(fun {a : Nat} {b : Nat} (h0 : (b ≤ (100000 : Nat))) (h1 : (a ≤ b)) => lc [] [b, a] (3, var 2, num (Nat.cast ((2 : Nat) ^ (20 : Nat)))) [(3, var 0, num 100000), (3, var 2, var 0)] [1, 1, 1] rfl h0 h1),
    (fun {a : Int} (h0 : (¬(a < (0 : Int)))) => lc [a] [] (0, num 0, var 1) [(0, num 0, var 1)] [1, 1] rfl (Int.not_lt.mp h0)),
    (fun {a : Int} {b : Int} {c : Int} (h0 : (a < c)) (h1 : (c < b)) => lc [a, c, b] [] (1, var 1, var 5) [(1, var 1, var 3), (1, var 3, var 5)] [1, 1, 1] rfl h0 h1),
    (fun {a : Nat} {b : Nat} (h0 : (b ≤ (7998 : Nat))) (h1 : (a ≤ (b + b))) => lc [] [b, a] (0, .add (var 2) (num 1), num ((2 : Int) ^ (27 : Nat))) [(3, var 0, num 7998), (3, var 2, .add (var 0) (var 0))] [1, 2, 1] rfl h0 h1),
    (fun {a : Nat} {b : Nat} {c : Nat} (h0 : (¬(((Nat.cast b : Int) - (Nat.cast c : Int)) ≤ (4000 : Int)))) (h1 : (((Nat.cast b : Int) + (1 : Int)) ≤ ((2 : Int) ^ (27 : Nat)))) (h2 : (a ≤ c)) => lc [] [b, c, a] (0, .add (var 4) (num 1), num ((2 : Int) ^ (27 : Nat))) [(1, num 4000, .sub (var 0) (var 2)), (0, .add (var 0) (num 1), num ((2 : Int) ^ (27 : Nat))), (3, var 4, var 2)] [1, 1, 1, 1] rfl (Int.not_le.mp h0) h1 h2),
    (fun {a : Nat} => by first | lia | omega),
    (by decide),
    (fun {a : Nat} => lq [((Nat.cast ((2 : Nat) * a) : Int) / (2 : Int)), ((Nat.cast ((2 : Nat) * a) : Int) % (2 : Int))] [a] (var 1) (var 0) [(2, .add (.mulL 2 (var 1)) (var 3), .mulL 2 (var 0)), (1, var 3, num 2), (0, num 0, var 3)] [2, -1, 1, 0] [2, 1, 0, 1] rfl (Int.mul_ediv_add_emod (Nat.cast ((2 : Nat) * a) : Int) (2 : Int) : ((((2 : Int) * ((Nat.cast ((2 : Nat) * a) : Int) / (2 : Int))) + ((Nat.cast ((2 : Nat) * a) : Int) % (2 : Int))) = (Nat.cast ((2 : Nat) * a) : Int))) (Int.emod_lt_of_pos (Nat.cast ((2 : Nat) * a) : Int) (by decide) : (((Nat.cast ((2 : Nat) * a) : Int) % (2 : Int)) < (2 : Int))) (Int.emod_nonneg (Nat.cast ((2 : Nat) * a) : Int) (by decide) : ((0 : Int) ≤ ((Nat.cast ((2 : Nat) * a) : Int) % (2 : Int))))),
    (fun {a : Nat} {b : Nat} {c : Nat} {d : Int} {e : Int} (h0 : (c ≤ (7998 : Nat))) (h1 : (((d = (0 : Int)) ∧ ((e = (1 : Int)) ∧ (c = ((2 : Nat) * b)))) ∨ ((d = (1 : Int)) ∧ ((e = (2 : Int)) ∧ ((c + (1 : Nat)) = ((2 : Nat) * b)))))) (h2 : (a = (1 : Nat))) => h1.elim (fun q0 => lc [] [c, a, b] (0, .add (var 2) (var 4), num ((2 : Int) ^ (27 : Nat))) [(3, var 0, num 7998), (5, var 2, num 1), (5, var 0, .mulL 2 (var 4))] [2, 1, 2, -1] rfl h0 h2 q0.2.2) (fun q0 => lc [] [c, a, b] (0, .add (var 2) (var 4), num ((2 : Int) ^ (27 : Nat))) [(3, var 0, num 7998), (5, var 2, num 1), (5, .add (var 0) (num 1), .mulL 2 (var 4))] [2, 1, 2, -1] rfl h0 h2 q0.2.2)),
    (fun {a : Int} {b : Int} {c : Nat} {d : Nat} (h0 : (((b = (0 : Int)) ∧ ((a = (1 : Int)) ∧ (c = ((2 : Nat) * d)))) ∨ ((b = (1 : Int)) ∧ ((a = (2 : Int)) ∧ ((c + (1 : Nat)) = ((2 : Nat) * d)))))) => h0.elim (fun q0 => lc [a] [] (1, num 0, var 1) [(2, var 1, num 1)] [1, -1] rfl q0.2.1) (fun q0 => lc [a] [] (1, num 0, var 1) [(2, var 1, num 2)] [1, -1] rfl q0.2.1)),
    (fun {a : Nat} {b : Nat} {c : Int} {d : Int} (h0 : ((2 : Nat) ≤ b)) (h1 : (((c = (0 : Int)) ∧ ((d = (1 : Int)) ∧ (b = ((2 : Nat) * a)))) ∨ ((c = (1 : Int)) ∧ ((d = (2 : Int)) ∧ ((b + (1 : Nat)) = ((2 : Nat) * a)))))) => h1.elim (fun q0 => lc [] [b, a] (3, num 1, var 2) [(3, num 2, var 0), (5, var 0, .mulL 2 (var 2))] [2, 1, 1] rfl h0 q0.2.2) (fun q0 => lc [] [b, a] (3, num 1, var 2) [(3, num 2, var 0), (5, .add (var 0) (num 1), .mulL 2 (var 2))] [2, 1, 1] rfl h0 q0.2.2)),
    (fun {a : Nat} => lc [] [(((2 : Nat) * a) - (1 : Nat)), a] (3, var 2, var 0) [(3, .mulL 2 (var 2), .add (var 0) (num 1))] [2, 1] rfl (Nat.le_add_of_sub_le (Nat.le_refl (((2 : Nat) * a) - (1 : Nat))) : (((2 : Nat) * a) ≤ ((((2 : Nat) * a) - (1 : Nat)) + (1 : Nat)))))⟩
theorem omG5 : (∀ {a : Int} {b : Int} (h0 : (a < b)), ((a * (1 : Int)) < b)) ∧
    (∀ {a : Int} {b : Int} {c : Int} (h0 : (a ≤ c)) (h1 : (c ≤ b)), (a ≤ (b * (1 : Int)))) ∧
    (∀ {a : Nat} {b : Nat} (h0 : ((b + (1 : Nat)) = ((2 : Nat) * a))), ((((2 : Nat) * a) - (1 : Nat)) = (Nat.succ (b - (1 : Nat))))) ∧
    (∀ {a : Int} {b : Int} (h0 : (a < b)), ((a * (2 : Int)) < (b * (2 : Int)))) ∧
    (∀ {a : Int} {b : Int} {c : Int} {d : Int} (h0 : (c ≤ b)) (h1 : (a ≤ d)) (h2 : (d = (c * (2 : Int)))), (a ≤ (b * (2 : Int)))) ∧
    (∀ {a : Int} {b : Int} {c : Int} {d : Int} (h0 : (b = c)) (h1 : (d < c)) (h2 : (a < d)), (a < b)) ∧
    (∀ {a : Nat} {b : Nat} {c : Nat} {d : Int} {e : Int} (h0 : (c ≤ (7998 : Nat))) (h1 : (((d = (0 : Int)) ∧ ((e = (1 : Int)) ∧ (c = ((2 : Nat) * b)))) ∨ ((d = (1 : Int)) ∧ ((e = (2 : Int)) ∧ ((c + (1 : Nat)) = ((2 : Nat) * b)))))) (h2 : (a ≤ ((2 : Nat) * b))), (((Nat.cast a : Int) - (Nat.cast b : Int)) ≤ (4000 : Int))) ∧
    (∀ {a : Int} {b : Int} {c : Int} {d : Int} {e : Int} {f : Int} (h0 : (b = c)) (h1 : (d < c)) (h2 : (d = (e + f))) (h3 : ((0 : Int) ≤ f)) (h4 : ((a * (1 : Int)) ≤ e)), (a < b)) ∧
    (∀ {a : Nat} {b : Nat} {c : Int} {d : Int} (h0 : (b ≤ (7998 : Nat))) (h1 : (((c = (0 : Int)) ∧ ((d = (1 : Int)) ∧ (b = ((2 : Nat) * a)))) ∨ ((c = (1 : Int)) ∧ ((d = (2 : Int)) ∧ ((b + (1 : Nat)) = ((2 : Nat) * a)))))), (((2 : Nat) * a) ≤ (9000 : Nat))) ∧
    (∀ {a : Nat} {b : Nat} {c : Int} {d : Int} (h0 : (b ≤ (7998 : Nat))) (h1 : (((c = (0 : Int)) ∧ ((d = (1 : Int)) ∧ (b = ((2 : Nat) * a)))) ∨ ((c = (1 : Int)) ∧ ((d = (2 : Int)) ∧ ((b + (1 : Nat)) = ((2 : Nat) * a)))))), (a ≤ (100000 : Nat))) ∧
    (∀ {a : Int} {b : Int} {c : Int} (h0 : (b = c)) (h1 : (a < c)), (a < b)) ∧
    (∀ {a : Nat}, ((a + (1 : Nat)) ≤ (a + (2 : Nat)))) :=
  ⟨(fun {a : Int} {b : Int} (h0 : (a < b)) => lc [a, b] [] (1, .mulR (var 1) 1, var 3) [(1, var 1, var 3)] [1, 1] rfl h0),
    (fun {a : Int} {b : Int} {c : Int} (h0 : (a ≤ c)) (h1 : (c ≤ b)) => lc [a, c, b] [] (0, var 1, .mulR (var 5) 1) [(0, var 1, var 3), (0, var 3, var 5)] [1, 1, 1] rfl h0 h1),
    (fun {a : Nat} {b : Nat} (h0 : ((b + (1 : Nat)) = ((2 : Nat) * a))) => by cases a with | zero => exact absurd h0 (Nat.succ_ne_zero b) | succ n => have e : b = 2 * n + 1 := Nat.succ.inj h0; subst e; rfl),
    (fun {a : Int} {b : Int} (h0 : (a < b)) => lc [a, b] [] (1, .mulR (var 1) 2, .mulR (var 3) 2) [(1, var 1, var 3)] [1, 2] rfl h0),
    (fun {a : Int} {b : Int} {c : Int} {d : Int} (h0 : (c ≤ b)) (h1 : (a ≤ d)) (h2 : (d = (c * (2 : Int)))) => lc [c, b, a, d] [] (0, var 5, .mulR (var 3) 2) [(0, var 1, var 3), (0, var 5, var 7), (2, var 7, .mulR (var 1) 2)] [1, 2, 1, 1] rfl h0 h1 h2),
    (fun {a : Int} {b : Int} {c : Int} {d : Int} (h0 : (b = c)) (h1 : (d < c)) (h2 : (a < d)) => lc [b, c, d, a] [] (1, var 7, var 1) [(2, var 1, var 3), (1, var 5, var 3), (1, var 7, var 5)] [1, -1, 1, 1] rfl h0 h1 h2),
    (fun {a : Nat} {b : Nat} {c : Nat} {d : Int} {e : Int} (h0 : (c ≤ (7998 : Nat))) (h1 : (((d = (0 : Int)) ∧ ((e = (1 : Int)) ∧ (c = ((2 : Nat) * b)))) ∨ ((d = (1 : Int)) ∧ ((e = (2 : Int)) ∧ ((c + (1 : Nat)) = ((2 : Nat) * b)))))) (h2 : (a ≤ ((2 : Nat) * b))) => h1.elim (fun q0 => lc [] [c, a, b] (0, .sub (var 2) (var 4), num 4000) [(3, var 0, num 7998), (3, var 2, .mulL 2 (var 4)), (5, var 0, .mulL 2 (var 4))] [2, 1, 2, -1] rfl h0 h2 q0.2.2) (fun q0 => lc [] [c, a, b] (0, .sub (var 2) (var 4), num 4000) [(3, var 0, num 7998), (3, var 2, .mulL 2 (var 4)), (5, .add (var 0) (num 1), .mulL 2 (var 4))] [2, 1, 2, -1] rfl h0 h2 q0.2.2)),
    (fun {a : Int} {b : Int} {c : Int} {d : Int} {e : Int} {f : Int} (h0 : (b = c)) (h1 : (d < c)) (h2 : (d = (e + f))) (h3 : ((0 : Int) ≤ f)) (h4 : ((a * (1 : Int)) ≤ e)) => lc [b, c, d, e, f, a] [] (1, var 11, var 1) [(2, var 1, var 3), (1, var 5, var 3), (2, var 5, .add (var 7) (var 9)), (0, num 0, var 9), (0, .mulR (var 11) 1, var 7)] [1, -1, 1, -1, 1, 1] rfl h0 h1 h2 h3 h4),
    (fun {a : Nat} {b : Nat} {c : Int} {d : Int} (h0 : (b ≤ (7998 : Nat))) (h1 : (((c = (0 : Int)) ∧ ((d = (1 : Int)) ∧ (b = ((2 : Nat) * a)))) ∨ ((c = (1 : Int)) ∧ ((d = (2 : Int)) ∧ ((b + (1 : Nat)) = ((2 : Nat) * a)))))) => h1.elim (fun q0 => lc [] [b, a] (3, .mulL 2 (var 2), num 9000) [(3, var 0, num 7998), (5, var 0, .mulL 2 (var 2))] [1, 1, -1] rfl h0 q0.2.2) (fun q0 => lc [] [b, a] (3, .mulL 2 (var 2), num 9000) [(3, var 0, num 7998), (5, .add (var 0) (num 1), .mulL 2 (var 2))] [1, 1, -1] rfl h0 q0.2.2)),
    (fun {a : Nat} {b : Nat} {c : Int} {d : Int} (h0 : (b ≤ (7998 : Nat))) (h1 : (((c = (0 : Int)) ∧ ((d = (1 : Int)) ∧ (b = ((2 : Nat) * a)))) ∨ ((c = (1 : Int)) ∧ ((d = (2 : Int)) ∧ ((b + (1 : Nat)) = ((2 : Nat) * a)))))) => h1.elim (fun q0 => lc [] [b, a] (3, var 2, num 100000) [(3, var 0, num 7998), (5, var 0, .mulL 2 (var 2))] [2, 1, -1] rfl h0 q0.2.2) (fun q0 => lc [] [b, a] (3, var 2, num 100000) [(3, var 0, num 7998), (5, .add (var 0) (num 1), .mulL 2 (var 2))] [2, 1, -1] rfl h0 q0.2.2)),
    (fun {a : Int} {b : Int} {c : Int} (h0 : (b = c)) (h1 : (a < c)) => lc [b, c, a] [] (1, var 5, var 1) [(2, var 1, var 3), (1, var 5, var 3)] [1, -1, 1] rfl h0 h1),
    (fun {a : Nat} => lc [] [a] (3, .add (var 0) (num 1), .add (var 0) (num 2)) [] [1] rfl)⟩
theorem omG6 : (∀ {a : Int} {b : Int} (h0 : ((0 : Int) ≤ b)) (h1 : (b < a)), ((0 : Int) ≤ a)) ∧
    (∀ {a : Int} {b : Int} (h0 : ((0 : Int) ≤ b)) (h1 : (b < a)), ((1 : Int) ≤ a)) ∧
    (∀ {a : Int} {b : Int} {c : Int} {d : Int} {e : Int} {f : Int} {g : Int} {i : Int} {j : Int} {k : Int} (h0 : (c < d)) (h1 : ((0 : Int) ≤ e)) (h2 : (f = (g + i))) (h3 : ((0 : Int) ≤ i)) (h4 : ((j + e) = c)) (h5 : ((a * (1 : Int)) ≤ k)) (h6 : ((f * (1 : Int)) ≤ j)) (h7 : (d < b)) (h8 : (g = k)), (a < b)) ∧
    (∀ {a : Nat} {b : Nat} {c : Nat} {d : Int} {e : Int} (h0 : (c ≤ (7998 : Nat))) (h1 : (((d = (0 : Int)) ∧ ((e = (1 : Int)) ∧ (c = ((2 : Nat) * b)))) ∨ ((d = (1 : Int)) ∧ ((e = (2 : Int)) ∧ ((c + (1 : Nat)) = ((2 : Nat) * b)))))) (h2 : (a ≤ (((2 : Nat) * b) + ((2 : Nat) * b)))), (((Nat.cast a : Int) + (Nat.cast b : Int)) ≤ ((2 : Int) ^ (27 : Nat)))) ∧
    (∀ {a : Int} {b : Int} {c : Int} (h0 : ((0 : Int) ≤ a)) (h1 : (a < b)) (h2 : (b ≤ ((0 : Int) * c))), False) ∧
    (∀ {a : Int} (h0 : ((0 : Int) ≤ a)), ((0 : Int) ≤ a)) ∧
    (∀ {a : Int} {b : Int} {c : Nat} {d : Nat} (h0 : (((b = (0 : Int)) ∧ ((a = (1 : Int)) ∧ (c = ((2 : Nat) * d)))) ∨ ((b = (1 : Int)) ∧ ((a = (2 : Int)) ∧ ((c + (1 : Nat)) = ((2 : Nat) * d)))))) (h1 : (b ≠ (0 : Int))), (a = (2 : Int))) ∧
    (∀ {a : Int}, (((a * (2 : Int)) / (2 : Int)) = a)) ∧
    (∀ {a : Int} {b : Int} {c : Nat} {d : Nat} (h0 : (((b = (0 : Int)) ∧ ((a = (1 : Int)) ∧ (c = ((2 : Nat) * d)))) ∨ ((b = (1 : Int)) ∧ ((a = (2 : Int)) ∧ ((c + (1 : Nat)) = ((2 : Nat) * d)))))) (h1 : (b = (0 : Int))), (a = (1 : Int))) ∧
    (∀ {a : Int}, ((a * (1 : Int)) = a)) ∧
    (∀ {a : Nat} {b : Int} (h0 : (b = (Nat.cast (a % (2 : Nat)) : Int))) (h1 : (b ≠ (0 : Int))), (((2 : Nat) * ((a + (1 : Nat)) / (2 : Nat))) = (a + (1 : Nat)))) ∧
    (∀ {a : Nat} {b : Int} (h0 : (b = (Nat.cast (a % (2 : Nat)) : Int))) (h1 : (b ≠ (0 : Int))), ((a % (2 : Nat)) = (1 : Nat))) :=
  ⟨(fun {a : Int} {b : Int} (h0 : ((0 : Int) ≤ b)) (h1 : (b < a)) => lc [b, a] [] (0, num 0, var 3) [(0, num 0, var 1), (1, var 1, var 3)] [1, 1, 1] rfl h0 h1),
    (fun {a : Int} {b : Int} (h0 : ((0 : Int) ≤ b)) (h1 : (b < a)) => lc [b, a] [] (0, num 1, var 3) [(0, num 0, var 1), (1, var 1, var 3)] [1, 1, 1] rfl h0 h1),
    (fun {a : Int} {b : Int} {c : Int} {d : Int} {e : Int} {f : Int} {g : Int} {i : Int} {j : Int} {k : Int} (h0 : (c < d)) (h1 : ((0 : Int) ≤ e)) (h2 : (f = (g + i))) (h3 : ((0 : Int) ≤ i)) (h4 : ((j + e) = c)) (h5 : ((a * (1 : Int)) ≤ k)) (h6 : ((f * (1 : Int)) ≤ j)) (h7 : (d < b)) (h8 : (g = k)) => lc [c, d, e, f, g, i, j, a, k, b] [] (1, var 15, var 19) [(1, var 1, var 3), (0, num 0, var 5), (2, var 7, .add (var 9) (var 11)), (0, num 0, var 11), (2, .add (var 13) (var 5), var 1), (0, .mulR (var 15) 1, var 17), (0, .mulR (var 7) 1, var 13), (1, var 3, var 19), (2, var 9, var 17)] [1, 1, 1, -1, 1, 1, 1, 1, 1, -1] rfl h0 h1 h2 h3 h4 h5 h6 h7 h8),
    (fun {a : Nat} {b : Nat} {c : Nat} {d : Int} {e : Int} (h0 : (c ≤ (7998 : Nat))) (h1 : (((d = (0 : Int)) ∧ ((e = (1 : Int)) ∧ (c = ((2 : Nat) * b)))) ∨ ((d = (1 : Int)) ∧ ((e = (2 : Int)) ∧ ((c + (1 : Nat)) = ((2 : Nat) * b)))))) (h2 : (a ≤ (((2 : Nat) * b) + ((2 : Nat) * b)))) => h1.elim (fun q0 => lc [] [c, a, b] (0, .add (var 2) (var 4), num ((2 : Int) ^ (27 : Nat))) [(3, var 0, num 7998), (3, var 2, .add (.mulL 2 (var 4)) (.mulL 2 (var 4))), (5, var 0, .mulL 2 (var 4))] [2, 5, 2, -5] rfl h0 h2 q0.2.2) (fun q0 => lc [] [c, a, b] (0, .add (var 2) (var 4), num ((2 : Int) ^ (27 : Nat))) [(3, var 0, num 7998), (3, var 2, .add (.mulL 2 (var 4)) (.mulL 2 (var 4))), (5, .add (var 0) (num 1), .mulL 2 (var 4))] [2, 5, 2, -5] rfl h0 h2 q0.2.2)),
    (fun {a : Int} {b : Int} {c : Int} (h0 : ((0 : Int) ≤ a)) (h1 : (a < b)) (h2 : (b ≤ ((0 : Int) * c))) => lc [a, b, c] [] (8, num 0, num 0) [(0, num 0, var 1), (1, var 1, var 3), (0, var 3, .mulL 0 (var 5))] [0, 1, 1, 1] rfl h0 h1 h2),
    (fun {a : Int} (h0 : ((0 : Int) ≤ a)) => h0),
    (fun {a : Int} {b : Int} {c : Nat} {d : Nat} (h0 : (((b = (0 : Int)) ∧ ((a = (1 : Int)) ∧ (c = ((2 : Nat) * d)))) ∨ ((b = (1 : Int)) ∧ ((a = (2 : Int)) ∧ ((c + (1 : Nat)) = ((2 : Nat) * d)))))) (h1 : (b ≠ (0 : Int))) => h0.elim (fun q0 => (Int.lt_or_gt_of_ne h1).elim (fun q1 => lq [b, a] [] (var 3) (num 2) [(2, var 1, num 0), (2, var 3, num 1), (1, var 1, num 0)] [0, -1, 0, 1] [1, 0, 1, 0] rfl q0.1 q0.2.1 q1) (fun q1 => lq [b, a] [] (var 3) (num 2) [(2, var 1, num 0), (2, var 3, num 1), (1, num 0, var 1)] [0, 1, 0, 1] [1, 0, 1, 0] rfl q0.1 q0.2.1 q1)) (fun q0 => lq [a] [] (var 1) (num 2) [(2, var 1, num 2)] [1, -1] [1, 1] rfl q0.2.1)),
    (fun {a : Int} => lq [((a * (2 : Int)) / (2 : Int)), ((a * (2 : Int)) % (2 : Int)), a] [] (var 1) (var 5) [(2, .add (.mulL 2 (var 1)) (var 3), .mulR (var 5) 2), (1, var 3, num 2), (0, num 0, var 3)] [2, -1, 1, 0] [2, 1, 0, 1] rfl (Int.mul_ediv_add_emod (a * (2 : Int)) (2 : Int) : ((((2 : Int) * ((a * (2 : Int)) / (2 : Int))) + ((a * (2 : Int)) % (2 : Int))) = (a * (2 : Int)))) (Int.emod_lt_of_pos (a * (2 : Int)) (by decide) : (((a * (2 : Int)) % (2 : Int)) < (2 : Int))) (Int.emod_nonneg (a * (2 : Int)) (by decide) : ((0 : Int) ≤ ((a * (2 : Int)) % (2 : Int))))),
    (fun {a : Int} {b : Int} {c : Nat} {d : Nat} (h0 : (((b = (0 : Int)) ∧ ((a = (1 : Int)) ∧ (c = ((2 : Nat) * d)))) ∨ ((b = (1 : Int)) ∧ ((a = (2 : Int)) ∧ ((c + (1 : Nat)) = ((2 : Nat) * d)))))) (h1 : (b = (0 : Int))) => h0.elim (fun q0 => lq [a] [] (var 1) (num 1) [(2, var 1, num 1)] [1, -1] [1, 1] rfl q0.2.1) (fun q0 => lq [b, a] [] (var 3) (num 1) [(2, var 1, num 0), (2, var 1, num 1)] [0, 1, -1] [0, 1, -1] rfl h1 q0.1)),
    (fun {a : Int} => lq [a] [] (.mulR (var 1) 1) (var 1) [] [1] [1] rfl),
    (fun {a : Nat} {b : Int} (h0 : (b = (Nat.cast (a % (2 : Nat)) : Int))) (h1 : (b ≠ (0 : Int))) => (Nat.mod_two_eq_zero_or_one a).elim (fun e => absurd (h0.trans (congrArg Nat.cast e)) h1) (fun e => Nat.mul_div_cancel' (Nat.dvd_of_mod_eq_zero ((Nat.add_mod a 1 2).trans (by rw [e]))))),
    (fun {a : Nat} {b : Int} (h0 : (b = (Nat.cast (a % (2 : Nat)) : Int))) (h1 : (b ≠ (0 : Int))) => (Int.lt_or_gt_of_ne h1).elim (fun q0 => ln [b] [(a % (2 : Nat))] (var 0) (num 1) [(2, var 1, var 0), (1, var 1, num 0)] [0, -1, 1] [1, -1, 1] rfl h0 q0) (fun q0 => ln [b] [(a % (2 : Nat))] (var 0) (num 1) [(2, var 1, var 0), (1, num 0, var 1), (4, var 0, num 2)] [1, 1, 1, 0] [1, 0, 0, 1] rfl h0 q0 (Nat.mod_lt a (by decide) : ((a % (2 : Nat)) < (2 : Nat)))))⟩
theorem omG7 : (∀ {a : Nat} {b : Int} (h0 : (b = (Nat.cast (a % (2 : Nat)) : Int))) (h1 : (b ≠ (0 : Int))), ((a + (1 : Nat)) = ((2 : Nat) * ((a + (1 : Nat)) / (2 : Nat))))) ∧
    (∀ {a : Nat} {b : Int} (h0 : (b = (Nat.cast (a % (2 : Nat)) : Int))) (h1 : (b = (0 : Int))), (((2 : Nat) * (a / (2 : Nat))) = a)) ∧
    (∀ {a : Nat} {b : Int} (h0 : (b = (Nat.cast (a % (2 : Nat)) : Int))) (h1 : (b = (0 : Int))), ((a % (2 : Nat)) = (0 : Nat))) ∧
    (∀ {a : Nat} {b : Int} (h0 : (b = (Nat.cast (a % (2 : Nat)) : Int))) (h1 : (b = (0 : Int))), (a = ((2 : Nat) * (a / (2 : Nat))))) ∧
    (((0 : Int) ≤ (4 : Int))) ∧
    (∀ {a : Nat}, ((((Nat.cast a : Int) % (4 : Int)) = (0 : Int)) ∨ ((((Nat.cast a : Int) % (4 : Int)) = (1 : Int)) ∨ ((((Nat.cast a : Int) % (4 : Int)) = (2 : Int)) ∨ (((Nat.cast a : Int) % (4 : Int)) = (3 : Int)))))) ∧
    (∀ {a : Nat} {b : Nat} (h0 : (b ≤ (63 : Nat))) (h1 : (a < b)), ((Nat.cast a : Int) < (((2 : Int) ^ (63 : Nat)) - (1 : Int)))) ∧
    (∀ {a : Nat} {b : Nat} {c : Nat} (h0 : (b = c)) (h1 : (a < c)), (a < b)) ∧
    (∀ {a : Nat} {b : Nat} {c : Nat} (h0 : (c < b)) (h1 : (a < c)), (a < b)) ∧
    (∀ {a : Int} (h0 : ((2 : Int) ≤ a)), ((a - (1 : Int)) ≠ (0 : Int))) ∧
    (∀ {a : Int} (h0 : ((0 : Int) ≤ a)), ((0 : Int) ≤ (a + (1 : Int)))) ∧
    (∀ {a : Nat} {b : Nat} {c : Nat}, ((a + (b + c)) = ((a + b) + c))) :=
  ⟨(fun {a : Nat} {b : Int} (h0 : (b = (Nat.cast (a % (2 : Nat)) : Int))) (h1 : (b ≠ (0 : Int))) => (Nat.mod_two_eq_zero_or_one a).elim (fun e => absurd (h0.trans (congrArg Nat.cast e)) h1) (fun e => (Nat.mul_div_cancel' (Nat.dvd_of_mod_eq_zero ((Nat.add_mod a 1 2).trans (by rw [e])))).symm)),
    (fun {a : Nat} {b : Int} (h0 : (b = (Nat.cast (a % (2 : Nat)) : Int))) (h1 : (b = (0 : Int))) => ln [b] [(a % (2 : Nat)), (a / (2 : Nat)), a] (.mulL 2 (var 2)) (var 4) [(2, var 1, var 0), (2, var 1, num 0), (5, .add (.mulL 2 (var 2)) (var 0), var 4)] [1, -1, 1, -1] [1, 1, -1, 1] rfl h0 h1 (Nat.div_add_mod a (2 : Nat) : ((((2 : Nat) * (a / (2 : Nat))) + (a % (2 : Nat))) = a))),
    (fun {a : Nat} {b : Int} (h0 : (b = (Nat.cast (a % (2 : Nat)) : Int))) (h1 : (b = (0 : Int))) => ln [b] [(a % (2 : Nat))] (var 0) (num 0) [(2, var 1, var 0), (2, var 1, num 0)] [1, 1, -1] [1, -1, 1] rfl h0 h1),
    (fun {a : Nat} {b : Int} (h0 : (b = (Nat.cast (a % (2 : Nat)) : Int))) (h1 : (b = (0 : Int))) => ln [b] [(a % (2 : Nat)), (a / (2 : Nat)), a] (var 4) (.mulL 2 (var 2)) [(2, var 1, var 0), (2, var 1, num 0), (5, .add (.mulL 2 (var 2)) (var 0), var 4)] [1, 1, -1, 1] [1, -1, 1, -1] rfl h0 h1 (Nat.div_add_mod a (2 : Nat) : ((((2 : Nat) * (a / (2 : Nat))) + (a % (2 : Nat))) = a))),
    (by decide),
    (fun {a : Nat} => (Decidable.em (((Nat.cast a : Int) % (4 : Int)) = (0 : Int))).elim Or.inl fun q0 => Or.inr ((Decidable.em (((Nat.cast a : Int) % (4 : Int)) = (1 : Int))).elim Or.inl fun q1 => Or.inr ((Decidable.em (((Nat.cast a : Int) % (4 : Int)) = (2 : Int))).elim Or.inl fun q2 => Or.inr ((Int.lt_or_gt_of_ne q0).elim (fun q3 => lq [((Nat.cast a : Int) % (4 : Int))] [] (var 1) (num 3) [(1, var 1, num 0), (0, num 0, var 1)] [0, 1, 1] [1, 1, 0] rfl q3 (Int.emod_nonneg (Nat.cast a : Int) (by decide) : ((0 : Int) ≤ ((Nat.cast a : Int) % (4 : Int))))) (fun q3 => (Int.lt_or_gt_of_ne q1).elim (fun q4 => lq [((Nat.cast a : Int) % (4 : Int))] [] (var 1) (num 3) [(1, num 0, var 1), (1, var 1, num 1)] [0, 1, 1] [1, 0, 1] rfl q3 q4) (fun q4 => (Int.lt_or_gt_of_ne q2).elim (fun q5 => lq [((Nat.cast a : Int) % (4 : Int))] [] (var 1) (num 3) [(1, num 1, var 1), (1, var 1, num 2)] [0, 1, 1] [1, 0, 1] rfl q4 q5) (fun q5 => lq [((Nat.cast a : Int) % (4 : Int))] [] (var 1) (num 3) [(1, num 2, var 1), (1, var 1, num 4)] [1, 1, 0] [1, 0, 1] rfl q5 (Int.emod_lt_of_pos (Nat.cast a : Int) (by decide) : (((Nat.cast a : Int) % (4 : Int)) < (4 : Int)))))))))),
    (fun {a : Nat} {b : Nat} (h0 : (b ≤ (63 : Nat))) (h1 : (a < b)) => lc [] [b, a] (1, var 2, .sub (num ((2 : Int) ^ (63 : Nat))) (num 1)) [(3, var 0, num 63), (4, var 2, var 0)] [1, 1, 1] rfl h0 h1),
    (fun {a : Nat} {b : Nat} {c : Nat} (h0 : (b = c)) (h1 : (a < c)) => lc [] [b, c, a] (4, var 4, var 0) [(5, var 0, var 2), (4, var 4, var 2)] [1, -1, 1] rfl h0 h1),
    (fun {a : Nat} {b : Nat} {c : Nat} (h0 : (c < b)) (h1 : (a < c)) => lc [] [c, b, a] (4, var 4, var 2) [(4, var 0, var 2), (4, var 4, var 0)] [1, 1, 1] rfl h0 h1),
    (fun {a : Int} (h0 : ((2 : Int) ≤ a)) => lc [a] [] (6, .sub (var 1) (num 1), num 0) [(0, num 2, var 1)] [-1, 1] rfl h0),
    (fun {a : Int} (h0 : ((0 : Int) ≤ a)) => lc [a] [] (0, num 0, .add (var 1) (num 1)) [(0, num 0, var 1)] [1, 1] rfl h0),
    (fun {a : Nat} {b : Nat} {c : Nat} => ln [] [a, b, c] (.add (var 0) (.add (var 2) (var 4))) (.add (.add (var 0) (var 2)) (var 4)) [] [1] [1] rfl)⟩
theorem omG8 : (∀ {a : Nat} {b : Nat} (h0 : ((4000 : Nat) ≤ a)) (h1 : (b ≤ (3 : Nat))), (a = ((a - ((2 : Nat) * b)) + ((2 : Nat) * b)))) ∧
    (∀ {a : Nat} {b : Nat} (h0 : (b ≤ (3 : Nat))) (h1 : ((4000 : Nat) ≤ (a + ((2 : Nat) * b)))), (((2 : Nat) * (10 : Nat)) ≤ ((2 : Nat) * a))) ∧
    (∀ {a : Nat} {b : Nat}, (((a + ((2 : Nat) * b)) - b) = (a + b))) ∧
    (∀ {a : Nat} {b : Nat}, (((a + ((2 : Nat) * b)) - ((2 : Nat) * b)) = a)) ∧
    (∀ {a : Nat}, (((2 : Nat) * a) = (a + a))) ∧
    (∀ {a : Nat} {b : Nat} (h0 : ((4000 : Nat) ≤ (a + ((2 : Nat) * b)))), ((Nat.succ (((2 : Nat) * (a + ((2 : Nat) * b))) - (1 : Nat))) = ((2 : Nat) * (a + ((2 : Nat) * b))))) ∧
    (∀ {a : Int} (h0 : (a < (4 : Int))), (a ≤ (3 : Int))) ∧
    (∀ {a : Int} {b : Int} {c : Int} {d : Int} {e : Int} (h0 : (b < (1000 : Int))) (h1 : (((4 : Int) ^ (10 : Nat)) ≤ c)) (h2 : (d < (3 : Int))) (h3 : (c = (((3 : Int) * e) + d))) (h4 : (a = (((c * (4 : Int)) + e) - b))), ((0 : Int) ≤ a)) ∧
    (∀ {a : Int} (h0 : ((2 : Int) ≤ a)), ((2 : Int) ≤ a)) ∧
    (∀ {a : Int} {b : Int} {c : Int} {d : Int} {e : Int} {f : Int} {g : Int} (h0 : (c < (1000 : Int))) (h1 : (((4 : Int) ^ (10 : Nat)) ≤ d)) (h2 : (e < (3 : Int))) (h3 : (d = (((3 : Int) * f) + e))) (h4 : (g = (((d * (4 : Int)) + f) - c))) (h5 : ((a * (2 : Int)) = ((d * (4 : Int)) * (4 : Int)))) (h6 : (((2 : Int) * g) ≤ b)), (a ≤ b)) ∧
    (∀ {a : Int} {b : Int} {c : Int} {d : Int} {e : Int} {f : Int} (h0 : ((0 : Int) ≤ c)) (h1 : (((4 : Int) ^ (10 : Nat)) ≤ b)) (h2 : ((0 : Int) ≤ d)) (h3 : (b = (((3 : Int) * e) + d))) (h4 : (f = (((b * (4 : Int)) + e) - c))) (h5 : (a ≤ ((3 : Int) * f))), (a < ((b * (4 : Int)) * (4 : Int)))) ∧
    (∀ {a : Int} {b : Int} {c : Int} {d : Int} {e : Int} (h0 : (b < (1000 : Int))) (h1 : (((4 : Int) ^ (10 : Nat)) ≤ c)) (h2 : (d < (3 : Int))) (h3 : (c = (((3 : Int) * e) + d))) (h4 : (a = (((c * (4 : Int)) + e) - b))), ((1 : Int) ≤ a)) :=
  ⟨(fun {a : Nat} {b : Nat} (h0 : ((4000 : Nat) ≤ a)) (h1 : (b ≤ (3 : Nat))) => ln [] [a, b, (a - ((2 : Nat) * b))] (var 0) (.add (var 4) (.mulL 2 (var 2))) [(5, .add (var 4) (.mulL 2 (var 2)), var 0)] [1, 1] [1, -1] rfl (Nat.sub_add_cancel (lc [] [a, b] (3, .mulL 2 (var 2), var 0) [(3, num 4000, var 0), (3, var 2, num 3)] [1, 1, 2] rfl h0 h1 : (((2 : Nat) * b) ≤ a)) : (((a - ((2 : Nat) * b)) + ((2 : Nat) * b)) = a))),
    (fun {a : Nat} {b : Nat} (h0 : (b ≤ (3 : Nat))) (h1 : ((4000 : Nat) ≤ (a + ((2 : Nat) * b)))) => lc [] [b, a] (3, .mulL 2 (num 10), .mulL 2 (var 2)) [(3, var 0, num 3), (3, num 4000, .add (var 2) (.mulL 2 (var 0)))] [1, 4, 2] rfl h0 h1),
    (fun {a : Nat} {b : Nat} => ln [] [((a + ((2 : Nat) * b)) - b), b, a] (var 0) (.add (var 4) (var 2)) [(5, .add (var 0) (var 2), .add (var 4) (.mulL 2 (var 2)))] [1, -1] [1, 1] rfl (Nat.sub_add_cancel (lc [] [b, a] (3, var 0, .add (var 2) (.mulL 2 (var 0))) [] [1] rfl : (b ≤ (a + ((2 : Nat) * b)))) : ((((a + ((2 : Nat) * b)) - b) + b) = (a + ((2 : Nat) * b))))),
    (fun {a : Nat} {b : Nat} => ln [] [((a + ((2 : Nat) * b)) - ((2 : Nat) * b)), b, a] (var 0) (var 4) [(5, .add (var 0) (.mulL 2 (var 2)), .add (var 4) (.mulL 2 (var 2)))] [1, -1] [1, 1] rfl (Nat.sub_add_cancel (lc [] [b, a] (3, .mulL 2 (var 0), .add (var 2) (.mulL 2 (var 0))) [] [1] rfl : (((2 : Nat) * b) ≤ (a + ((2 : Nat) * b)))) : ((((a + ((2 : Nat) * b)) - ((2 : Nat) * b)) + ((2 : Nat) * b)) = (a + ((2 : Nat) * b))))),
    (fun {a : Nat} => ln [] [a] (.mulL 2 (var 0)) (.add (var 0) (var 0)) [] [1] [1] rfl),
    (fun {a : Nat} {b : Nat} (h0 : ((4000 : Nat) ≤ (a + ((2 : Nat) * b)))) => ln [] [a, b, (((2 : Nat) * (a + ((2 : Nat) * b))) - (1 : Nat))] (.add (var 4) (num 1)) (.mulL 2 (.add (var 0) (.mulL 2 (var 2)))) [(5, .add (var 4) (num 1), .mulL 2 (.add (var 0) (.mulL 2 (var 2))))] [1, -1] [1, 1] rfl (Nat.sub_add_cancel (lc [] [a, b] (3, num 1, .mulL 2 (.add (var 0) (.mulL 2 (var 2)))) [(3, num 4000, .add (var 0) (.mulL 2 (var 2)))] [1, 2] rfl h0 : ((1 : Nat) ≤ ((2 : Nat) * (a + ((2 : Nat) * b))))) : (((((2 : Nat) * (a + ((2 : Nat) * b))) - (1 : Nat)) + (1 : Nat)) = ((2 : Nat) * (a + ((2 : Nat) * b)))))),
    (fun {a : Int} (h0 : (a < (4 : Int))) => lc [a] [] (0, var 1, num 3) [(1, var 1, num 4)] [1, 1] rfl h0),
    (fun {a : Int} {b : Int} {c : Int} {d : Int} {e : Int} (h0 : (b < (1000 : Int))) (h1 : (((4 : Int) ^ (10 : Nat)) ≤ c)) (h2 : (d < (3 : Int))) (h3 : (c = (((3 : Int) * e) + d))) (h4 : (a = (((c * (4 : Int)) + e) - b))) => lc [b, c, d, e, a] [] (0, num 0, var 9) [(1, var 1, num 1000), (0, num ((4 : Int) ^ (10 : Nat)), var 3), (1, var 5, num 3), (2, var 3, .add (.mulL 3 (var 7)) (var 5)), (2, var 9, .sub (.add (.mulR (var 3) 4) (var 7)) (var 1))] [3, 3, 13, 1, 1, -3] rfl h0 h1 h2 h3 h4),
    (fun {a : Int} (h0 : ((2 : Int) ≤ a)) => h0),
    (fun {a : Int} {b : Int} {c : Int} {d : Int} {e : Int} {f : Int} {g : Int} (h0 : (c < (1000 : Int))) (h1 : (((4 : Int) ^ (10 : Nat)) ≤ d)) (h2 : (e < (3 : Int))) (h3 : (d = (((3 : Int) * f) + e))) (h4 : (g = (((d * (4 : Int)) + f) - c))) (h5 : ((a * (2 : Int)) = ((d * (4 : Int)) * (4 : Int)))) (h6 : (((2 : Int) * g) ≤ b)) => lc [c, d, e, f, g, a, b] [] (0, var 11, var 13) [(1, var 1, num 1000), (0, num ((4 : Int) ^ (10 : Nat)), var 3), (1, var 5, num 3), (2, var 3, .add (.mulL 3 (var 7)) (var 5)), (2, var 9, .sub (.add (.mulR (var 3) 4) (var 7)) (var 1)), (2, .mulR (var 11) 2, .mulR (.mulR (var 3) 4) 4), (0, .mulL 2 (var 9), var 13)] [6, 12, 4, 4, 4, -12, 3, 6] rfl h0 h1 h2 h3 h4 h5 h6),
    (fun {a : Int} {b : Int} {c : Int} {d : Int} {e : Int} {f : Int} (h0 : ((0 : Int) ≤ c)) (h1 : (((4 : Int) ^ (10 : Nat)) ≤ b)) (h2 : ((0 : Int) ≤ d)) (h3 : (b = (((3 : Int) * e) + d))) (h4 : (f = (((b * (4 : Int)) + e) - c))) (h5 : (a ≤ ((3 : Int) * f))) => lc [c, b, d, e, f, a] [] (1, var 11, .mulR (.mulR (var 3) 4) 4) [(0, num 0, var 1), (0, num ((4 : Int) ^ (10 : Nat)), var 3), (0, num 0, var 5), (2, var 3, .add (.mulL 3 (var 7)) (var 5)), (2, var 9, .sub (.add (.mulR (var 3) 4) (var 7)) (var 1)), (0, var 11, .mulL 3 (var 9))] [1, 3, 3, 1, -1, 3, 1] rfl h0 h1 h2 h3 h4 h5),
    (fun {a : Int} {b : Int} {c : Int} {d : Int} {e : Int} (h0 : (b < (1000 : Int))) (h1 : (((4 : Int) ^ (10 : Nat)) ≤ c)) (h2 : (d < (3 : Int))) (h3 : (c = (((3 : Int) * e) + d))) (h4 : (a = (((c * (4 : Int)) + e) - b))) => lc [b, c, d, e, a] [] (0, num 1, var 9) [(1, var 1, num 1000), (0, num ((4 : Int) ^ (10 : Nat)), var 3), (1, var 5, num 3), (2, var 3, .add (.mulL 3 (var 7)) (var 5)), (2, var 9, .sub (.add (.mulR (var 3) 4) (var 7)) (var 1))] [3, 3, 13, 1, 1, -3] rfl h0 h1 h2 h3 h4)⟩
theorem omG9 : (∀ {a : Int} (h0 : (a < (16 : Int))), (a ≤ (15 : Int))) ∧
    (∀ {a : Int} {b : Int} {c : Int} {d : Int} {e : Int} (h0 : (b < (1000 : Int))) (h1 : (((4 : Int) ^ (10 : Nat)) ≤ c)) (h2 : (d < (3 : Int))) (h3 : (c = (((3 : Int) * e) + d))) (h4 : (a = (((c * (16 : Int)) + e) - b))), ((0 : Int) ≤ a)) ∧
    (∀ {a : Int} (h0 : ((8 : Int) ≤ a)), ((8 : Int) ≤ a)) ∧
    (∀ {a : Int} {b : Int} {c : Int} {d : Int} {e : Int} {f : Int} {g : Int} (h0 : (c < (1000 : Int))) (h1 : (((4 : Int) ^ (10 : Nat)) ≤ d)) (h2 : (e < (3 : Int))) (h3 : (d = (((3 : Int) * f) + e))) (h4 : (g = (((d * (16 : Int)) + f) - c))) (h5 : ((a * (2 : Int)) = ((d * (16 : Int)) * (16 : Int)))) (h6 : (((8 : Int) * g) ≤ b)), (a ≤ b)) ∧
    (∀ {a : Int} {b : Int} {c : Int} {d : Int} {e : Int} {f : Int} (h0 : ((0 : Int) ≤ c)) (h1 : (((4 : Int) ^ (10 : Nat)) ≤ b)) (h2 : ((0 : Int) ≤ d)) (h3 : (b = (((3 : Int) * e) + d))) (h4 : (f = (((b * (16 : Int)) + e) - c))) (h5 : (a ≤ ((15 : Int) * f))), (a < ((b * (16 : Int)) * (16 : Int)))) ∧
    (∀ {a : Int} {b : Int} {c : Int} {d : Int} {e : Int} (h0 : (b < (1000 : Int))) (h1 : (((4 : Int) ^ (10 : Nat)) ≤ c)) (h2 : (d < (3 : Int))) (h3 : (c = (((3 : Int) * e) + d))) (h4 : (a = (((c * (16 : Int)) + e) - b))), ((1 : Int) ≤ a)) ∧
    (∀ {a : Int} (h0 : (a < (64 : Int))), (a ≤ (63 : Int))) ∧
    (∀ {a : Int} {b : Int} {c : Int} {d : Int} {e : Int} (h0 : (b < (1000 : Int))) (h1 : (((4 : Int) ^ (10 : Nat)) ≤ c)) (h2 : (d < (3 : Int))) (h3 : (c = (((3 : Int) * e) + d))) (h4 : (a = (((c * (64 : Int)) + e) - b))), ((0 : Int) ≤ a)) ∧
    (∀ {a : Int} (h0 : ((32 : Int) ≤ a)), ((32 : Int) ≤ a)) ∧
    (∀ {a : Int} {b : Int} {c : Int} {d : Int} {e : Int} {f : Int} {g : Int} (h0 : (c < (1000 : Int))) (h1 : (((4 : Int) ^ (10 : Nat)) ≤ d)) (h2 : (e < (3 : Int))) (h3 : (d = (((3 : Int) * f) + e))) (h4 : (g = (((d * (64 : Int)) + f) - c))) (h5 : ((a * (2 : Int)) = ((d * (64 : Int)) * (64 : Int)))) (h6 : (((32 : Int) * g) ≤ b)), (a ≤ b)) ∧
    (∀ {a : Int} {b : Int} {c : Int} {d : Int} {e : Int} {f : Int} (h0 : ((0 : Int) ≤ c)) (h1 : (((4 : Int) ^ (10 : Nat)) ≤ b)) (h2 : ((0 : Int) ≤ d)) (h3 : (b = (((3 : Int) * e) + d))) (h4 : (f = (((b * (64 : Int)) + e) - c))) (h5 : (a ≤ ((63 : Int) * f))), (a < ((b * (64 : Int)) * (64 : Int)))) ∧
    (∀ {a : Int} {b : Int} {c : Int} {d : Int} {e : Int} (h0 : (b < (1000 : Int))) (h1 : (((4 : Int) ^ (10 : Nat)) ≤ c)) (h2 : (d < (3 : Int))) (h3 : (c = (((3 : Int) * e) + d))) (h4 : (a = (((c * (64 : Int)) + e) - b))), ((1 : Int) ≤ a)) :=
  ⟨(fun {a : Int} (h0 : (a < (16 : Int))) => lc [a] [] (0, var 1, num 15) [(1, var 1, num 16)] [1, 1] rfl h0),
    (fun {a : Int} {b : Int} {c : Int} {d : Int} {e : Int} (h0 : (b < (1000 : Int))) (h1 : (((4 : Int) ^ (10 : Nat)) ≤ c)) (h2 : (d < (3 : Int))) (h3 : (c = (((3 : Int) * e) + d))) (h4 : (a = (((c * (16 : Int)) + e) - b))) => lc [b, c, d, e, a] [] (0, num 0, var 9) [(1, var 1, num 1000), (0, num ((4 : Int) ^ (10 : Nat)), var 3), (1, var 5, num 3), (2, var 3, .add (.mulL 3 (var 7)) (var 5)), (2, var 9, .sub (.add (.mulR (var 3) 16) (var 7)) (var 1))] [3, 3, 49, 1, 1, -3] rfl h0 h1 h2 h3 h4),
    (fun {a : Int} (h0 : ((8 : Int) ≤ a)) => h0),
    (fun {a : Int} {b : Int} {c : Int} {d : Int} {e : Int} {f : Int} {g : Int} (h0 : (c < (1000 : Int))) (h1 : (((4 : Int) ^ (10 : Nat)) ≤ d)) (h2 : (e < (3 : Int))) (h3 : (d = (((3 : Int) * f) + e))) (h4 : (g = (((d * (16 : Int)) + f) - c))) (h5 : ((a * (2 : Int)) = ((d * (16 : Int)) * (16 : Int)))) (h6 : (((8 : Int) * g) ≤ b)) => lc [c, d, e, f, g, a, b] [] (0, var 11, var 13) [(1, var 1, num 1000), (0, num ((4 : Int) ^ (10 : Nat)), var 3), (1, var 5, num 3), (2, var 3, .add (.mulL 3 (var 7)) (var 5)), (2, var 9, .sub (.add (.mulR (var 3) 16) (var 7)) (var 1)), (2, .mulR (var 11) 2, .mulR (.mulR (var 3) 16) 16), (0, .mulL 8 (var 9), var 13)] [6, 48, 16, 16, 16, -48, 3, 6] rfl h0 h1 h2 h3 h4 h5 h6),
    (fun {a : Int} {b : Int} {c : Int} {d : Int} {e : Int} {f : Int} (h0 : ((0 : Int) ≤ c)) (h1 : (((4 : Int) ^ (10 : Nat)) ≤ b)) (h2 : ((0 : Int) ≤ d)) (h3 : (b = (((3 : Int) * e) + d))) (h4 : (f = (((b * (16 : Int)) + e) - c))) (h5 : (a ≤ ((15 : Int) * f))) => lc [c, b, d, e, f, a] [] (1, var 11, .mulR (.mulR (var 3) 16) 16) [(0, num 0, var 1), (0, num ((4 : Int) ^ (10 : Nat)), var 3), (0, num 0, var 5), (2, var 3, .add (.mulL 3 (var 7)) (var 5)), (2, var 9, .sub (.add (.mulR (var 3) 16) (var 7)) (var 1)), (0, var 11, .mulL 15 (var 9))] [1, 15, 11, 5, -5, 15, 1] rfl h0 h1 h2 h3 h4 h5),
    (fun {a : Int} {b : Int} {c : Int} {d : Int} {e : Int} (h0 : (b < (1000 : Int))) (h1 : (((4 : Int) ^ (10 : Nat)) ≤ c)) (h2 : (d < (3 : Int))) (h3 : (c = (((3 : Int) * e) + d))) (h4 : (a = (((c * (16 : Int)) + e) - b))) => lc [b, c, d, e, a] [] (0, num 1, var 9) [(1, var 1, num 1000), (0, num ((4 : Int) ^ (10 : Nat)), var 3), (1, var 5, num 3), (2, var 3, .add (.mulL 3 (var 7)) (var 5)), (2, var 9, .sub (.add (.mulR (var 3) 16) (var 7)) (var 1))] [3, 3, 49, 1, 1, -3] rfl h0 h1 h2 h3 h4),
    (fun {a : Int} (h0 : (a < (64 : Int))) => lc [a] [] (0, var 1, num 63) [(1, var 1, num 64)] [1, 1] rfl h0),
    (fun {a : Int} {b : Int} {c : Int} {d : Int} {e : Int} (h0 : (b < (1000 : Int))) (h1 : (((4 : Int) ^ (10 : Nat)) ≤ c)) (h2 : (d < (3 : Int))) (h3 : (c = (((3 : Int) * e) + d))) (h4 : (a = (((c * (64 : Int)) + e) - b))) => lc [b, c, d, e, a] [] (0, num 0, var 9) [(1, var 1, num 1000), (0, num ((4 : Int) ^ (10 : Nat)), var 3), (1, var 5, num 3), (2, var 3, .add (.mulL 3 (var 7)) (var 5)), (2, var 9, .sub (.add (.mulR (var 3) 64) (var 7)) (var 1))] [3, 3, 193, 1, 1, -3] rfl h0 h1 h2 h3 h4),
    (fun {a : Int} (h0 : ((32 : Int) ≤ a)) => h0),
    (fun {a : Int} {b : Int} {c : Int} {d : Int} {e : Int} {f : Int} {g : Int} (h0 : (c < (1000 : Int))) (h1 : (((4 : Int) ^ (10 : Nat)) ≤ d)) (h2 : (e < (3 : Int))) (h3 : (d = (((3 : Int) * f) + e))) (h4 : (g = (((d * (64 : Int)) + f) - c))) (h5 : ((a * (2 : Int)) = ((d * (64 : Int)) * (64 : Int)))) (h6 : (((32 : Int) * g) ≤ b)) => lc [c, d, e, f, g, a, b] [] (0, var 11, var 13) [(1, var 1, num 1000), (0, num ((4 : Int) ^ (10 : Nat)), var 3), (1, var 5, num 3), (2, var 3, .add (.mulL 3 (var 7)) (var 5)), (2, var 9, .sub (.add (.mulR (var 3) 64) (var 7)) (var 1)), (2, .mulR (var 11) 2, .mulR (.mulR (var 3) 64) 64), (0, .mulL 32 (var 9), var 13)] [6, 192, 64, 64, 64, -192, 3, 6] rfl h0 h1 h2 h3 h4 h5 h6),
    (fun {a : Int} {b : Int} {c : Int} {d : Int} {e : Int} {f : Int} (h0 : ((0 : Int) ≤ c)) (h1 : (((4 : Int) ^ (10 : Nat)) ≤ b)) (h2 : ((0 : Int) ≤ d)) (h3 : (b = (((3 : Int) * e) + d))) (h4 : (f = (((b * (64 : Int)) + e) - c))) (h5 : (a ≤ ((63 : Int) * f))) => lc [c, b, d, e, f, a] [] (1, var 11, .mulR (.mulR (var 3) 64) 64) [(0, num 0, var 1), (0, num ((4 : Int) ^ (10 : Nat)), var 3), (0, num 0, var 5), (2, var 3, .add (.mulL 3 (var 7)) (var 5)), (2, var 9, .sub (.add (.mulR (var 3) 64) (var 7)) (var 1)), (0, var 11, .mulL 63 (var 9))] [1, 63, 43, 21, -21, 63, 1] rfl h0 h1 h2 h3 h4 h5),
    (fun {a : Int} {b : Int} {c : Int} {d : Int} {e : Int} (h0 : (b < (1000 : Int))) (h1 : (((4 : Int) ^ (10 : Nat)) ≤ c)) (h2 : (d < (3 : Int))) (h3 : (c = (((3 : Int) * e) + d))) (h4 : (a = (((c * (64 : Int)) + e) - b))) => lc [b, c, d, e, a] [] (0, num 1, var 9) [(1, var 1, num 1000), (0, num ((4 : Int) ^ (10 : Nat)), var 3), (1, var 5, num 3), (2, var 3, .add (.mulL 3 (var 7)) (var 5)), (2, var 9, .sub (.add (.mulR (var 3) 64) (var 7)) (var 1))] [3, 3, 193, 1, 1, -3] rfl h0 h1 h2 h3 h4)⟩
theorem omG10 : (∀ {a : Nat} {b : Nat} (h0 : (b < a)), ((0 : Nat) < a)) ∧
    (∀ {a : Int} {b : Int} {c : Int} {d : Int} (h0 : (b < d)) (h1 : ((a + ((1 : Int) * d)) ≤ c)), ((a + b) < c)) ∧
    (∀ {a : Nat} (h0 : (a ≤ (0 : Nat))), (a = (0 : Nat))) ∧
    (∀ {a : Nat} {b : Nat} {c : Nat} (h0 : (a < c)) (h1 : (b = c)), (a < b)) ∧
    (∀ {a : Nat} {b : Nat} (h0 : (a < b)), (a ≤ b)) ∧
    (∀ {a : Int} {b : Int} {c : Int} (h0 : (((0 : Int) ≤ b) ∧ (b < c))) (h1 : ((0 : Int) ≤ a)), ((0 : Int) ≤ (a + b))) ∧
    (∀ {a : Nat} {b : Nat} (h0 : (b < a)) (h1 : (a ≤ (b + (1 : Nat)))), (a = (b + (1 : Nat)))) ∧
    (∀ {a : Int} {b : Int} {c : Int}, (((a * (1 : Int)) + (b * (0 : Int))) = (((0 : Int) * c) + a))) ∧
    (∀ {a : Nat} {b : Nat} (h0 : (¬(b < a))), (a ≤ b)) ∧
    (∀ {a : Int} {b : Int} {c : Int} {d : Int} {e : Int} {f : Int} {g : Int} {i : Int} {j : Nat} {k : Nat} (h0 : (¬(j < k))) (h1 : ((j + (1 : Nat)) ≤ k)), (((a + b) = (0 : Int)) ∧ (((c + d) = (e + f)) ∧ (((0 : Int) ≤ g) ∧ (g < i))))) ∧
    (∀ {a : Nat} {b : Nat} (h0 : (¬(a < b))), (((a + (1 : Nat)) - b) = ((a - b) + (1 : Nat)))) ∧
    (∀ {a : Nat} (h0 : (a ≤ ((3 : Nat) * (63 : Nat)))), (a ≤ (192 : Nat))) :=
  ⟨(fun {a : Nat} {b : Nat} (h0 : (b < a)) => lc [] [b, a] (4, num 0, var 2) [(4, var 0, var 2)] [1, 1] rfl h0),
    (fun {a : Int} {b : Int} {c : Int} {d : Int} (h0 : (b < d)) (h1 : ((a + ((1 : Int) * d)) ≤ c)) => lc [b, d, a, c] [] (1, .add (var 5) (var 1), var 7) [(1, var 1, var 3), (0, .add (var 5) (.mulL 1 (var 3)), var 7)] [1, 1, 1] rfl h0 h1),
    (fun {a : Nat} (h0 : (a ≤ (0 : Nat))) => ln [] [a] (var 0) (num 0) [(3, var 0, num 0)] [1, 0] [1, 1] rfl h0),
    (fun {a : Nat} {b : Nat} {c : Nat} (h0 : (a < c)) (h1 : (b = c)) => lc [] [a, c, b] (4, var 0, var 4) [(4, var 0, var 2), (5, var 4, var 2)] [1, 1, -1] rfl h0 h1),
    (fun {a : Nat} {b : Nat} (h0 : (a < b)) => lc [] [a, b] (3, var 0, var 2) [(4, var 0, var 2)] [1, 1] rfl h0),
    (fun {a : Int} {b : Int} {c : Int} (h0 : (((0 : Int) ≤ b) ∧ (b < c))) (h1 : ((0 : Int) ≤ a)) => lc [b, a] [] (0, num 0, .add (var 3) (var 1)) [(0, num 0, var 1), (0, num 0, var 3)] [1, 1, 1] rfl h0.1 h1),
    (fun {a : Nat} {b : Nat} (h0 : (b < a)) (h1 : (a ≤ (b + (1 : Nat)))) => ln [] [b, a] (var 2) (.add (var 0) (num 1)) [(4, var 0, var 2), (3, var 2, .add (var 0) (num 1))] [1, 1, 0] [1, 0, 1] rfl h0 h1),
    (fun {a : Int} {b : Int} {c : Int} => lq [a, b, c] [] (.add (.mulR (var 1) 1) (.mulR (var 3) 0)) (.add (.mulL 0 (var 5)) (var 1)) [] [1] [1] rfl),
    (fun {a : Nat} {b : Nat} (h0 : (¬(b < a))) => lc [] [a, b] (3, var 0, var 2) [(3, var 0, var 2)] [1, 1] rfl (Nat.not_lt.mp h0)),
    (fun {a : Int} {b : Int} {c : Int} {d : Int} {e : Int} {f : Int} {g : Int} {i : Int} {j : Nat} {k : Nat} (h0 : (¬(j < k))) (h1 : ((j + (1 : Nat)) ≤ k)) => ⟨lq [a, b] [k, j] (.add (var 1) (var 3)) (num 0) [(3, var 0, var 2), (3, .add (var 2) (num 1), var 0)] [0, 1, 1] [0, 1, 1] rfl (Nat.not_lt.mp h0) h1, ⟨lq [c, d, e, f] [k, j] (.add (var 1) (var 3)) (.add (var 5) (var 7)) [(3, var 0, var 2), (3, .add (var 2) (num 1), var 0)] [0, 1, 1] [0, 1, 1] rfl (Nat.not_lt.mp h0) h1, ⟨lc [g] [k, j] (0, num 0, var 1) [(3, var 0, var 2), (3, .add (var 2) (num 1), var 0)] [0, 1, 1] rfl (Nat.not_lt.mp h0) h1, lc [g, i] [k, j] (1, var 1, var 3) [(3, var 0, var 2), (3, .add (var 2) (num 1), var 0)] [0, 1, 1] rfl (Nat.not_lt.mp h0) h1⟩⟩⟩),
    (fun {a : Nat} {b : Nat} (h0 : (¬(a < b))) => ln [] [b, a, ((a + (1 : Nat)) - b), (a - b)] (var 4) (.add (var 6) (num 1)) [(5, .add (var 4) (var 0), .add (var 2) (num 1)), (5, .add (var 6) (var 0), var 2)] [1, -1, 1] [1, 1, -1] rfl (Nat.sub_add_cancel (lc [] [b, a] (3, var 0, .add (var 2) (num 1)) [(3, var 0, var 2)] [1, 1] rfl (Nat.not_lt.mp h0) : (b ≤ (a + (1 : Nat)))) : ((((a + (1 : Nat)) - b) + b) = (a + (1 : Nat)))) (Nat.sub_add_cancel (lc [] [b, a] (3, var 0, var 2) [(3, var 0, var 2)] [1, 1] rfl (Nat.not_lt.mp h0) : (b ≤ a)) : (((a - b) + b) = a))),
    (fun {a : Nat} (h0 : (a ≤ ((3 : Nat) * (63 : Nat)))) => lc [] [a] (3, var 0, num 192) [(3, var 0, .mulL 3 (num 63))] [1, 1] rfl h0)⟩
theorem omG11 : (∀ {a : Nat} {b : Nat} (h0 : (b ≤ (63 : Nat))) (h1 : (a ≤ b)), (a ≤ (63 : Nat))) ∧
    (∀ {a : Int} (h0 : (a = (0 : Int))), ((0 : Int) ≤ a)) ∧
    (∀ {a : Nat} {b : Nat} (h0 : (¬(b ≤ a))), (a ≤ b)) ∧
    (∀ {a : Nat} {b : Nat} (h0 : (b ≤ (63 : Nat))) (h1 : (a < b)), (a ≤ (63 : Nat))) ∧
    (∀ {a : Nat} {b : Nat} {c : Nat} (h0 : (c ≤ (63 : Nat))) (h1 : (a ≤ c)), ((a - b) ≤ (63 : Nat))) ∧
    (∀ {a : Nat}, ((((2 : Nat) * a) - (1 : Nat)) = ((a - (1 : Nat)) + a))) ∧
    (∀ {a : Int} {b : Int} (h0 : (¬(b ≤ a))), ((a + (1 : Int)) ≤ b)) ∧
    (∀ {a : Int} {b : Int} {c : Int} {d : Int} {e : Int} {f : Int} {g : Int} (h0 : (a ≤ b)) (h1 : (b = (c + d))) (h2 : (d < e)) (h3 : (a = f)) (h4 : ((g + ((1 : Int) * e)) ≤ f)) (h5 : (g = c)), False) ∧
    (∀ {a : Int} {b : Int} {c : Int} {d : Int} {e : Int} {f : Int} (h0 : (a < b)) (h1 : (a = (c + d))) (h2 : ((0 : Int) ≤ d)) (h3 : (b = e)) (h4 : (e ≤ f)) (h5 : (f = c)), False) ∧
    (∀ {a : Nat} (h0 : (a ≤ (7998 : Nat))), (a ≤ (100000 : Nat))) ∧
    (∀ {a : Int} {b : Int} (h0 : (b ≤ a)) (h1 : ((0 : Int) < b)), ((0 : Int) < a)) ∧
    (∀ {a : Int} {b : Int} (h0 : (b ≤ a)) (h1 : ((0 : Int) < b)), (a ≠ (0 : Int))) :=
  ⟨(fun {a : Nat} {b : Nat} (h0 : (b ≤ (63 : Nat))) (h1 : (a ≤ b)) => lc [] [b, a] (3, var 2, num 63) [(3, var 0, num 63), (3, var 2, var 0)] [1, 1, 1] rfl h0 h1),
    (fun {a : Int} (h0 : (a = (0 : Int))) => lc [a] [] (0, num 0, var 1) [(2, var 1, num 0)] [1, -1] rfl h0),
    (fun {a : Nat} {b : Nat} (h0 : (¬(b ≤ a))) => lc [] [a, b] (3, var 0, var 2) [(4, var 0, var 2)] [1, 1] rfl (Nat.not_le.mp h0)),
    (fun {a : Nat} {b : Nat} (h0 : (b ≤ (63 : Nat))) (h1 : (a < b)) => lc [] [b, a] (3, var 2, num 63) [(3, var 0, num 63), (4, var 2, var 0)] [1, 1, 1] rfl h0 h1),
    (fun {a : Nat} {b : Nat} {c : Nat} (h0 : (c ≤ (63 : Nat))) (h1 : (a ≤ c)) => lc [] [c, a, (a - b)] (3, var 4, num 63) [(3, var 0, num 63), (3, var 2, var 0), (3, var 4, var 2)] [1, 1, 1, 1] rfl h0 h1 (Nat.sub_le a b : ((a - b) ≤ a))),
    (fun {a : Nat} => (Nat.le_total (1 : Nat) ((2 : Nat) * a)).elim (fun z0 => ln [] [a, (((2 : Nat) * a) - (1 : Nat)), (a - (1 : Nat))] (var 2) (.add (var 4) (var 0)) [(5, .add (var 2) (num 1), .mulL 2 (var 0)), (5, .add (var 4) (num 1), var 0)] [1, -1, 1] [1, 1, -1] rfl (Nat.sub_add_cancel (lc [] [a] (3, num 1, .mulL 2 (var 0)) [(3, num 1, .mulL 2 (var 0))] [1, 1] rfl z0 : ((1 : Nat) ≤ ((2 : Nat) * a))) : (((((2 : Nat) * a) - (1 : Nat)) + (1 : Nat)) = ((2 : Nat) * a))) (Nat.sub_add_cancel (lc [] [a] (3, num 1, var 0) [(3, num 1, .mulL 2 (var 0))] [2, 1] rfl z0 : ((1 : Nat) ≤ a)) : (((a - (1 : Nat)) + (1 : Nat)) = a))) (fun z0 => ln [] [a, (((2 : Nat) * a) - (1 : Nat)), (a - (1 : Nat))] (var 2) (.add (var 4) (var 0)) [(3, .mulL 2 (var 0), num 1), (5, var 2, num 0), (5, var 4, num 0)] [2, 1, -2, 2] [1, 0, 1, -1] rfl z0 (Nat.sub_eq_zero_of_le (lc [] [a] (3, .mulL 2 (var 0), num 1) [(3, .mulL 2 (var 0), num 1)] [1, 1] rfl z0 : (((2 : Nat) * a) ≤ (1 : Nat))) : ((((2 : Nat) * a) - (1 : Nat)) = (0 : Nat))) (Nat.sub_eq_zero_of_le (lc [] [a] (3, var 0, num 1) [(3, .mulL 2 (var 0), num 1)] [2, 1] rfl z0 : (a ≤ (1 : Nat))) : ((a - (1 : Nat)) = (0 : Nat))))),
    (fun {a : Int} {b : Int} (h0 : (¬(b ≤ a))) => lc [a, b] [] (0, .add (var 1) (num 1), var 3) [(1, var 1, var 3)] [1, 1] rfl (Int.not_le.mp h0)),
    (fun {a : Int} {b : Int} {c : Int} {d : Int} {e : Int} {f : Int} {g : Int} (h0 : (a ≤ b)) (h1 : (b = (c + d))) (h2 : (d < e)) (h3 : (a = f)) (h4 : ((g + ((1 : Int) * e)) ≤ f)) (h5 : (g = c)) => lc [a, b, c, d, e, f, g] [] (8, num 0, num 0) [(0, var 1, var 3), (2, var 3, .add (var 5) (var 7)), (1, var 7, var 9), (2, var 1, var 11), (0, .add (var 13) (.mulL 1 (var 9)), var 11), (2, var 13, var 5)] [0, 1, 1, 1, -1, 1, -1] rfl h0 h1 h2 h3 h4 h5),
    (fun {a : Int} {b : Int} {c : Int} {d : Int} {e : Int} {f : Int} (h0 : (a < b)) (h1 : (a = (c + d))) (h2 : ((0 : Int) ≤ d)) (h3 : (b = e)) (h4 : (e ≤ f)) (h5 : (f = c)) => lc [a, b, c, d, e, f] [] (8, num 0, num 0) [(1, var 1, var 3), (2, var 1, .add (var 5) (var 7)), (0, num 0, var 7), (2, var 3, var 9), (0, var 9, var 11), (2, var 11, var 5)] [0, 1, -1, 1, 1, 1, 1] rfl h0 h1 h2 h3 h4 h5),
    (fun {a : Nat} (h0 : (a ≤ (7998 : Nat))) => lc [] [a] (3, var 0, num 100000) [(3, var 0, num 7998)] [1, 1] rfl h0),
    (fun {a : Int} {b : Int} (h0 : (b ≤ a)) (h1 : ((0 : Int) < b)) => lc [b, a] [] (1, num 0, var 3) [(0, var 1, var 3), (1, num 0, var 1)] [1, 1, 1] rfl h0 h1),
    (fun {a : Int} {b : Int} (h0 : (b ≤ a)) (h1 : ((0 : Int) < b)) => lc [b, a] [] (6, var 3, num 0) [(0, var 1, var 3), (1, num 0, var 1)] [-1, 1, 1] rfl h0 h1)⟩
theorem omG12 : (∀ {a : Nat} (h0 : (a ≤ (7998 : Nat))), (a ≤ (9000 : Nat))) ∧
    (∀ {a : Nat} (h0 : ((4000 : Nat) < a)), ((2 : Nat) ≤ a)) ∧
    (∀ {a : Int} {b : Int} {c : Int} {d : Int} {e : Int} {f : Int} {g : Int} (h0 : (d < e)) (h1 : (e = (b + f))) (h2 : (f < c)) (h3 : (d = (a + g))) (h4 : ((0 : Int) ≤ g)), ((a - b) < (c * (1 : Int)))) ∧
    (∀ {a : Int} {b : Int} {c : Int} {d : Int} {e : Int} {f : Int} (h0 : (d = (b + e))) (h1 : (e < a)) (h2 : (¬(d < f))) (h3 : (f = c)), ((-a) < (b - c))) ∧
    (∀ {a : Int} {b : Int} (h0 : ((a - b) < (1 : Int))) (h1 : ((-(1 : Int)) < (a - b))), (a = b)) ∧
    (∀ {a : Nat} (h0 : (a ≤ (3 : Nat))), (((Nat.cast (2 : Nat) : Int) * (Nat.cast a : Int)) ≤ ((2 : Int) ^ (27 : Nat)))) ∧
    (∀ {a : Nat} {b : Nat} {c : Nat} (h0 : (b < c)) (h1 : (a = (c - b))), ((0 : Nat) < a)) ∧
    (∀ {a : Nat} {b : Nat} {c : Nat} (h0 : (b ≤ (63 : Nat))) (h1 : (a = (b - c))), (a ≤ (63 : Nat))) ∧
    (∀ {a : Int} (h0 : ((2 : Int) ≤ a)), ((0 : Int) ≤ a)) ∧
    (∀ {a : Nat} {b : Nat} {c : Nat} (h0 : (c = b)) (h1 : (a < c)), (a < b)) ∧
    (∀ {a : Nat} {b : Nat} {c : Nat} (h0 : (c = b)) (h1 : (a < c)), (a ≤ b)) ∧
    (∀ {a : Nat} (h0 : (a ≤ (192 : Nat))), (a ≤ ((2 : Nat) ^ (20 : Nat)))) :=
  ⟨(fun {a : Nat} (h0 : (a ≤ (7998 : Nat))) => lc [] [a] (3, var 0, num 9000) [(3, var 0, num 7998)] [1, 1] rfl h0),
    (fun {a : Nat} (h0 : ((4000 : Nat) < a)) => lc [] [a] (3, num 2, var 0) [(4, num 4000, var 0)] [1, 1] rfl h0),
    (fun {a : Int} {b : Int} {c : Int} {d : Int} {e : Int} {f : Int} {g : Int} (h0 : (d < e)) (h1 : (e = (b + f))) (h2 : (f < c)) (h3 : (d = (a + g))) (h4 : ((0 : Int) ≤ g)) => lc [d, e, b, f, c, a, g] [] (1, .sub (var 11) (var 5), .mulR (var 9) 1) [(1, var 1, var 3), (2, var 3, .add (var 5) (var 7)), (1, var 7, var 9), (2, var 1, .add (var 11) (var 13)), (0, num 0, var 13)] [1, 1, 1, 1, -1, 1] rfl h0 h1 h2 h3 h4),
    (fun {a : Int} {b : Int} {c : Int} {d : Int} {e : Int} {f : Int} (h0 : (d = (b + e))) (h1 : (e < a)) (h2 : (¬(d < f))) (h3 : (f = c)) => lc [d, b, e, a, f, c] [] (1, .neg (var 7), .sub (var 3) (var 11)) [(2, var 1, .add (var 3) (var 5)), (1, var 5, var 7), (0, var 9, var 1), (2, var 9, var 11)] [1, 1, 1, 1, -1] rfl h0 h1 (Int.not_lt.mp h2) h3),
    (fun {a : Int} {b : Int} (h0 : ((a - b) < (1 : Int))) (h1 : ((-(1 : Int)) < (a - b))) => lq [a, b] [] (var 1) (var 3) [(1, .sub (var 1) (var 3), num 1), (1, .neg (num 1), .sub (var 1) (var 3))] [1, 0, 1] [1, 1, 0] rfl h0 h1),
    (fun {a : Nat} (h0 : (a ≤ (3 : Nat))) => lc [] [a] (0, .mulL (Nat.cast (2 : Nat) : Int) (var 0), num ((2 : Int) ^ (27 : Nat))) [(3, var 0, num 3)] [1, 2] rfl h0),
    (fun {a : Nat} {b : Nat} {c : Nat} (h0 : (b < c)) (h1 : (a = (c - b))) => lc [] [b, c, a, (c - b)] (4, num 0, var 4) [(4, var 0, var 2), (5, var 4, var 6), (5, .add (var 6) (var 0), var 2)] [1, 1, -1, -1] rfl h0 h1 (Nat.sub_add_cancel (lc [] [b, c] (3, var 0, var 2) [(4, var 0, var 2)] [1, 1] rfl h0 : (b ≤ c)) : (((c - b) + b) = c))),
    (fun {a : Nat} {b : Nat} {c : Nat} (h0 : (b ≤ (63 : Nat))) (h1 : (a = (b - c))) => lc [] [b, a, (b - c)] (3, var 2, num 63) [(3, var 0, num 63), (5, var 2, var 4), (3, var 4, var 0)] [1, 1, 1, 1] rfl h0 h1 (Nat.sub_le b c : ((b - c) ≤ b))),
    (fun {a : Int} (h0 : ((2 : Int) ≤ a)) => lc [a] [] (0, num 0, var 1) [(0, num 2, var 1)] [1, 1] rfl h0),
    (fun {a : Nat} {b : Nat} {c : Nat} (h0 : (c = b)) (h1 : (a < c)) => lc [] [c, b, a] (4, var 4, var 2) [(5, var 0, var 2), (4, var 4, var 0)] [1, 1, 1] rfl h0 h1),
    (fun {a : Nat} {b : Nat} {c : Nat} (h0 : (c = b)) (h1 : (a < c)) => lc [] [c, b, a] (3, var 4, var 2) [(5, var 0, var 2), (4, var 4, var 0)] [1, 1, 1] rfl h0 h1),
    (fun {a : Nat} (h0 : (a ≤ (192 : Nat))) => lc [] [a] (3, var 0, num (Nat.cast ((2 : Nat) ^ (20 : Nat)))) [(3, var 0, num 192)] [1, 1] rfl h0)⟩
theorem omG13 : (∀ {a : Nat} (h0 : (a ≤ (4 : Nat))), (a ≤ ((2 : Nat) ^ (20 : Nat)))) ∧
    (∀ {a : Nat} {b : Nat} (h0 : ((Nat.cast a : Int) < (Nat.cast b : Int))), (a < b)) ∧
    (∀ {a : Nat} {b : Nat} (h0 : (¬((Nat.cast a : Int) < (Nat.cast b : Int)))), (¬(a < b))) ∧
    (∀ {a : Nat} {b : Nat} {c : Nat} (h0 : (b < a)) (h1 : (c = (a - b))), (((Nat.cast a : Int) - (Nat.cast b : Int)) = (Nat.cast c : Int))) ∧
    (∀ {a : Nat} (h0 : ((1 : Nat) ≤ a)), ((Nat.cast a : Int) ≠ (0 : Int))) ∧
    (∀ {a : Nat} {b : Nat} {c : Nat} (h0 : (c = (a - b))) (h1 : ((0 : Nat) < c)), (((Nat.cast a : Int) - (Nat.cast b : Int)) ≠ (0 : Int))) ∧
    (∀ {a : Nat} (h0 : (a ≤ ((3 : Nat) * (63 : Nat)))), ((Nat.cast a : Int) < ((2 : Int) ^ (8 : Nat)))) ∧
    (∀ {a : Int} {b : Nat} (h0 : (a = (Nat.cast b : Int))), ((0 : Int) ≤ a)) ∧
    (∀ {a : Nat} (h0 : ((1 : Nat) ≤ a)), ((0 : Nat) < a)) ∧
    (∀ {a : Nat} {b : Nat} {c : Nat} (h0 : (b ≤ (189 : Nat))) (h1 : ((a + c) = (4100 : Nat))) (h2 : (c < b)), (((a + (b * (1 : Nat))) ≤ (4289 : Nat)) ∧ ((4100 : Nat) < (a + (b * (1 : Nat)))))) ∧
    (∀ {a : Nat} {b : Nat} (h0 : (((1 : Nat) * a) ≤ b)), (a ≤ b)) ∧
    (∀ {a : Nat} {b : Nat} {c : Nat} (h0 : ((b ≤ (4289 : Nat)) ∧ ((4100 : Nat) < b))) (h1 : (a = (c + b))) (h2 : (c ≤ (189 : Nat))), (((4100 : Nat) < a) ∧ (a ≤ (4478 : Nat)))) :=
  ⟨(fun {a : Nat} (h0 : (a ≤ (4 : Nat))) => lc [] [a] (3, var 0, num (Nat.cast ((2 : Nat) ^ (20 : Nat)))) [(3, var 0, num 4)] [1, 1] rfl h0),
    (fun {a : Nat} {b : Nat} (h0 : ((Nat.cast a : Int) < (Nat.cast b : Int))) => lc [] [a, b] (4, var 0, var 2) [(1, var 0, var 2)] [1, 1] rfl h0),
    (fun {a : Nat} {b : Nat} (h0 : (¬((Nat.cast a : Int) < (Nat.cast b : Int)))) => Nat.not_lt.mpr (lc [] [b, a] (3, var 0, var 2) [(0, var 0, var 2)] [1, 1] rfl (Int.not_lt.mp h0))),
    (fun {a : Nat} {b : Nat} {c : Nat} (h0 : (b < a)) (h1 : (c = (a - b))) => lq [] [b, a, c, (a - b)] (.sub (var 2) (var 0)) (var 4) [(5, var 4, var 6), (5, .add (var 6) (var 0), var 2)] [1, 1, 1] [1, -1, -1] rfl h1 (Nat.sub_add_cancel (lc [] [b, a] (3, var 0, var 2) [(4, var 0, var 2)] [1, 1] rfl h0 : (b ≤ a)) : (((a - b) + b) = a))),
    (fun {a : Nat} (h0 : ((1 : Nat) ≤ a)) => lc [] [a] (6, var 0, num 0) [(3, num 1, var 0)] [-1, 1] rfl h0),
    (fun {a : Nat} {b : Nat} {c : Nat} (h0 : (c = (a - b))) (h1 : ((0 : Nat) < c)) => (Nat.le_total b a).elim (fun z0 => lc [] [c, (a - b), b, a] (6, .sub (var 6) (var 4), num 0) [(5, var 0, var 2), (4, num 0, var 0), (5, .add (var 2) (var 4), var 6)] [-1, 1, 1, 1] rfl h0 h1 (Nat.sub_add_cancel (lc [] [b, a] (3, var 0, var 2) [(3, var 0, var 2)] [1, 1] rfl z0 : (b ≤ a)) : (((a - b) + b) = a))) (fun z0 => lc [] [c, (a - b), a, b] (6, .sub (var 4) (var 6), num 0) [(5, var 0, var 2), (4, num 0, var 0), (5, .add (var 2) (var 6), var 4)] [-1, 1, 1, 1] rfl h0 h1 (Nat.sub_add_cancel (lc [] [c, (a - b), a, b] (3, var 6, var 4) [(5, var 0, var 2), (4, num 0, var 0), (5, var 2, num 0)] [0, 1, 1, 1] rfl h0 h1 (Nat.sub_eq_zero_of_le (lc [] [a, b] (3, var 0, var 2) [(3, var 0, var 2)] [1, 1] rfl z0 : (a ≤ b)) : ((a - b) = (0 : Nat))) : (b ≤ a)) : (((a - b) + b) = a)))),
    (fun {a : Nat} (h0 : (a ≤ ((3 : Nat) * (63 : Nat)))) => lc [] [a] (1, var 0, num ((2 : Int) ^ (8 : Nat))) [(3, var 0, .mulL 3 (num 63))] [1, 1] rfl h0),
    (fun {a : Int} {b : Nat} (h0 : (a = (Nat.cast b : Int))) => lc [a] [b] (0, num 0, var 1) [(2, var 1, var 0)] [1, -1] rfl h0),
    (fun {a : Nat} (h0 : ((1 : Nat) ≤ a)) => lc [] [a] (4, num 0, var 0) [(3, num 1, var 0)] [1, 1] rfl h0),
    (fun {a : Nat} {b : Nat} {c : Nat} (h0 : (b ≤ (189 : Nat))) (h1 : ((a + c) = (4100 : Nat))) (h2 : (c < b)) => ⟨lc [] [b, a, c] (3, .add (var 2) (.mulR (var 0) 1), num 4289) [(3, var 0, num 189), (5, .add (var 2) (var 4), num 4100)] [1, 1, 1] rfl h0 h1, lc [] [b, a, c] (4, num 4100, .add (var 2) (.mulR (var 0) 1)) [(5, .add (var 2) (var 4), num 4100), (4, var 4, var 0)] [1, -1, 1] rfl h1 h2⟩),
    (fun {a : Nat} {b : Nat} (h0 : (((1 : Nat) * a) ≤ b)) => lc [] [a, b] (3, var 0, var 2) [(3, .mulL 1 (var 0), var 2)] [1, 1] rfl h0),
    (fun {a : Nat} {b : Nat} {c : Nat} (h0 : ((b ≤ (4289 : Nat)) ∧ ((4100 : Nat) < b))) (h1 : (a = (c + b))) (h2 : (c ≤ (189 : Nat))) => ⟨lc [] [b, a, c] (4, num 4100, var 2) [(4, num 4100, var 0), (5, var 2, .add (var 4) (var 0))] [1, 1, -1] rfl h0.2 h1, lc [] [b, a, c] (3, var 2, num 4478) [(3, var 0, num 4289), (5, var 2, .add (var 4) (var 0)), (3, var 4, num 189)] [1, 1, 1, 1] rfl h0.1 h1 h2⟩)⟩
theorem omG14 : (∀ {a : Int} (h0 : ((0 : Int) < a)), (a < (a * (2 : Int)))) ∧
    (∀ {a : Nat} {b : Nat} (h0 : (b ≤ (3 : Nat))) (h1 : (a ≤ (b + (1 : Nat)))), (a ≤ (4 : Nat))) ∧
    (∀ {a : Nat} (h0 : (a ≤ (63 : Nat))), (a ≤ (63 : Nat))) ∧
    (∀ {a : Nat} {b : Nat} (h0 : (b ≤ (189 : Nat))) (h1 : (a ≤ (b + (1 : Nat)))), (a ≤ (190 : Nat))) ∧
    (∀ {a : Nat} (h0 : (a ≤ (4289 : Nat))), (a ≤ (4289 : Nat))) ∧
    (∀ {a : Nat} {b : Nat} (h0 : ((b ≤ (4289 : Nat)) ∧ ((4100 : Nat) < b))) (h1 : (a ≤ (b + (1 : Nat)))), (a ≤ ((2 : Nat) ^ (20 : Nat)))) ∧
    (∀ {a : Int} (h0 : ((2 : Int) ≤ a)), ((1 : Int) ≤ (a - (1 : Int)))) ∧
    (∀ {a : Int} {b : Int} {c : Int} (h0 : (c = (b - (1 : Int)))) (h1 : ((a * (1 : Int)) ≤ c)), (a < b)) ∧
    (∀ {a : Nat} {b : Nat} (h0 : ((b ≤ (4289 : Nat)) ∧ ((4100 : Nat) < b))) (h1 : (a ≤ b)), (a ≤ ((2 : Nat) ^ (20 : Nat)))) ∧
    (∀ {a : Int} (h0 : ((2 : Int) ≤ a)), ((0 : Int) ≤ (a - (1 : Int)))) ∧
    (∀ {a : Int}, ((a - (1 : Int)) < a)) ∧
    (∀ {a : Nat} (h0 : (a ≤ (189 : Nat))), (a ≤ (9000 : Nat))) :=
  ⟨(fun {a : Int} (h0 : ((0 : Int) < a)) => lc [a] [] (1, var 1, .mulR (var 1) 2) [(1, num 0, var 1)] [1, 1] rfl h0),
    (fun {a : Nat} {b : Nat} (h0 : (b ≤ (3 : Nat))) (h1 : (a ≤ (b + (1 : Nat)))) => lc [] [b, a] (3, var 2, num 4) [(3, var 0, num 3), (3, var 2, .add (var 0) (num 1))] [1, 1, 1] rfl h0 h1),
    (fun {a : Nat} (h0 : (a ≤ (63 : Nat))) => h0),
    (fun {a : Nat} {b : Nat} (h0 : (b ≤ (189 : Nat))) (h1 : (a ≤ (b + (1 : Nat)))) => lc [] [b, a] (3, var 2, num 190) [(3, var 0, num 189), (3, var 2, .add (var 0) (num 1))] [1, 1, 1] rfl h0 h1),
    (fun {a : Nat} (h0 : (a ≤ (4289 : Nat))) => h0),
    (fun {a : Nat} {b : Nat} (h0 : ((b ≤ (4289 : Nat)) ∧ ((4100 : Nat) < b))) (h1 : (a ≤ (b + (1 : Nat)))) => lc [] [b, a] (3, var 2, num (Nat.cast ((2 : Nat) ^ (20 : Nat)))) [(3, var 0, num 4289), (3, var 2, .add (var 0) (num 1))] [1, 1, 1] rfl h0.1 h1),
    (fun {a : Int} (h0 : ((2 : Int) ≤ a)) => lc [a] [] (0, num 1, .sub (var 1) (num 1)) [(0, num 2, var 1)] [1, 1] rfl h0),
    (fun {a : Int} {b : Int} {c : Int} (h0 : (c = (b - (1 : Int)))) (h1 : ((a * (1 : Int)) ≤ c)) => lc [c, b, a] [] (1, var 5, var 3) [(2, var 1, .sub (var 3) (num 1)), (0, .mulR (var 5) 1, var 1)] [1, 1, 1] rfl h0 h1),
    (fun {a : Nat} {b : Nat} (h0 : ((b ≤ (4289 : Nat)) ∧ ((4100 : Nat) < b))) (h1 : (a ≤ b)) => lc [] [b, a] (3, var 2, num (Nat.cast ((2 : Nat) ^ (20 : Nat)))) [(3, var 0, num 4289), (3, var 2, var 0)] [1, 1, 1] rfl h0.1 h1),
    (fun {a : Int} (h0 : ((2 : Int) ≤ a)) => lc [a] [] (0, num 0, .sub (var 1) (num 1)) [(0, num 2, var 1)] [1, 1] rfl h0),
    (fun {a : Int} => lc [a] [] (1, .sub (var 1) (num 1), var 1) [] [1] rfl),
    (fun {a : Nat} (h0 : (a ≤ (189 : Nat))) => lc [] [a] (3, var 0, num 9000) [(3, var 0, num 189)] [1, 1] rfl h0)⟩
theorem omG15 : (∀ {a : Nat} {b : Nat} (h0 : (a ≤ b)) (h1 : (((4100 : Nat) < b) ∧ (b ≤ (4478 : Nat)))), (a ≤ (4478 : Nat))) ∧
    (∀ {a : Nat} (h0 : (a ≤ (3 : Nat))), (((2 : Nat) * a) ≤ (6 : Nat))) ∧
    (∀ {a : Nat} (h0 : (a ≤ (6 : Nat))), (a ≤ ((2 : Nat) ^ (20 : Nat)))) ∧
    (∀ {a : Nat} {b : Nat} (h0 : (((4100 : Nat) < b) ∧ (b ≤ (4478 : Nat)))) (h1 : (a ≤ (b + (1 : Nat)))), (a ≤ ((2 : Nat) ^ (20 : Nat)))) ∧
    (∀ {a : Nat} (h0 : (a ≤ (3 : Nat))), (a ≤ (9000 : Nat))) ∧
    (∀ {a : Nat} (h0 : (a ≤ (3 : Nat))), (a ≤ ((2 : Nat) ^ (20 : Nat)))) ∧
    (∀ {a : Nat} {b : Nat} (h0 : (((4100 : Nat) < b) ∧ (b ≤ (4478 : Nat)))) (h1 : (a ≤ b)), (a ≤ ((2 : Nat) ^ (20 : Nat)))) ∧
    (∀ {a : Nat} {b : Nat} (h0 : (b ≤ (3 : Nat))) (h1 : (((4100 : Nat) < a) ∧ (a ≤ (4478 : Nat)))), ((0 : Int) ≤ ((Nat.cast a : Int) - (Nat.cast b : Int)))) ∧
    (∀ {a : Nat} {b : Nat} (h0 : (b ≤ (3 : Nat))) (h1 : (((4100 : Nat) < a) ∧ (a ≤ (4478 : Nat)))), ((0 : Int) ≤ ((Nat.cast a : Int) - ((2 : Int) * (Nat.cast b : Int))))) ∧
    (∀ {a : Nat} {b : Nat} (h0 : (((4100 : Nat) < a) ∧ (a ≤ (4478 : Nat)))), (((Nat.cast (3 : Nat) : Int) * ((Nat.cast a : Int) - (Nat.cast b : Int))) ≤ ((2 : Int) ^ (27 : Nat)))) ∧
    (∀ {a : Nat} {b : Nat} (h0 : (((4100 : Nat) < a) ∧ (a ≤ (4478 : Nat)))), (((Nat.cast (3 : Nat) : Int) * ((Nat.cast a : Int) - ((2 : Int) * (Nat.cast b : Int)))) ≤ ((2 : Int) ^ (27 : Nat)))) ∧
    (∀ {a : Nat} (h0 : (((4100 : Nat) < a) ∧ (a ≤ (4478 : Nat)))), (((Nat.cast (2 : Nat) : Int) * (Nat.cast a : Int)) ≤ ((2 : Int) ^ (27 : Nat)))) :=
  ⟨(fun {a : Nat} {b : Nat} (h0 : (a ≤ b)) (h1 : (((4100 : Nat) < b) ∧ (b ≤ (4478 : Nat)))) => lc [] [a, b] (3, var 0, num 4478) [(3, var 0, var 2), (3, var 2, num 4478)] [1, 1, 1] rfl h0 h1.2),
    (fun {a : Nat} (h0 : (a ≤ (3 : Nat))) => lc [] [a] (3, .mulL 2 (var 0), num 6) [(3, var 0, num 3)] [1, 2] rfl h0),
    (fun {a : Nat} (h0 : (a ≤ (6 : Nat))) => lc [] [a] (3, var 0, num (Nat.cast ((2 : Nat) ^ (20 : Nat)))) [(3, var 0, num 6)] [1, 1] rfl h0),
    (fun {a : Nat} {b : Nat} (h0 : (((4100 : Nat) < b) ∧ (b ≤ (4478 : Nat)))) (h1 : (a ≤ (b + (1 : Nat)))) => lc [] [b, a] (3, var 2, num (Nat.cast ((2 : Nat) ^ (20 : Nat)))) [(3, var 0, num 4478), (3, var 2, .add (var 0) (num 1))] [1, 1, 1] rfl h0.2 h1),
    (fun {a : Nat} (h0 : (a ≤ (3 : Nat))) => lc [] [a] (3, var 0, num 9000) [(3, var 0, num 3)] [1, 1] rfl h0),
    (fun {a : Nat} (h0 : (a ≤ (3 : Nat))) => lc [] [a] (3, var 0, num (Nat.cast ((2 : Nat) ^ (20 : Nat)))) [(3, var 0, num 3)] [1, 1] rfl h0),
    (fun {a : Nat} {b : Nat} (h0 : (((4100 : Nat) < b) ∧ (b ≤ (4478 : Nat)))) (h1 : (a ≤ b)) => lc [] [b, a] (3, var 2, num (Nat.cast ((2 : Nat) ^ (20 : Nat)))) [(3, var 0, num 4478), (3, var 2, var 0)] [1, 1, 1] rfl h0.2 h1),
    (fun {a : Nat} {b : Nat} (h0 : (b ≤ (3 : Nat))) (h1 : (((4100 : Nat) < a) ∧ (a ≤ (4478 : Nat)))) => lc [] [b, a] (0, num 0, .sub (var 2) (var 0)) [(3, var 0, num 3), (4, num 4100, var 2)] [1, 1, 1] rfl h0 h1.1),
    (fun {a : Nat} {b : Nat} (h0 : (b ≤ (3 : Nat))) (h1 : (((4100 : Nat) < a) ∧ (a ≤ (4478 : Nat)))) => lc [] [b, a] (0, num 0, .sub (var 2) (.mulL 2 (var 0))) [(3, var 0, num 3), (4, num 4100, var 2)] [1, 2, 1] rfl h0 h1.1),
    (fun {a : Nat} {b : Nat} (h0 : (((4100 : Nat) < a) ∧ (a ≤ (4478 : Nat)))) => lc [] [a, b] (0, .mulL (Nat.cast (3 : Nat) : Int) (.sub (var 0) (var 2)), num ((2 : Int) ^ (27 : Nat))) [(3, var 0, num 4478)] [1, 3] rfl h0.2),
    (fun {a : Nat} {b : Nat} (h0 : (((4100 : Nat) < a) ∧ (a ≤ (4478 : Nat)))) => lc [] [a, b] (0, .mulL (Nat.cast (3 : Nat) : Int) (.sub (var 0) (.mulL 2 (var 2))), num ((2 : Int) ^ (27 : Nat))) [(3, var 0, num 4478)] [1, 3] rfl h0.2),
    (fun {a : Nat} (h0 : (((4100 : Nat) < a) ∧ (a ≤ (4478 : Nat)))) => lc [] [a] (0, .mulL (Nat.cast (2 : Nat) : Int) (var 0), num ((2 : Int) ^ (27 : Nat))) [(3, var 0, num 4478)] [1, 2] rfl h0.2)⟩
theorem omG16 : (∀ {a : Nat} {b : Nat}, ((Int.toNat ((Nat.cast a : Int) - (Nat.cast b : Int))) = (a - b))) ∧
    (∀ {a : Nat} {b : Nat}, ((Int.toNat ((Nat.cast a : Int) - ((2 : Int) * (Nat.cast b : Int)))) = (a - ((2 : Nat) * b)))) ∧
    (((0 : Int) ≤ (3 : Int))) ∧
    (∀ {a : Nat} (h0 : (((4100 : Nat) < a) ∧ (a ≤ (4478 : Nat)))), ((4000 : Nat) ≤ a)) ∧
    (∀ {a : Int} {b : Int} (h0 : (((0 : Int) ≤ b) ∧ (b < a))), ((1 : Int) ≤ a)) ∧
    (∀ {a : Int} (h0 : ((1 : Int) ≤ a)), ((0 : Int) ≤ a)) ∧
    (∀ {a : Int} {b : Int} {c : Int} (h0 : (c < b)) (h1 : (((1 : Int) * a) ≤ c)), (a < b)) ∧
    (∀ {a : Int} (h0 : ((2 : Int) ≤ a)), ((0 : Int) < a)) ∧
    (∀ {a : Int} {b : Int} (h0 : ((0 : Int) ≤ a)) (h1 : ((0 : Int) ≤ b)), ((0 : Int) ≤ (a + b))) ∧
    (∀ {a : Int} {b : Int} (h0 : (((0 : Int) ≤ a) ∧ (a < b))), (a ≤ (b - (1 : Int)))) ∧
    (∀ {a : Int} {b : Int} (h0 : (a < b)), (a ≤ (b - (1 : Int)))) ∧
    (∀ {a : Int} {b : Int} {c : Int} {d : Int} {e : Int} {f : Int} {g : Int} {i : Int} {j : Int} {k : Int} (h0 : ((c + d) = (a + e))) (h1 : (((0 : Int) ≤ e) ∧ (e < f))) (h2 : (c ≤ (g - ((1 : Int) * i)))) (h3 : (d ≤ j)) (h4 : (k = (i - (1 : Int)))) (h5 : (k = j)) (h6 : (g = b)), (a < b)) :=
  ⟨(fun {a : Nat} {b : Nat} => Int.toNat_sub a b),
    (fun {a : Nat} {b : Nat} => Int.toNat_sub a (2 * b)),
    (by decide),
    (fun {a : Nat} (h0 : (((4100 : Nat) < a) ∧ (a ≤ (4478 : Nat)))) => lc [] [a] (3, num 4000, var 0) [(4, num 4100, var 0)] [1, 1] rfl h0.1),
    (fun {a : Int} {b : Int} (h0 : (((0 : Int) ≤ b) ∧ (b < a))) => lc [b, a] [] (0, num 1, var 3) [(0, num 0, var 1), (1, var 1, var 3)] [1, 1, 1] rfl h0.1 h0.2),
    (fun {a : Int} (h0 : ((1 : Int) ≤ a)) => lc [a] [] (0, num 0, var 1) [(0, num 1, var 1)] [1, 1] rfl h0),
    (fun {a : Int} {b : Int} {c : Int} (h0 : (c < b)) (h1 : (((1 : Int) * a) ≤ c)) => lc [c, b, a] [] (1, var 5, var 3) [(1, var 1, var 3), (0, .mulL 1 (var 5), var 1)] [1, 1, 1] rfl h0 h1),
    (fun {a : Int} (h0 : ((2 : Int) ≤ a)) => lc [a] [] (1, num 0, var 1) [(0, num 2, var 1)] [1, 1] rfl h0),
    (fun {a : Int} {b : Int} (h0 : ((0 : Int) ≤ a)) (h1 : ((0 : Int) ≤ b)) => lc [a, b] [] (0, num 0, .add (var 1) (var 3)) [(0, num 0, var 1), (0, num 0, var 3)] [1, 1, 1] rfl h0 h1),
    (fun {a : Int} {b : Int} (h0 : (((0 : Int) ≤ a) ∧ (a < b))) => lc [a, b] [] (0, var 1, .sub (var 3) (num 1)) [(1, var 1, var 3)] [1, 1] rfl h0.2),
    (fun {a : Int} {b : Int} (h0 : (a < b)) => lc [a, b] [] (0, var 1, .sub (var 3) (num 1)) [(1, var 1, var 3)] [1, 1] rfl h0),
    (fun {a : Int} {b : Int} {c : Int} {d : Int} {e : Int} {f : Int} {g : Int} {i : Int} {j : Int} {k : Int} (h0 : ((c + d) = (a + e))) (h1 : (((0 : Int) ≤ e) ∧ (e < f))) (h2 : (c ≤ (g - ((1 : Int) * i)))) (h3 : (d ≤ j)) (h4 : (k = (i - (1 : Int)))) (h5 : (k = j)) (h6 : (g = b)) => lc [c, d, a, e, g, i, j, k, b] [] (1, var 5, var 17) [(2, .add (var 1) (var 3), .add (var 5) (var 7)), (0, num 0, var 7), (0, var 1, .sub (var 9) (.mulL 1 (var 11))), (0, var 3, var 13), (2, var 15, .sub (var 11) (num 1)), (2, var 15, var 13), (2, var 9, var 17)] [1, -1, 1, 1, 1, 1, -1, 1] rfl h0 h1.1 h2 h3 h4 h5 h6)⟩
theorem omG17 : (∀ {a : Int} {b : Int} (h0 : (((0 : Int) ≤ b) ∧ (b < a))), ((0 : Int) ≤ a)) ∧
    (∀ {a : Nat} {b : Nat} (h0 : (((4100 : Nat) < b) ∧ (b ≤ (4478 : Nat)))) (h1 : (a ≤ ((2 : Nat) * b))), (a ≤ ((2 : Nat) ^ (20 : Nat)))) ∧
    (∀ {a : Nat} {b : Nat} (h0 : (((4100 : Nat) < b) ∧ (b ≤ (4478 : Nat)))) (h1 : (a ≤ ((b + (6 : Nat)) + (1 : Nat)))), (a ≤ ((2 : Nat) ^ (20 : Nat)))) ∧
    (∀ {a : Int} {b : Int} (h0 : (a < b)), (a ≤ b)) ∧
    (∀ {a : Int} (h0 : (a < ((2 : Int) ^ (6 : Nat)))), (a ≤ ((2 : Int) ^ (6 : Nat)))) ∧
    (∀ {a : Int} {b : Int} {c : Int} {d : Int} {e : Int} (h0 : (d < ((2 : Int) ^ (6 : Nat)))) (h1 : ((0 : Int) ≤ e)) (h2 : (e < c)) (h3 : (((0 : Int) ≤ b) ∧ (b < d))) (h4 : (a ≤ (c * ((2 : Int) ^ (6 : Nat))))), ((a + b) < ((c * ((2 : Int) ^ (6 : Nat))) * (2 : Int)))) ∧
    (∀ {a : Nat} (h0 : (((4100 : Nat) < a) ∧ (a ≤ (4478 : Nat)))), ((a + (1 : Nat)) ≤ (9000 : Nat))) ∧
    (∀ {a : Int} (h0 : ((1 : Int) ≤ a)), ((0 : Int) < a)) ∧
    (∀ {a : Int} {b : Int} (h0 : (b < a)) (h1 : ((0 : Int) ≤ b)), ((0 : Int) ≤ a)) ∧
    (∀ {a : Int} {b : Int} {c : Int} {d : Int} {e : Int} {f : Int} {g : Int} (h0 : (c = (a + d))) (h1 : ((0 : Int) ≤ d)) (h2 : (c = (e + f))) (h3 : (f < g)) (h4 : ((e + ((1 : Int) * g)) ≤ b)), (a < b)) ∧
    (∀ {a : Int} {b : Int} {c : Int} (h0 : (a = (b + c))) (h1 : ((0 : Int) ≤ c)) (h2 : ((0 : Int) ≤ b)), ((0 : Int) ≤ a)) ∧
    (∀ {a : Int} {b : Int} {c : Int} {d : Int} (h0 : (a = (d + c))) (h1 : (b = d)), (a = (b + c))) :=
  ⟨(fun {a : Int} {b : Int} (h0 : (((0 : Int) ≤ b) ∧ (b < a))) => lc [b, a] [] (0, num 0, var 3) [(0, num 0, var 1), (1, var 1, var 3)] [1, 1, 1] rfl h0.1 h0.2),
    (fun {a : Nat} {b : Nat} (h0 : (((4100 : Nat) < b) ∧ (b ≤ (4478 : Nat)))) (h1 : (a ≤ ((2 : Nat) * b))) => lc [] [b, a] (3, var 2, num (Nat.cast ((2 : Nat) ^ (20 : Nat)))) [(3, var 0, num 4478), (3, var 2, .mulL 2 (var 0))] [1, 2, 1] rfl h0.2 h1),
    (fun {a : Nat} {b : Nat} (h0 : (((4100 : Nat) < b) ∧ (b ≤ (4478 : Nat)))) (h1 : (a ≤ ((b + (6 : Nat)) + (1 : Nat)))) => lc [] [b, a] (3, var 2, num (Nat.cast ((2 : Nat) ^ (20 : Nat)))) [(3, var 0, num 4478), (3, var 2, .add (.add (var 0) (num 6)) (num 1))] [1, 1, 1] rfl h0.2 h1),
    (fun {a : Int} {b : Int} (h0 : (a < b)) => lc [a, b] [] (0, var 1, var 3) [(1, var 1, var 3)] [1, 1] rfl h0),
    (fun {a : Int} (h0 : (a < ((2 : Int) ^ (6 : Nat)))) => lc [a] [] (0, var 1, num ((2 : Int) ^ (6 : Nat))) [(1, var 1, num ((2 : Int) ^ (6 : Nat)))] [1, 1] rfl h0),
    (fun {a : Int} {b : Int} {c : Int} {d : Int} {e : Int} (h0 : (d < ((2 : Int) ^ (6 : Nat)))) (h1 : ((0 : Int) ≤ e)) (h2 : (e < c)) (h3 : (((0 : Int) ≤ b) ∧ (b < d))) (h4 : (a ≤ (c * ((2 : Int) ^ (6 : Nat))))) => lc [d, e, c, b, a] [] (1, .add (var 9) (var 7), .mulR (.mulR (var 5) ((2 : Int) ^ (6 : Nat))) 2) [(1, var 1, num ((2 : Int) ^ (6 : Nat))), (0, num 0, var 3), (1, var 3, var 5), (1, var 7, var 1), (0, var 9, .mulR (var 5) ((2 : Int) ^ (6 : Nat)))] [1, 1, 64, 64, 1, 1] rfl h0 h1 h2 h3.2 h4),
    (fun {a : Nat} (h0 : (((4100 : Nat) < a) ∧ (a ≤ (4478 : Nat)))) => lc [] [a] (3, .add (var 0) (num 1), num 9000) [(3, var 0, num 4478)] [1, 1] rfl h0.2),
    (fun {a : Int} (h0 : ((1 : Int) ≤ a)) => lc [a] [] (1, num 0, var 1) [(0, num 1, var 1)] [1, 1] rfl h0),
    (fun {a : Int} {b : Int} (h0 : (b < a)) (h1 : ((0 : Int) ≤ b)) => lc [b, a] [] (0, num 0, var 3) [(1, var 1, var 3), (0, num 0, var 1)] [1, 1, 1] rfl h0 h1),
    (fun {a : Int} {b : Int} {c : Int} {d : Int} {e : Int} {f : Int} {g : Int} (h0 : (c = (a + d))) (h1 : ((0 : Int) ≤ d)) (h2 : (c = (e + f))) (h3 : (f < g)) (h4 : ((e + ((1 : Int) * g)) ≤ b)) => lc [c, a, d, e, f, g, b] [] (1, var 3, var 13) [(2, var 1, .add (var 3) (var 5)), (0, num 0, var 5), (2, var 1, .add (var 7) (var 9)), (1, var 9, var 11), (0, .add (var 7) (.mulL 1 (var 11)), var 13)] [1, -1, 1, 1, 1, 1] rfl h0 h1 h2 h3 h4),
    (fun {a : Int} {b : Int} {c : Int} (h0 : (a = (b + c))) (h1 : ((0 : Int) ≤ c)) (h2 : ((0 : Int) ≤ b)) => lc [a, b, c] [] (0, num 0, var 1) [(2, var 1, .add (var 3) (var 5)), (0, num 0, var 5), (0, num 0, var 3)] [1, -1, 1, 1] rfl h0 h1 h2),
    (fun {a : Int} {b : Int} {c : Int} {d : Int} (h0 : (a = (d + c))) (h1 : (b = d)) => lq [a, d, c, b] [] (var 1) (.add (var 7) (var 5)) [(2, var 1, .add (var 3) (var 5)), (2, var 7, var 3)] [1, -1, 1] [1, 1, -1] rfl h0 h1)⟩
theorem omG18 : (∀ {a : Nat} (h0 : (((4100 : Nat) < a) ∧ (a ≤ (4478 : Nat)))), ((4000 : Nat) < a)) ∧
    (∀ {a : Nat} (h0 : (((4100 : Nat) < a) ∧ (a ≤ (4478 : Nat)))), (a ≤ (7998 : Nat))) ∧
    (∀ {a : Nat}, ((a + (4 : Nat)) ≤ (a + (5 : Nat)))) ∧
    (∀ {a : Nat} {b : Nat} {c : Nat} (h0 : (((a + ((10 : Nat) * (c + (6 : Nat)))) + (40 : Nat)) < b)), (((a + (3 : Nat)) + (64 : Nat)) < b)) ∧
    (∀ {a : Nat} {b : Nat} {c : Nat} (h0 : (a < b)), (((a < b) → (c ≤ a)) → (c ≤ a))) ∧
    (∀ {a : Nat} {b : Nat} {c : Nat} (h0 : (a ≤ c)), ((min a b) ≤ c)) ∧
    (∀ {a : Nat} {b : Nat}, ((min a b) ≤ a)) ∧
    (∀ {a : Nat} {b : Nat} (h0 : (a = b)), (a ≤ b)) ∧
    (∀ {a : Nat} {b : Nat} {c : Nat} (h0 : (a ≤ c)) (h1 : (c = b)), (a ≤ b)) ∧
    (∀ {a : Nat} (h0 : ((0 : Nat) < a)), ((0 : Nat) < (a - (0 : Nat)))) ∧
    (∀ {a : Nat}, (((0 : Nat) + (a - (0 : Nat))) = a)) ∧
    (∀ {a : Nat} {b : Nat} {c : Nat} (h0 : ((c + (b + (1 : Nat))) = a)), ((a - (b + (1 : Nat))) = (c + (0 : Nat)))) :=
  ⟨(fun {a : Nat} (h0 : (((4100 : Nat) < a) ∧ (a ≤ (4478 : Nat)))) => lc [] [a] (4, num 4000, var 0) [(4, num 4100, var 0)] [1, 1] rfl h0.1),
    (fun {a : Nat} (h0 : (((4100 : Nat) < a) ∧ (a ≤ (4478 : Nat)))) => lc [] [a] (3, var 0, num 7998) [(3, var 0, num 4478)] [1, 1] rfl h0.2),
    (fun {a : Nat} => lc [] [a] (3, .add (var 0) (num 4), .add (var 0) (num 5)) [] [1] rfl),
    (fun {a : Nat} {b : Nat} {c : Nat} (h0 : (((a + ((10 : Nat) * (c + (6 : Nat)))) + (40 : Nat)) < b)) => lc [] [a, c, b] (4, .add (.add (var 0) (num 3)) (num 64), var 4) [(4, .add (.add (var 0) (.mulL 10 (.add (var 2) (num 6)))) (num 40), var 4)] [1, 1] rfl h0),
    (fun {a : Nat} {b : Nat} {c : Nat} (h0 : (a < b)) => fun q => q h0),
    (fun {a : Nat} {b : Nat} {c : Nat} (h0 : (a ≤ c)) => lc [] [a, c, (min a b)] (3, var 4, var 2) [(3, var 0, var 2), (3, var 4, var 0)] [1, 1, 1] rfl h0 (Nat.min_le_left a b : ((min a b) ≤ a))),
    (fun {a : Nat} {b : Nat} => lc [] [(min a b), a] (3, var 0, var 2) [(3, var 0, var 2)] [1, 1] rfl (Nat.min_le_left a b : ((min a b) ≤ a))),
    (fun {a : Nat} {b : Nat} (h0 : (a = b)) => lc [] [a, b] (3, var 0, var 2) [(5, var 0, var 2)] [1, 1] rfl h0),
    (fun {a : Nat} {b : Nat} {c : Nat} (h0 : (a ≤ c)) (h1 : (c = b)) => lc [] [a, c, b] (3, var 0, var 4) [(3, var 0, var 2), (5, var 2, var 4)] [1, 1, 1] rfl h0 h1),
    (fun {a : Nat} (h0 : ((0 : Nat) < a)) => lc [] [a, (a - (0 : Nat))] (4, num 0, var 2) [(4, num 0, var 0), (5, .add (var 2) (num 0), var 0)] [1, 1, -1] rfl h0 (Nat.sub_add_cancel (lc [] [a] (3, num 0, var 0) [(4, num 0, var 0)] [1, 1] rfl h0 : ((0 : Nat) ≤ a)) : (((a - (0 : Nat)) + (0 : Nat)) = a))),
    (fun {a : Nat} => ln [] [(a - (0 : Nat)), a] (.add (num 0) (var 0)) (var 2) [(5, .add (var 0) (num 0), var 2)] [1, -1] [1, 1] rfl (Nat.sub_add_cancel (lc [] [a] (3, num 0, var 0) [] [1] rfl : ((0 : Nat) ≤ a)) : (((a - (0 : Nat)) + (0 : Nat)) = a))),
    (fun {a : Nat} {b : Nat} {c : Nat} (h0 : ((c + (b + (1 : Nat))) = a)) => ln [] [c, b, a, (a - (b + (1 : Nat)))] (var 6) (.add (var 0) (num 0)) [(5, .add (var 0) (.add (var 2) (num 1)), var 4), (5, .add (var 6) (.add (var 2) (num 1)), var 4)] [1, 1, -1] [1, -1, 1] rfl h0 (Nat.sub_add_cancel (lc [] [c, b, a] (3, .add (var 2) (num 1), var 4) [(5, .add (var 0) (.add (var 2) (num 1)), var 4)] [1, 1] rfl h0 : ((b + (1 : Nat)) ≤ a)) : (((a - (b + (1 : Nat))) + (b + (1 : Nat))) = a)))⟩
theorem omG19 : (∀ {a : Nat}, ((0 : Nat) < (a + (1 : Nat)))) ∧
    (∀ {a : Nat} {b : Nat} {c : Nat} (h0 : ((b + (a + (1 : Nat))) = c)), (((a + (1 : Nat)) + b) ≤ c)) ∧
    (∀ {a : Nat} {b : Nat} {c : Nat} (h0 : (((a + (1 : Nat)) + b) ≤ c)), ((a + b) ≤ c)) ∧
    (∀ {a : Nat} {b : Nat} {c : Nat} (h0 : (((b + (1 : Nat)) + c) ≤ a)), (((a - (1 : Nat)) - b) = (c + (((a - (1 : Nat)) - b) - c)))) ∧
    (∀ {a : Nat} {b : Nat} {c : Nat} (h0 : ((c + (b + (1 : Nat))) = a)), (((a - (1 : Nat)) - b) = (c + (0 : Nat)))) ∧
    (∀ {a : Nat} {b : Nat} {c : Nat} (h0 : ((a + (b + (1 : Nat))) = c)), (((a + (1 : Nat)) + b) = c)) ∧
    (∀ {a : Nat} {b : Nat}, (((a + (1 : Nat)) + b) = (a + (b + (1 : Nat))))) ∧
    (∀ {a : Nat} {b : Nat} (h0 : (b < a)), (((a - (1 : Nat)) - ((a - b) - (1 : Nat))) = b)) ∧
    (∀ {a : Nat} {b : Nat} (h0 : ((b + (1 : Nat)) < a)), ((0 : Nat) < ((a - b) - (1 : Nat)))) ∧
    (∀ {a : Nat} {b : Nat} (h0 : ((b + (1 : Nat)) < a)), ((a - b) = ((a - (b + (1 : Nat))) + (1 : Nat)))) ∧
    (∀ {a : Nat} {b : Nat} (h0 : (b < a)), ((a - (a - b)) = b)) ∧
    (∀ {a : Nat} {b : Nat} (h0 : ((a + (1 : Nat)) < (b + (1 : Nat)))), (a < b)) :=
  ⟨(fun {a : Nat} => lc [] [a] (4, num 0, .add (var 0) (num 1)) [] [1] rfl),
    (fun {a : Nat} {b : Nat} {c : Nat} (h0 : ((b + (a + (1 : Nat))) = c)) => lc [] [b, a, c] (3, .add (.add (var 2) (num 1)) (var 0), var 4) [(5, .add (var 0) (.add (var 2) (num 1)), var 4)] [1, 1] rfl h0),
    (fun {a : Nat} {b : Nat} {c : Nat} (h0 : (((a + (1 : Nat)) + b) ≤ c)) => lc [] [a, b, c] (3, .add (var 0) (var 2), var 4) [(3, .add (.add (var 0) (num 1)) (var 2), var 4)] [1, 1] rfl h0),
    (fun {a : Nat} {b : Nat} {c : Nat} (h0 : (((b + (1 : Nat)) + c) ≤ a)) => ln [] [c, ((a - (1 : Nat)) - b), (((a - (1 : Nat)) - b) - c)] (var 2) (.add (var 0) (var 4)) [(5, .add (var 4) (var 0), var 2)] [1, 1] [1, -1] rfl (Nat.sub_add_cancel (lc [] [b, c, a, (a - (1 : Nat)), ((a - (1 : Nat)) - b)] (3, var 2, var 8) [(3, .add (.add (var 0) (num 1)) (var 2), var 4), (5, .add (var 6) (num 1), var 4), (3, var 6, .add (var 8) (var 0))] [1, 1, -1, 1] rfl h0 (Nat.sub_add_cancel (lc [] [b, c, a] (3, num 1, var 4) [(3, .add (.add (var 0) (num 1)) (var 2), var 4)] [1, 1] rfl h0 : ((1 : Nat) ≤ a)) : (((a - (1 : Nat)) + (1 : Nat)) = a)) (Nat.le_add_of_sub_le (Nat.le_refl ((a - (1 : Nat)) - b)) : ((a - (1 : Nat)) ≤ (((a - (1 : Nat)) - b) + b))) : (c ≤ ((a - (1 : Nat)) - b))) : (((((a - (1 : Nat)) - b) - c) + c) = ((a - (1 : Nat)) - b)))),
    (fun {a : Nat} {b : Nat} {c : Nat} (h0 : ((c + (b + (1 : Nat))) = a)) => ln [] [c, b, a, (a - (1 : Nat)), ((a - (1 : Nat)) - b)] (var 8) (.add (var 0) (num 0)) [(5, .add (var 0) (.add (var 2) (num 1)), var 4), (5, .add (var 6) (num 1), var 4), (5, .add (var 8) (var 2), var 6)] [1, 1, -1, -1] [1, -1, 1, 1] rfl h0 (Nat.sub_add_cancel (lc [] [c, b, a] (3, num 1, var 4) [(5, .add (var 0) (.add (var 2) (num 1)), var 4)] [1, 1] rfl h0 : ((1 : Nat) ≤ a)) : (((a - (1 : Nat)) + (1 : Nat)) = a)) (Nat.sub_add_cancel (lc [] [c, b, a, (a - (1 : Nat))] (3, var 2, var 6) [(5, .add (var 0) (.add (var 2) (num 1)), var 4), (5, .add (var 6) (num 1), var 4)] [1, 1, -1] rfl h0 (Nat.sub_add_cancel (lc [] [c, b, a] (3, num 1, var 4) [(5, .add (var 0) (.add (var 2) (num 1)), var 4)] [1, 1] rfl h0 : ((1 : Nat) ≤ a)) : (((a - (1 : Nat)) + (1 : Nat)) = a)) : (b ≤ (a - (1 : Nat)))) : ((((a - (1 : Nat)) - b) + b) = (a - (1 : Nat))))),
    (fun {a : Nat} {b : Nat} {c : Nat} (h0 : ((a + (b + (1 : Nat))) = c)) => ln [] [a, b, c] (.add (.add (var 0) (num 1)) (var 2)) (var 4) [(5, .add (var 0) (.add (var 2) (num 1)), var 4)] [1, -1] [1, 1] rfl h0),
    (fun {a : Nat} {b : Nat} => ln [] [a, b] (.add (.add (var 0) (num 1)) (var 2)) (.add (var 0) (.add (var 2) (num 1))) [] [1] [1] rfl),
    (fun {a : Nat} {b : Nat} (h0 : (b < a)) => (congrArg (fun x => a - 1 - x) (Nat.sub_right_comm a b 1)).trans (Nat.sub_sub_self (Nat.le_sub_one_of_lt h0))),
    (fun {a : Nat} {b : Nat} (h0 : ((b + (1 : Nat)) < a)) => lc [] [b, a, (a - b), ((a - b) - (1 : Nat))] (4, num 0, var 6) [(4, .add (var 0) (num 1), var 2), (5, .add (var 4) (var 0), var 2), (5, .add (var 6) (num 1), var 4)] [1, 1, -1, -1] rfl h0 (Nat.sub_add_cancel (lc [] [b, a] (3, var 0, var 2) [(4, .add (var 0) (num 1), var 2)] [1, 1] rfl h0 : (b ≤ a)) : (((a - b) + b) = a)) (Nat.sub_add_cancel (lc [] [b, a, (a - b)] (3, num 1, var 4) [(4, .add (var 0) (num 1), var 2), (5, .add (var 4) (var 0), var 2)] [1, 1, -1] rfl h0 (Nat.sub_add_cancel (lc [] [b, a] (3, var 0, var 2) [(4, .add (var 0) (num 1), var 2)] [1, 1] rfl h0 : (b ≤ a)) : (((a - b) + b) = a)) : ((1 : Nat) ≤ (a - b))) : ((((a - b) - (1 : Nat)) + (1 : Nat)) = (a - b)))),
    (fun {a : Nat} {b : Nat} (h0 : ((b + (1 : Nat)) < a)) => ln [] [b, a, (a - b), (a - (b + (1 : Nat)))] (var 4) (.add (var 6) (num 1)) [(5, .add (var 4) (var 0), var 2), (5, .add (var 6) (.add (var 0) (num 1)), var 2)] [1, -1, 1] [1, 1, -1] rfl (Nat.sub_add_cancel (lc [] [b, a] (3, var 0, var 2) [(4, .add (var 0) (num 1), var 2)] [1, 1] rfl h0 : (b ≤ a)) : (((a - b) + b) = a)) (Nat.sub_add_cancel (lc [] [b, a] (3, .add (var 0) (num 1), var 2) [(4, .add (var 0) (num 1), var 2)] [1, 1] rfl h0 : ((b + (1 : Nat)) ≤ a)) : (((a - (b + (1 : Nat))) + (b + (1 : Nat))) = a))),
    (fun {a : Nat} {b : Nat} (h0 : (b < a)) => ln [] [b, a, (a - b), (a - (a - b))] (var 6) (var 0) [(5, .add (var 4) (var 0), var 2), (5, .add (var 6) (var 4), var 2)] [1, 1, -1] [1, -1, 1] rfl (Nat.sub_add_cancel (lc [] [b, a] (3, var 0, var 2) [(4, var 0, var 2)] [1, 1] rfl h0 : (b ≤ a)) : (((a - b) + b) = a)) (Nat.sub_add_cancel (lc [] [b, a, (a - b)] (3, var 4, var 2) [(5, .add (var 4) (var 0), var 2)] [1, 1] rfl (Nat.sub_add_cancel (lc [] [b, a] (3, var 0, var 2) [(4, var 0, var 2)] [1, 1] rfl h0 : (b ≤ a)) : (((a - b) + b) = a)) : ((a - b) ≤ a)) : (((a - (a - b)) + (a - b)) = a))),
    (fun {a : Nat} {b : Nat} (h0 : ((a + (1 : Nat)) < (b + (1 : Nat)))) => lc [] [a, b] (4, var 0, var 2) [(4, .add (var 0) (num 1), .add (var 2) (num 1))] [1, 1] rfl h0)⟩
theorem omG20 : (∀ {a : Nat} {b : Nat}, (((a + (1 : Nat)) + b) = ((a + b) + (1 : Nat)))) ∧
    (∀ {a : Int} {b : Int} (h0 : ((0 : Int) ≤ b)) (h1 : (b < a)), (a ≠ (0 : Int))) ∧
    (∀ {a : Int} (h0 : (a ≤ (8 : Int))), (a ≠ (127 : Int))) ∧
    (∀ {a : Int} (h0 : ((0 : Int) ≤ a)), ((a + (1 : Int)) ≠ (0 : Int))) ∧
    (∀ {a : Int} {b : Int} (h0 : (a < b)) (h1 : (b ≤ (8 : Int))), ((a + (1 : Int)) ≠ (127 : Int))) ∧
    (∀ {a : Nat} {b : Nat} (h0 : ((a + (1 : Nat)) ≤ b)), (a < b)) ∧
    (((1 : Int) < (2 : Int))) ∧
    (∀ {a : Int}, (((126 : Int) + ((2 : Int) * a)) ≠ (127 : Int))) ∧
    (∀ {a : Int} (h0 : ((0 : Int) ≤ a)), (((126 : Int) + ((2 : Int) * a)) ≠ (0 : Int))) ∧
    (∀ {a : Int} {b : Int} {c : Int} {d : Int} (h0 : ((0 : Int) ≤ b)) (h1 : (a ≤ (63 : Int))) (h2 : ((0 : Int) ≤ d)) (h3 : ((0 : Int) ≤ c)), (a ≤ ((b + c) + ((126 : Int) + ((2 : Int) * d))))) ∧
    (((2 : Int) ≤ (2 : Int))) ∧
    (((2 : Int) ≤ (3 : Int))) :=
  ⟨(fun {a : Nat} {b : Nat} => ln [] [a, b] (.add (.add (var 0) (num 1)) (var 2)) (.add (.add (var 0) (var 2)) (num 1)) [] [1] [1] rfl),
    (fun {a : Int} {b : Int} (h0 : ((0 : Int) ≤ b)) (h1 : (b < a)) => lc [b, a] [] (6, var 3, num 0) [(0, num 0, var 1), (1, var 1, var 3)] [-1, 1, 1] rfl h0 h1),
    (fun {a : Int} (h0 : (a ≤ (8 : Int))) => lc [a] [] (6, var 1, num 127) [(0, var 1, num 8)] [1, 1] rfl h0),
    (fun {a : Int} (h0 : ((0 : Int) ≤ a)) => lc [a] [] (6, .add (var 1) (num 1), num 0) [(0, num 0, var 1)] [-1, 1] rfl h0),
    (fun {a : Int} {b : Int} (h0 : (a < b)) (h1 : (b ≤ (8 : Int))) => lc [a, b] [] (6, .add (var 1) (num 1), num 127) [(1, var 1, var 3), (0, var 3, num 8)] [1, 1, 1] rfl h0 h1),
    (fun {a : Nat} {b : Nat} (h0 : ((a + (1 : Nat)) ≤ b)) => lc [] [a, b] (4, var 0, var 2) [(3, .add (var 0) (num 1), var 2)] [1, 1] rfl h0),
    (by decide),
    (fun {a : Int} => by first | lia | omega),
    (fun {a : Int} (h0 : ((0 : Int) ≤ a)) => lc [a] [] (6, .add (num 126) (.mulL 2 (var 1)), num 0) [(0, num 0, var 1)] [-1, 2] rfl h0),
    (fun {a : Int} {b : Int} {c : Int} {d : Int} (h0 : ((0 : Int) ≤ b)) (h1 : (a ≤ (63 : Int))) (h2 : ((0 : Int) ≤ d)) (h3 : ((0 : Int) ≤ c)) => lc [b, a, d, c] [] (0, var 3, .add (.add (var 1) (var 7)) (.add (num 126) (.mulL 2 (var 5)))) [(0, num 0, var 1), (0, var 3, num 63), (0, num 0, var 5), (0, num 0, var 7)] [1, 1, 1, 2, 1] rfl h0 h1 h2 h3),
    (by decide),
    (by decide)⟩
theorem omG21 : (∀ {a : Int} {b : Int} {c : Int} {d : Int} {e : Int} (h0 : ((0 : Int) ≤ b)) (h1 : (c ≤ (63 : Int))) (h2 : (((c - (1 : Int)) - b) = (d + e))) (h3 : ((0 : Int) ≤ e)) (h4 : (((2 : Int) * a) ≤ d)), (a ≤ (31 : Int))) ∧
    (∀ {a : Int} {b : Nat} (h0 : (a = (Nat.cast b : Int))), ((Int.toNat a) = b)) ∧
    (∀ {a : Int} (h0 : ((0 : Int) ≤ a)) (h1 : (a < (4 : Int))), ((a = (0 : Int)) ∨ ((a = (1 : Int)) ∨ ((a = (2 : Int)) ∨ (a = (3 : Int)))))) ∧
    (∀ {a : Int} (h0 : ((2 : Int) ≤ a)) (h1 : (a ≤ (8 : Int))), ((Int.natAbs a) < (1073741824 : Nat))) ∧
    (∀ {a : Int} (h0 : ((2 : Int) ≤ a)), (a ≠ (0 : Int))) ∧
    (∀ {a : Int} (h0 : ((0 : Int) ≤ a)), ((-((2 : Int) ^ (63 : Nat))) ≤ a)) ∧
    (∀ {a : Int} (h0 : (a < (2 : Int))), (a < ((2 : Int) ^ (63 : Nat)))) ∧
    (∀ {a : Int} (h0 : (a < (2 : Int))), (a ≤ (Nat.cast (1048576 : Nat) : Int))) ∧
    (∀ {a : Nat} {b : Nat} {c : Nat} {d : Nat} {e : Nat} (h0 : ((b < a) ∧ ((c < a) ∧ ((d < a) ∧ (e < a))))), (a ≠ b)) ∧
    (∀ {a : Int} {b : Int} {c : Int} {d : Int} {e : Int} {f : Int} (h0 : (e < d)) (h1 : (((a - (1 : Int)) - b) = (f + e))) (h2 : (f = c)), (a ≤ ((b + c) + d))) ∧
    (∀ {a : Nat} {b : Nat} {c : Nat} {d : Nat} {e : Nat} {f : Nat} {g : Nat} {i : Nat} {j : Nat} {k : Nat} {l : Nat} (h0 : ((b < a) ∧ ((c < a) ∧ ((d < a) ∧ ((e < a) ∧ ((f < a) ∧ ((g < a) ∧ ((i < a) ∧ ((j < a) ∧ ((k < a) ∧ (l < a))))))))))), (a ≠ b)) ∧
    (∀ {a : Nat} {b : Nat} {c : Nat} {d : Nat} {e : Nat} {f : Nat} {g : Nat} {i : Nat} {j : Nat} (h0 : ((b < a) ∧ ((c < a) ∧ ((d < a) ∧ ((e < a) ∧ ((f < a) ∧ ((g < a) ∧ ((i < a) ∧ (j < a))))))))), (a ≠ b)) :=
  ⟨(fun {a : Int} {b : Int} {c : Int} {d : Int} {e : Int} (h0 : ((0 : Int) ≤ b)) (h1 : (c ≤ (63 : Int))) (h2 : (((c - (1 : Int)) - b) = (d + e))) (h3 : ((0 : Int) ≤ e)) (h4 : (((2 : Int) * a) ≤ d)) => lc [b, c, d, e, a] [] (0, var 9, num 31) [(0, num 0, var 1), (0, var 3, num 63), (2, .sub (.sub (var 3) (num 1)) (var 1), .add (var 5) (var 7)), (0, num 0, var 7), (0, .mulL 2 (var 9), var 5)] [2, 1, 1, -1, 1, 1] rfl h0 h1 h2 h3 h4),
    (fun {a : Int} {b : Nat} (h0 : (a = (Nat.cast b : Int))) => ln [a] [b, (Int.toNat a)] (var 2) (var 0) [(2, var 1, var 0), (2, var 2, var 1)] [1, -1, -1] [1, 1, 1] rfl h0 (Int.toNat_of_nonneg (lc [a] [b] (0, num 0, var 1) [(2, var 1, var 0)] [1, -1] rfl h0 : ((0 : Int) ≤ a)) : ((Nat.cast (Int.toNat a) : Int) = a))),
    (fun {a : Int} (h0 : ((0 : Int) ≤ a)) (h1 : (a < (4 : Int))) => (Decidable.em (a = (0 : Int))).elim Or.inl fun q0 => Or.inr ((Decidable.em (a = (1 : Int))).elim Or.inl fun q1 => Or.inr ((Decidable.em (a = (2 : Int))).elim Or.inl fun q2 => Or.inr ((Int.lt_or_gt_of_ne q0).elim (fun q3 => lq [a] [] (var 1) (num 3) [(0, num 0, var 1), (1, var 1, num 4), (1, var 1, num 0)] [0, 1, 0, 1] [1, 0, 1, 0] rfl h0 h1 q3) (fun q3 => (Int.lt_or_gt_of_ne q1).elim (fun q4 => lq [a] [] (var 1) (num 3) [(1, var 1, num 4), (1, num 0, var 1), (1, var 1, num 1)] [0, 0, 1, 1] [1, 1, 0, 0] rfl h1 q3 q4) (fun q4 => (Int.lt_or_gt_of_ne q2).elim (fun q5 => lq [a] [] (var 1) (num 3) [(1, var 1, num 4), (1, num 1, var 1), (1, var 1, num 2)] [0, 0, 1, 1] [1, 1, 0, 0] rfl h1 q4 q5) (fun q5 => lq [a] [] (var 1) (num 3) [(1, var 1, num 4), (1, num 2, var 1)] [1, 0, 1] [1, 1, 0] rfl h1 q5))))))),
    (fun {a : Int} (h0 : ((2 : Int) ≤ a)) (h1 : (a ≤ (8 : Int))) => lc [a] [(Int.natAbs a)] (4, var 0, num 1073741824) [(0, var 1, num 8), (2, var 0, var 1)] [1, 1, 1] rfl h1 (Int.natAbs_of_nonneg (lc [a] [] (0, num 0, var 1) [(0, num 2, var 1)] [1, 1] rfl h0 : ((0 : Int) ≤ a)) : ((Nat.cast (Int.natAbs a) : Int) = a))),
    (fun {a : Int} (h0 : ((2 : Int) ≤ a)) => lc [a] [] (6, var 1, num 0) [(0, num 2, var 1)] [-1, 1] rfl h0),
    (fun {a : Int} (h0 : ((0 : Int) ≤ a)) => lc [a] [] (0, .neg (num ((2 : Int) ^ (63 : Nat))), var 1) [(0, num 0, var 1)] [1, 1] rfl h0),
    (fun {a : Int} (h0 : (a < (2 : Int))) => lc [a] [] (1, var 1, num ((2 : Int) ^ (63 : Nat))) [(1, var 1, num 2)] [1, 1] rfl h0),
    (fun {a : Int} (h0 : (a < (2 : Int))) => lc [a] [] (0, var 1, num 1048576) [(1, var 1, num 2)] [1, 1] rfl h0),
    (fun {a : Nat} {b : Nat} {c : Nat} {d : Nat} {e : Nat} (h0 : ((b < a) ∧ ((c < a) ∧ ((d < a) ∧ (e < a))))) => lc [] [b, a] (7, var 2, var 0) [(4, var 0, var 2)] [-1, 1] rfl h0.1),
    (fun {a : Int} {b : Int} {c : Int} {d : Int} {e : Int} {f : Int} (h0 : (e < d)) (h1 : (((a - (1 : Int)) - b) = (f + e))) (h2 : (f = c)) => lc [e, d, a, b, f, c] [] (0, var 5, .add (.add (var 7) (var 11)) (var 3)) [(1, var 1, var 3), (2, .sub (.sub (var 5) (num 1)) (var 7), .add (var 9) (var 1)), (2, var 9, var 11)] [1, 1, 1, 1] rfl h0 h1 h2),
    (fun {a : Nat} {b : Nat} {c : Nat} {d : Nat} {e : Nat} {f : Nat} {g : Nat} {i : Nat} {j : Nat} {k : Nat} {l : Nat} (h0 : ((b < a) ∧ ((c < a) ∧ ((d < a) ∧ ((e < a) ∧ ((f < a) ∧ ((g < a) ∧ ((i < a) ∧ ((j < a) ∧ ((k < a) ∧ (l < a))))))))))) => lc [] [b, a] (7, var 2, var 0) [(4, var 0, var 2)] [-1, 1] rfl h0.1),
    (fun {a : Nat} {b : Nat} {c : Nat} {d : Nat} {e : Nat} {f : Nat} {g : Nat} {i : Nat} {j : Nat} (h0 : ((b < a) ∧ ((c < a) ∧ ((d < a) ∧ ((e < a) ∧ ((f < a) ∧ ((g < a) ∧ ((i < a) ∧ (j < a))))))))) => lc [] [b, a] (7, var 2, var 0) [(4, var 0, var 2)] [-1, 1] rfl h0.1)⟩
theorem omG22 : (∀ {a : Nat}, ((0 : Nat) ≤ (a + (1 : Nat)))) ∧
    (∀ {a : Nat} {b : Nat} (h0 : (a ≤ (b + (1 : Nat)))), (a < (b + (3 : Nat)))) ∧
    (∀ {a : Nat} {b : Int} {c : Nat} {d : Nat} {e : Nat} (h0 : (b ≤ (31 : Int))) (h1 : (b = (Nat.cast c : Int))) (h2 : ((d + e) = (c + (3 : Nat)))) (h3 : (a = e)), (a ≤ (40 : Nat))) ∧
    (∀ {a : Int}, (((-(1 : Int)) + (a + (1 : Int))) = a)) ∧
    (∀ {a : Nat} (h0 : (¬(a = (0 : Nat)))), ((0 : Nat) < a)) ∧
    (∀ {a : Nat} {b : Nat} (h0 : (a ≤ b)), ((Nat.cast a : Int) ≤ (Nat.cast b : Int))) ∧
    (∀ {a : Int} {b : Int} {c : Int} {d : Int} {e : Int} {f : Int} {g : Int} {i : Int} (h0 : ((0 : Int) ≤ d)) (h1 : (((a - (1 : Int)) - e) = (f + d))) (h2 : (f = g)) (h3 : ((b + c) = (e + i))) (h4 : (i ≤ g)), (¬(a ≤ (b + c)))) ∧
    (∀ {a : Nat} {b : Nat} {c : Nat} (h0 : ((a + b) = (c + (3 : Nat)))) (h1 : (b ≤ c)), ((a - (1 : Nat)) < a)) ∧
    (∀ {a : Nat} {b : Nat} {c : Nat} (h0 : ((a + b) = (c + (3 : Nat)))) (h1 : (b ≤ c)), (((a - (1 : Nat)) + (b + (1 : Nat))) = (c + (3 : Nat)))) ∧
    (∀ {a : Int} {b : Int} {c : Nat} (h0 : ((c + (1 : Nat)) = (0 : Nat))), ((a + b) = (-(1 : Int)))) ∧
    (∀ {a : Nat} {b : Nat} (h0 : (a ≤ (b + (1 : Nat)))) (h1 : (¬(a ≤ b))), (a = (b + (1 : Nat)))) ∧
    (∀ {a : Nat} {b : Nat} (h0 : (a ≤ (b + (1 : Nat)))) (h1 : (¬(a = (b + (1 : Nat))))), (a ≤ b)) :=
  ⟨(fun {a : Nat} => lc [] [a] (3, num 0, .add (var 0) (num 1)) [] [1] rfl),
    (fun {a : Nat} {b : Nat} (h0 : (a ≤ (b + (1 : Nat)))) => lc [] [a, b] (4, var 0, .add (var 2) (num 3)) [(3, var 0, .add (var 2) (num 1))] [1, 1] rfl h0),
    (fun {a : Nat} {b : Int} {c : Nat} {d : Nat} {e : Nat} (h0 : (b ≤ (31 : Int))) (h1 : (b = (Nat.cast c : Int))) (h2 : ((d + e) = (c + (3 : Nat)))) (h3 : (a = e)) => lc [b] [c, d, e, a] (3, var 6, num 40) [(0, var 1, num 31), (2, var 1, var 0), (5, .add (var 2) (var 4), .add (var 0) (num 3)), (5, var 6, var 4)] [1, 1, -1, 1, 1] rfl h0 h1 h2 h3),
    (fun {a : Int} => lq [a] [] (.add (.neg (num 1)) (.add (var 1) (num 1))) (var 1) [] [1] [1] rfl),
    (fun {a : Nat} (h0 : (¬(a = (0 : Nat)))) => (Nat.lt_or_gt_of_ne h0).elim (fun q0 => lc [] [a] (4, num 0, var 0) [(4, var 0, num 0)] [0, 1] rfl q0) (fun q0 => lc [] [a] (4, num 0, var 0) [(4, num 0, var 0)] [1, 1] rfl q0)),
    (fun {a : Nat} {b : Nat} (h0 : (a ≤ b)) => lc [] [a, b] (0, var 0, var 2) [(3, var 0, var 2)] [1, 1] rfl h0),
    (fun {a : Int} {b : Int} {c : Int} {d : Int} {e : Int} {f : Int} {g : Int} {i : Int} (h0 : ((0 : Int) ≤ d)) (h1 : (((a - (1 : Int)) - e) = (f + d))) (h2 : (f = g)) (h3 : ((b + c) = (e + i))) (h4 : (i ≤ g)) => Int.not_le.mpr (lc [d, a, e, f, g, b, c, i] [] (1, .add (var 11) (var 13), var 3) [(0, num 0, var 1), (2, .sub (.sub (var 3) (num 1)) (var 5), .add (var 7) (var 1)), (2, var 7, var 9), (2, .add (var 11) (var 13), .add (var 5) (var 15)), (0, var 15, var 9)] [1, 1, -1, -1, 1, 1] rfl h0 h1 h2 h3 h4)),
    (fun {a : Nat} {b : Nat} {c : Nat} (h0 : ((a + b) = (c + (3 : Nat)))) (h1 : (b ≤ c)) => lc [] [a, (a - (1 : Nat))] (4, var 2, var 0) [(5, .add (var 2) (num 1), var 0)] [1, 1] rfl (Nat.sub_add_cancel (lc [] [a, b, c] (3, num 1, var 0) [(5, .add (var 0) (var 2), .add (var 4) (num 3)), (3, var 2, var 4)] [1, -1, 1] rfl h0 h1 : ((1 : Nat) ≤ a)) : (((a - (1 : Nat)) + (1 : Nat)) = a))),
    (fun {a : Nat} {b : Nat} {c : Nat} (h0 : ((a + b) = (c + (3 : Nat)))) (h1 : (b ≤ c)) => ln [] [a, b, c, (a - (1 : Nat))] (.add (var 6) (.add (var 2) (num 1))) (.add (var 4) (num 3)) [(5, .add (var 0) (var 2), .add (var 4) (num 3)), (5, .add (var 6) (num 1), var 0)] [1, -1, -1] [1, 1, 1] rfl h0 (Nat.sub_add_cancel (lc [] [a, b, c] (3, num 1, var 0) [(5, .add (var 0) (var 2), .add (var 4) (num 3)), (3, var 2, var 4)] [1, -1, 1] rfl h0 h1 : ((1 : Nat) ≤ a)) : (((a - (1 : Nat)) + (1 : Nat)) = a))),
    (fun {a : Int} {b : Int} {c : Nat} (h0 : ((c + (1 : Nat)) = (0 : Nat))) => lq [a, b] [c] (.add (var 1) (var 3)) (.neg (num 1)) [(5, .add (var 0) (num 1), num 0)] [0, 1] [0, 1] rfl h0),
    (fun {a : Nat} {b : Nat} (h0 : (a ≤ (b + (1 : Nat)))) (h1 : (¬(a ≤ b))) => ln [] [a, b] (var 0) (.add (var 2) (num 1)) [(3, var 0, .add (var 2) (num 1)), (4, var 2, var 0)] [1, 0, 1] [1, 1, 0] rfl h0 (Nat.not_le.mp h1)),
    (fun {a : Nat} {b : Nat} (h0 : (a ≤ (b + (1 : Nat)))) (h1 : (¬(a = (b + (1 : Nat))))) => (Nat.lt_or_gt_of_ne h1).elim (fun q0 => lc [] [a, b] (3, var 0, var 2) [(4, var 0, .add (var 2) (num 1))] [1, 1] rfl q0) (fun q0 => lc [] [a, b] (3, var 0, var 2) [(3, var 0, .add (var 2) (num 1)), (4, .add (var 2) (num 1), var 0)] [0, 1, 1] rfl h0 q0))⟩
theorem omG23 : (∀ {a : Int} (h0 : ((2 : Int) ≤ a)), (¬(a < (2 : Int)))) ∧
    (∀ {a : Int}, (((0 : Int) ≤ (a % (3 : Int))) ∧ ((a % (3 : Int)) < (3 : Int)))) ∧
    (∀ {a : Int} (h0 : (((0 : Int) ≤ a) ∧ (a < (3 : Int)))), ((0 : Int) ≤ ((1 : Int) + a))) ∧
    (∀ {a : Nat} {b : Int} (h0 : (((0 : Int) ≤ b) ∧ (b < (3 : Int)))) (h1 : (((1 : Int) + b) = (Nat.cast a : Int))), ((1 : Nat) ≤ a)) ∧
    (∀ {a : Nat} {b : Int} (h0 : (((0 : Int) ≤ b) ∧ (b < (3 : Int)))) (h1 : (((1 : Int) + b) = (Nat.cast a : Int))), (a ≤ (3 : Nat))) ∧
    (∀ {a : Nat} (h0 : ((1 : Nat) ≤ a)), ((a + a) = (Nat.succ (((2 : Nat) * a) - (1 : Nat))))) ∧
    (∀ {a : Nat} (h0 : ((1 : Nat) ≤ a)), (((2 : Nat) * a) = (Nat.succ (((2 : Nat) * a) - (1 : Nat))))) ∧
    (∀ {a : Int} {b : Int} (h0 : ((0 : Int) ≤ b)), (a ≤ (a + b))) ∧
    (∀ {a : Int} {b : Int} {c : Int} (h0 : (c = (a * (2 : Int)))) (h1 : (b < a)), ((a + b) < c)) ∧
    (∀ {a : Nat} (h0 : ((Nat.cast a : Int) < ((2 : Int) ^ (6 : Nat)))), (a < (64 : Nat))) ∧
    (∀ {a : Int} (h0 : (((2 : Int) * (2 : Int)) ≤ a)), ((a / (2 : Int)) ≠ (0 : Int))) ∧
    (∀ {a : Nat} {b : Nat} {c : Nat} (h0 : ((c < a) ∧ ((b + (1 : Nat)) < a))), (a ≠ (b + (1 : Nat)))) :=
  ⟨(fun {a : Int} (h0 : ((2 : Int) ≤ a)) => Int.not_lt.mpr (lc [a] [] (0, num 2, var 1) [(0, num 2, var 1)] [1, 1] rfl h0)),
    (fun {a : Int} => ⟨lc [(a % (3 : Int))] [] (0, num 0, var 1) [(0, num 0, var 1)] [1, 1] rfl (Int.emod_nonneg a (by decide) : ((0 : Int) ≤ (a % (3 : Int)))), lc [(a % (3 : Int))] [] (1, var 1, num 3) [(1, var 1, num 3)] [1, 1] rfl (Int.emod_lt_of_pos a (by decide) : ((a % (3 : Int)) < (3 : Int)))⟩),
    (fun {a : Int} (h0 : (((0 : Int) ≤ a) ∧ (a < (3 : Int)))) => lc [a] [] (0, num 0, .add (num 1) (var 1)) [(0, num 0, var 1)] [1, 1] rfl h0.1),
    (fun {a : Nat} {b : Int} (h0 : (((0 : Int) ≤ b) ∧ (b < (3 : Int)))) (h1 : (((1 : Int) + b) = (Nat.cast a : Int))) => lc [b] [a] (3, num 1, var 0) [(0, num 0, var 1), (2, .add (num 1) (var 1), var 0)] [1, 1, 1] rfl h0.1 h1),
    (fun {a : Nat} {b : Int} (h0 : (((0 : Int) ≤ b) ∧ (b < (3 : Int)))) (h1 : (((1 : Int) + b) = (Nat.cast a : Int))) => lc [b] [a] (3, var 0, num 3) [(1, var 1, num 3), (2, .add (num 1) (var 1), var 0)] [1, 1, -1] rfl h0.2 h1),
    (fun {a : Nat} (h0 : ((1 : Nat) ≤ a)) => ln [] [a, (((2 : Nat) * a) - (1 : Nat))] (.add (var 0) (var 0)) (.add (var 2) (num 1)) [(5, .add (var 2) (num 1), .mulL 2 (var 0))] [1, 1] [1, -1] rfl (Nat.sub_add_cancel (lc [] [a] (3, num 1, .mulL 2 (var 0)) [(3, num 1, var 0)] [1, 2] rfl h0 : ((1 : Nat) ≤ ((2 : Nat) * a))) : (((((2 : Nat) * a) - (1 : Nat)) + (1 : Nat)) = ((2 : Nat) * a)))),
    (fun {a : Nat} (h0 : ((1 : Nat) ≤ a)) => ln [] [a, (((2 : Nat) * a) - (1 : Nat))] (.mulL 2 (var 0)) (.add (var 2) (num 1)) [(5, .add (var 2) (num 1), .mulL 2 (var 0))] [1, 1] [1, -1] rfl (Nat.sub_add_cancel (lc [] [a] (3, num 1, .mulL 2 (var 0)) [(3, num 1, var 0)] [1, 2] rfl h0 : ((1 : Nat) ≤ ((2 : Nat) * a))) : (((((2 : Nat) * a) - (1 : Nat)) + (1 : Nat)) = ((2 : Nat) * a)))),
    (fun {a : Int} {b : Int} (h0 : ((0 : Int) ≤ b)) => lc [b, a] [] (0, var 3, .add (var 3) (var 1)) [(0, num 0, var 1)] [1, 1] rfl h0),
    (fun {a : Int} {b : Int} {c : Int} (h0 : (c = (a * (2 : Int)))) (h1 : (b < a)) => lc [c, a, b] [] (1, .add (var 3) (var 5), var 1) [(2, var 1, .mulR (var 3) 2), (1, var 5, var 3)] [1, -1, 1] rfl h0 h1),
    (fun {a : Nat} (h0 : ((Nat.cast a : Int) < ((2 : Int) ^ (6 : Nat)))) => lc [] [a] (4, var 0, num 64) [(1, var 0, num ((2 : Int) ^ (6 : Nat)))] [1, 1] rfl h0),
    (fun {a : Int} (h0 : (((2 : Int) * (2 : Int)) ≤ a)) => lc [a, (a / (2 : Int)), (a % (2 : Int))] [] (6, var 3, num 0) [(0, .mulL 2 (num 2), var 1), (2, .add (.mulL 2 (var 3)) (var 5), var 1), (1, var 5, num 2)] [-2, 1, -1, 1] rfl h0 (Int.mul_ediv_add_emod a (2 : Int) : ((((2 : Int) * (a / (2 : Int))) + (a % (2 : Int))) = a)) (Int.emod_lt_of_pos a (by decide) : ((a % (2 : Int)) < (2 : Int)))),
    (fun {a : Nat} {b : Nat} {c : Nat} (h0 : ((c < a) ∧ ((b + (1 : Nat)) < a))) => lc [] [a, b] (7, var 0, .add (var 2) (num 1)) [(4, .add (var 2) (num 1), var 0)] [-1, 1] rfl h0.2)⟩
theorem omG24 : (∀ {a : Nat} {b : Nat} {c : Nat} (h0 : ((b < a) ∧ ((c + (1 : Nat)) < a))), (a ≠ b)) ∧
    (∀ {a : Int} {b : Int} (h0 : (a < b)), (a < b)) ∧
    (∀ {a : Int} {b : Nat} (h0 : ((a - (a - (Nat.cast b : Int))) ≤ (0 : Int))), ((a - (Nat.cast b : Int)) = a)) ∧
    (∀ {a : Int} {b : Int} {c : Nat} (h0 : ((b - (Nat.cast c : Int)) = a)) (h1 : (b ≤ ((2 : Int) ^ (3 : Nat)))), (a < ((2 : Int) ^ (4 : Nat)))) ∧
    (∀ {a : Int} {b : Int} {c : Nat} (h0 : ((b - (Nat.cast c : Int)) = a)) (h1 : (b ≤ ((2 : Int) ^ (3 : Nat)))), (((Nat.cast (3 : Nat) : Int) * a) ≤ ((2 : Int) ^ (27 : Nat)))) ∧
    (∀ {a : Int} {b : Int} {c : Nat} (h0 : ((b - (Nat.cast c : Int)) = a)) (h1 : (b ≤ ((2 : Int) ^ (3 : Nat)))), (((2 : Nat) * (Int.toNat a)) ≤ (16 : Nat))) ∧
    (∀ {a : Int} (h0 : (a ≤ ((2 : Int) ^ (3 : Nat)))), (a ≤ (8 : Int))) ∧
    (∀ {a : Int} (h0 : (a < ((2 : Int) ^ (6 : Nat)))), (a ≤ (63 : Int))) ∧
    (∀ {a : Int} {b : Int} {c : Int} {d : Int} {e : Int} (h0 : ((b + c) < (d + e))) (h1 : (e ≤ a)), ((0 : Int) ≤ ((a - (1 : Int)) - ((b + c) - d)))) ∧
    (∀ {a : Int} {b : Int} {c : Int} {d : Int} {e : Int} {f : Int} {g : Int} (h0 : (((e - (1 : Int)) - ((a + b) - c)) = (f + g))) (h1 : ((0 : Int) ≤ g)) (h2 : (f = d)), ((((a + b) - c) + d) < e)) ∧
    (∀ {a : Nat} {b : Nat} {c : Nat} {d : Nat} (h0 : ((c + a) = (b + (1 : Nat)))) (h1 : (d ≤ a)) (h2 : (d = (b + (1 : Nat)))), (a = (b + (1 : Nat)))) ∧
    (∀ {a : Int} {b : Int} {c : Int}, ((a + b) = (c + ((a + b) - c)))) :=
  ⟨(fun {a : Nat} {b : Nat} {c : Nat} (h0 : ((b < a) ∧ ((c + (1 : Nat)) < a))) => lc [] [b, a] (7, var 2, var 0) [(4, var 0, var 2)] [-1, 1] rfl h0.1),
    (fun {a : Int} {b : Int} (h0 : (a < b)) => h0),
    (fun {a : Int} {b : Nat} (h0 : ((a - (a - (Nat.cast b : Int))) ≤ (0 : Int))) => lq [a] [b] (.sub (var 1) (var 0)) (var 1) [(0, .sub (var 1) (.sub (var 1) (var 0)), num 0)] [1, 1] [1, 0] rfl h0),
    (fun {a : Int} {b : Int} {c : Nat} (h0 : ((b - (Nat.cast c : Int)) = a)) (h1 : (b ≤ ((2 : Int) ^ (3 : Nat)))) => lc [b, a] [c] (1, var 3, num ((2 : Int) ^ (4 : Nat))) [(2, .sub (var 1) (var 0), var 3), (0, var 1, num ((2 : Int) ^ (3 : Nat)))] [1, -1, 1] rfl h0 h1),
    (fun {a : Int} {b : Int} {c : Nat} (h0 : ((b - (Nat.cast c : Int)) = a)) (h1 : (b ≤ ((2 : Int) ^ (3 : Nat)))) => lc [b, a] [c] (0, .mulL (Nat.cast (3 : Nat) : Int) (var 3), num ((2 : Int) ^ (27 : Nat))) [(2, .sub (var 1) (var 0), var 3), (0, var 1, num ((2 : Int) ^ (3 : Nat)))] [1, -3, 3] rfl h0 h1),
    (fun {a : Int} {b : Int} {c : Nat} (h0 : ((b - (Nat.cast c : Int)) = a)) (h1 : (b ≤ ((2 : Int) ^ (3 : Nat)))) => (Int.le_total (0 : Int) a).elim (fun z0 => lc [b, a] [c, (Int.toNat a)] (3, .mulL 2 (var 2), num 16) [(2, .sub (var 1) (var 0), var 3), (0, var 1, num ((2 : Int) ^ (3 : Nat))), (2, var 2, var 3)] [1, -2, 2, 2] rfl h0 h1 (Int.toNat_of_nonneg (lc [a] [] (0, num 0, var 1) [(0, num 0, var 1)] [1, 1] rfl z0 : ((0 : Int) ≤ a)) : ((Nat.cast (Int.toNat a) : Int) = a))) (fun z0 => lc [] [(Int.toNat a)] (3, .mulL 2 (var 0), num 16) [(5, var 0, num 0)] [1, 2] rfl (Int.toNat_of_nonpos (lc [a] [] (0, var 1, num 0) [(0, var 1, num 0)] [1, 1] rfl z0 : (a ≤ (0 : Int))) : ((Int.toNat a) = (0 : Nat))))),
    (fun {a : Int} (h0 : (a ≤ ((2 : Int) ^ (3 : Nat)))) => lc [a] [] (0, var 1, num 8) [(0, var 1, num ((2 : Int) ^ (3 : Nat)))] [1, 1] rfl h0),
    (fun {a : Int} (h0 : (a < ((2 : Int) ^ (6 : Nat)))) => lc [a] [] (0, var 1, num 63) [(1, var 1, num ((2 : Int) ^ (6 : Nat)))] [1, 1] rfl h0),
    (fun {a : Int} {b : Int} {c : Int} {d : Int} {e : Int} (h0 : ((b + c) < (d + e))) (h1 : (e ≤ a)) => lc [b, c, d, e, a] [] (0, num 0, .sub (.sub (var 9) (num 1)) (.sub (.add (var 1) (var 3)) (var 5))) [(1, .add (var 1) (var 3), .add (var 5) (var 7)), (0, var 7, var 9)] [1, 1, 1] rfl h0 h1),
    (fun {a : Int} {b : Int} {c : Int} {d : Int} {e : Int} {f : Int} {g : Int} (h0 : (((e - (1 : Int)) - ((a + b) - c)) = (f + g))) (h1 : ((0 : Int) ≤ g)) (h2 : (f = d)) => lc [e, a, b, c, f, g, d] [] (1, .add (.sub (.add (var 3) (var 5)) (var 7)) (var 13), var 1) [(2, .sub (.sub (var 1) (num 1)) (.sub (.add (var 3) (var 5)) (var 7)), .add (var 9) (var 11)), (0, num 0, var 11), (2, var 9, var 13)] [1, -1, 1, -1] rfl h0 h1 h2),
    (fun {a : Nat} {b : Nat} {c : Nat} {d : Nat} (h0 : ((c + a) = (b + (1 : Nat)))) (h1 : (d ≤ a)) (h2 : (d = (b + (1 : Nat)))) => ln [] [c, a, b, d] (var 2) (.add (var 4) (num 1)) [(5, .add (var 0) (var 2), .add (var 4) (num 1)), (3, var 6, var 2), (5, var 6, .add (var 4) (num 1))] [1, 0, 1, -1] [1, 1, 0, 0] rfl h0 h1 h2),
    (fun {a : Int} {b : Int} {c : Int} => lq [a, b, c] [] (.add (var 1) (var 3)) (.add (var 5) (.sub (.add (var 1) (var 3)) (var 5))) [] [1] [1] rfl)⟩
theorem omG25 : (∀ {a : Int} {b : Nat} {c : Int} (h0 : ((a - (Nat.cast b : Int)) = c)) (h1 : ((0 : Int) < (a - c))), ((a - (Nat.cast (b - (1 : Nat)) : Int)) = (c + (1 : Int)))) ∧
    (∀ {a : Nat} {b : Int} {c : Int} (h0 : ((b - (Nat.cast a : Int)) = c)) (h1 : ((b - (Nat.cast (a - (1 : Nat)) : Int)) = (c + (1 : Int)))), ((a - (1 : Nat)) < a)) ∧
    (∀ {a : Int} {b : Int} (h0 : ((0 : Int) < (b - a))), ((a + (1 : Int)) ≤ b)) ∧
    (∀ {a : Int} {b : Int}, ((a - (b + (1 : Int))) = ((a - b) - (1 : Int)))) ∧
    (∀ {a : Nat} {b : Nat} (h0 : (a < (b + (1 : Nat)))), (a ≤ b)) ∧
    (∀ {a : Nat} {b : Nat} (h0 : (¬(b < (a + (1 : Nat))))), ((a + (1 : Nat)) ≤ b)) ∧
    (∀ {a : Int} {b : Int} {c : Int} {d : Int} {e : Int} {f : Int} {g : Int} (h0 : ((((c + d) - e) + f) < b)) (h1 : (a = (((c + d) - e) + g))) (h2 : (g ≤ f)), (a < b)) ∧
    (∀ {a : Nat} {b : Int} (h0 : (b < ((2 : Int) ^ (6 : Nat)))) (h1 : ((Nat.cast a : Int) < b)), (a ≤ (64 : Nat))) ∧
    (∀ {a : Nat} (h0 : (a ≤ (64 : Nat))), ((Nat.cast a : Int) < ((2 : Int) ^ (63 : Nat)))) ∧
    (∀ {a : Nat} (h0 : (a ≤ (64 : Nat))), ((Nat.cast a : Int) < ((2 : Int) ^ (7 : Nat)))) ∧
    (∀ {a : Nat} (h0 : (a ≤ (7 : Nat))), (a ≤ ((2 : Nat) ^ (20 : Nat)))) ∧
    (∀ {a : Int} {b : Int} (h0 : (b < ((2 : Int) ^ (6 : Nat)))) (h1 : (a < b)), (a < (64 : Int))) :=
  ⟨(fun {a : Int} {b : Nat} {c : Int} (h0 : ((a - (Nat.cast b : Int)) = c)) (h1 : ((0 : Int) < (a - c))) => lq [a, c] [b, (b - (1 : Nat))] (.sub (var 1) (var 2)) (.add (var 3) (num 1)) [(2, .sub (var 1) (var 0), var 3), (5, .add (var 2) (num 1), var 0)] [1, -1, 1] [1, 1, -1] rfl h0 (Nat.sub_add_cancel (lc [a, c] [b] (3, num 1, var 0) [(2, .sub (var 1) (var 0), var 3), (1, num 0, .sub (var 1) (var 3))] [1, 1, 1] rfl h0 h1 : ((1 : Nat) ≤ b)) : (((b - (1 : Nat)) + (1 : Nat)) = b))),
    (fun {a : Nat} {b : Int} {c : Int} (h0 : ((b - (Nat.cast a : Int)) = c)) (h1 : ((b - (Nat.cast (a - (1 : Nat)) : Int)) = (c + (1 : Int)))) => lc [b, c] [a, (a - (1 : Nat))] (4, var 2, var 0) [(2, .sub (var 1) (var 0), var 3), (2, .sub (var 1) (var 2), .add (var 3) (num 1))] [1, 1, -1] rfl h0 h1),
    (fun {a : Int} {b : Int} (h0 : ((0 : Int) < (b - a))) => lc [b, a] [] (0, .add (var 3) (num 1), var 1) [(1, num 0, .sub (var 1) (var 3))] [1, 1] rfl h0),
    (fun {a : Int} {b : Int} => lq [a, b] [] (.sub (var 1) (.add (var 3) (num 1))) (.sub (.sub (var 1) (var 3)) (num 1)) [] [1] [1] rfl),
    (fun {a : Nat} {b : Nat} (h0 : (a < (b + (1 : Nat)))) => lc [] [a, b] (3, var 0, var 2) [(4, var 0, .add (var 2) (num 1))] [1, 1] rfl h0),
    (fun {a : Nat} {b : Nat} (h0 : (¬(b < (a + (1 : Nat))))) => lc [] [a, b] (3, .add (var 0) (num 1), var 2) [(3, .add (var 0) (num 1), var 2)] [1, 1] rfl (Nat.not_lt.mp h0)),
    (fun {a : Int} {b : Int} {c : Int} {d : Int} {e : Int} {f : Int} {g : Int} (h0 : ((((c + d) - e) + f) < b)) (h1 : (a = (((c + d) - e) + g))) (h2 : (g ≤ f)) => lc [c, d, e, f, b, a, g] [] (1, var 11, var 9) [(1, .add (.sub (.add (var 1) (var 3)) (var 5)) (var 7), var 9), (2, var 11, .add (.sub (.add (var 1) (var 3)) (var 5)) (var 13)), (0, var 13, var 7)] [1, 1, 1, 1] rfl h0 h1 h2),
    (fun {a : Nat} {b : Int} (h0 : (b < ((2 : Int) ^ (6 : Nat)))) (h1 : ((Nat.cast a : Int) < b)) => lc [b] [a] (3, var 0, num 64) [(1, var 1, num ((2 : Int) ^ (6 : Nat))), (1, var 0, var 1)] [1, 1, 1] rfl h0 h1),
    (fun {a : Nat} (h0 : (a ≤ (64 : Nat))) => lc [] [a] (1, var 0, num ((2 : Int) ^ (63 : Nat))) [(3, var 0, num 64)] [1, 1] rfl h0),
    (fun {a : Nat} (h0 : (a ≤ (64 : Nat))) => lc [] [a] (1, var 0, num ((2 : Int) ^ (7 : Nat))) [(3, var 0, num 64)] [1, 1] rfl h0),
    (fun {a : Nat} (h0 : (a ≤ (7 : Nat))) => lc [] [a] (3, var 0, num (Nat.cast ((2 : Nat) ^ (20 : Nat)))) [(3, var 0, num 7)] [1, 1] rfl h0),
    (fun {a : Int} {b : Int} (h0 : (b < ((2 : Int) ^ (6 : Nat)))) (h1 : (a < b)) => lc [b, a] [] (1, var 3, num 64) [(1, var 1, num ((2 : Int) ^ (6 : Nat))), (1, var 3, var 1)] [1, 1, 1] rfl h0 h1)⟩
theorem omG26 : (∀ {a : Nat} {b : Nat} {c : Nat} (h0 : ((a + b) = (c + (1 : Nat)))) (h1 : (b ≤ c)), ((a - (1 : Nat)) < a)) ∧
    (∀ {a : Nat} {b : Nat} {c : Nat} (h0 : ((a + b) = (c + (1 : Nat)))) (h1 : (b ≤ c)), (((a - (1 : Nat)) + (b + (1 : Nat))) = (c + (1 : Nat)))) ∧
    (∀ {a : Nat} {b : Nat}, (((a + b) + (1 : Nat)) = (a + (b + (1 : Nat))))) ∧
    (∀ {a : Nat} (h0 : ((1 : Nat) ≤ a)), ((1 : Nat) ≤ (((2 : Nat) * a) - (1 : Nat)))) ∧
    (∀ {a : Int} {b : Int} (h0 : (b ≤ a)) (h1 : (((2 : Int) ^ (1 : Nat)) ≤ b)), ((2 : Int) ≤ a)) ∧
    (∀ {a : Int} (h0 : (a < ((2 : Int) ^ (6 : Nat)))), (a < ((2 : Int) ^ (63 : Nat)))) ∧
    (∀ {a : Nat} {b : Nat} {c : Int} (h0 : ((Nat.cast b : Int) = c)) (h1 : ((0 : Int) < (c - (Nat.cast a : Int)))), (a < b)) ∧
    (∀ {a : Nat} {b : Int} (h0 : ((0 : Int) < (b - (Nat.cast a : Int)))), ((Nat.cast a : Int) < b)) ∧
    (∀ {a : Nat} {b : Int} {c : Nat} (h0 : (b < ((2 : Int) ^ (6 : Nat)))) (h1 : ((b - (Nat.cast c : Int)) = (Nat.cast a : Int))), ((Nat.cast a : Int) < ((2 : Int) ^ (63 : Nat)))) ∧
    (∀ {a : Nat} {b : Nat} {c : Nat} (h0 : (((a + ((10 : Nat) * (c + (20 : Nat)))) + (40 : Nat)) < b)), (((a + (3 : Nat)) + (64 : Nat)) < b)) ∧
    (∀ {a : Int} {b : Nat} {c : Nat} (h0 : ((a - (Nat.cast b : Int)) = (Nat.cast c : Int))) (h1 : ((0 : Int) < (a - (Nat.cast c : Int)))), ((a - (Nat.cast (b - (1 : Nat)) : Int)) = ((Nat.cast c : Int) + (1 : Int)))) ∧
    (∀ {a : Nat} {b : Int} {c : Nat} (h0 : ((b - (Nat.cast a : Int)) = (Nat.cast c : Int))) (h1 : ((b - (Nat.cast (a - (1 : Nat)) : Int)) = ((Nat.cast c : Int) + (1 : Int)))), ((a - (1 : Nat)) < a)) :=
  ⟨(fun {a : Nat} {b : Nat} {c : Nat} (h0 : ((a + b) = (c + (1 : Nat)))) (h1 : (b ≤ c)) => lc [] [a, (a - (1 : Nat))] (4, var 2, var 0) [(5, .add (var 2) (num 1), var 0)] [1, 1] rfl (Nat.sub_add_cancel (lc [] [a, b, c] (3, num 1, var 0) [(5, .add (var 0) (var 2), .add (var 4) (num 1)), (3, var 2, var 4)] [1, -1, 1] rfl h0 h1 : ((1 : Nat) ≤ a)) : (((a - (1 : Nat)) + (1 : Nat)) = a))),
    (fun {a : Nat} {b : Nat} {c : Nat} (h0 : ((a + b) = (c + (1 : Nat)))) (h1 : (b ≤ c)) => ln [] [a, b, c, (a - (1 : Nat))] (.add (var 6) (.add (var 2) (num 1))) (.add (var 4) (num 1)) [(5, .add (var 0) (var 2), .add (var 4) (num 1)), (5, .add (var 6) (num 1), var 0)] [1, -1, -1] [1, 1, 1] rfl h0 (Nat.sub_add_cancel (lc [] [a, b, c] (3, num 1, var 0) [(5, .add (var 0) (var 2), .add (var 4) (num 1)), (3, var 2, var 4)] [1, -1, 1] rfl h0 h1 : ((1 : Nat) ≤ a)) : (((a - (1 : Nat)) + (1 : Nat)) = a))),
    (fun {a : Nat} {b : Nat} => ln [] [a, b] (.add (.add (var 0) (var 2)) (num 1)) (.add (var 0) (.add (var 2) (num 1))) [] [1] [1] rfl),
    (fun {a : Nat} (h0 : ((1 : Nat) ≤ a)) => lc [] [a, (((2 : Nat) * a) - (1 : Nat))] (3, num 1, var 2) [(3, num 1, var 0), (5, .add (var 2) (num 1), .mulL 2 (var 0))] [1, 2, -1] rfl h0 (Nat.sub_add_cancel (lc [] [a] (3, num 1, .mulL 2 (var 0)) [(3, num 1, var 0)] [1, 2] rfl h0 : ((1 : Nat) ≤ ((2 : Nat) * a))) : (((((2 : Nat) * a) - (1 : Nat)) + (1 : Nat)) = ((2 : Nat) * a)))),
    (fun {a : Int} {b : Int} (h0 : (b ≤ a)) (h1 : (((2 : Int) ^ (1 : Nat)) ≤ b)) => lc [b, a] [] (0, num 2, var 3) [(0, var 1, var 3), (0, num ((2 : Int) ^ (1 : Nat)), var 1)] [1, 1, 1] rfl h0 h1),
    (fun {a : Int} (h0 : (a < ((2 : Int) ^ (6 : Nat)))) => lc [a] [] (1, var 1, num ((2 : Int) ^ (63 : Nat))) [(1, var 1, num ((2 : Int) ^ (6 : Nat)))] [1, 1] rfl h0),
    (fun {a : Nat} {b : Nat} {c : Int} (h0 : ((Nat.cast b : Int) = c)) (h1 : ((0 : Int) < (c - (Nat.cast a : Int)))) => lc [c] [b, a] (4, var 2, var 0) [(2, var 0, var 1), (1, num 0, .sub (var 1) (var 2))] [1, -1, 1] rfl h0 h1),
    (fun {a : Nat} {b : Int} (h0 : ((0 : Int) < (b - (Nat.cast a : Int)))) => lc [b] [a] (1, var 0, var 1) [(1, num 0, .sub (var 1) (var 0))] [1, 1] rfl h0),
    (fun {a : Nat} {b : Int} {c : Nat} (h0 : (b < ((2 : Int) ^ (6 : Nat)))) (h1 : ((b - (Nat.cast c : Int)) = (Nat.cast a : Int))) => lc [b] [c, a] (1, var 2, num ((2 : Int) ^ (63 : Nat))) [(1, var 1, num ((2 : Int) ^ (6 : Nat))), (2, .sub (var 1) (var 0), var 2)] [1, 1, -1] rfl h0 h1),
    (fun {a : Nat} {b : Nat} {c : Nat} (h0 : (((a + ((10 : Nat) * (c + (20 : Nat)))) + (40 : Nat)) < b)) => lc [] [a, c, b] (4, .add (.add (var 0) (num 3)) (num 64), var 4) [(4, .add (.add (var 0) (.mulL 10 (.add (var 2) (num 20)))) (num 40), var 4)] [1, 1] rfl h0),
    (fun {a : Int} {b : Nat} {c : Nat} (h0 : ((a - (Nat.cast b : Int)) = (Nat.cast c : Int))) (h1 : ((0 : Int) < (a - (Nat.cast c : Int)))) => lq [a] [b, c, (b - (1 : Nat))] (.sub (var 1) (var 4)) (.add (var 2) (num 1)) [(2, .sub (var 1) (var 0), var 2), (5, .add (var 4) (num 1), var 0)] [1, -1, 1] [1, 1, -1] rfl h0 (Nat.sub_add_cancel (lc [a] [b, c] (3, num 1, var 0) [(2, .sub (var 1) (var 0), var 2), (1, num 0, .sub (var 1) (var 2))] [1, 1, 1] rfl h0 h1 : ((1 : Nat) ≤ b)) : (((b - (1 : Nat)) + (1 : Nat)) = b))),
    (fun {a : Nat} {b : Int} {c : Nat} (h0 : ((b - (Nat.cast a : Int)) = (Nat.cast c : Int))) (h1 : ((b - (Nat.cast (a - (1 : Nat)) : Int)) = ((Nat.cast c : Int) + (1 : Int)))) => lc [b] [a, c, (a - (1 : Nat))] (4, var 4, var 0) [(2, .sub (var 1) (var 0), var 2), (2, .sub (var 1) (var 4), .add (var 2) (num 1))] [1, 1, -1] rfl h0 h1)⟩
theorem omG27 : (∀ {a : Nat}, ((0 : Int) ≤ ((Nat.cast a : Int) + (1 : Int)))) ∧
    (∀ {a : Nat} {b : Int} (h0 : ((0 : Int) < (b - (Nat.cast a : Int)))), (((Nat.cast a : Int) + (1 : Int)) ≤ b)) ∧
    (∀ {a : Int} {b : Nat}, ((a - ((Nat.cast b : Int) + (1 : Int))) = ((a - (Nat.cast b : Int)) - (1 : Int)))) ∧
    (∀ {a : Int} (h0 : ((2 : Int) ≤ a)) (h1 : ((0 : Int) = a)), False) ∧
    (∀ {a : Int} (h0 : (a < ((2 : Int) ^ (6 : Nat)))), ((a - (1 : Int)) < ((2 : Int) ^ (6 : Nat)))) ∧
    (∀ {a : Int} (h0 : ((2 : Int) ≤ a)), ((0 : Int) < (a - (1 : Int)))) ∧
    (∀ {a : Int} (h0 : ((0 : Int) ≤ a)), ((0 : Int) ≤ ((1 : Int) + a))) ∧
    (∀ {a : Int} {b : Int} (h0 : (a < (b - (1 : Int)))), (((1 : Int) + a) < b)) ∧
    (∀ {a : Int} (h0 : ((2 : Int) ≤ a)), ((max a (0 : Int)) = a)) ∧
    (∀ {a : Nat} {b : Int} {c : Nat} (h0 : (b < ((2 : Int) ^ (6 : Nat)))) (h1 : ((Nat.cast c : Int) = (b - (Nat.cast a : Int)))), (a ≤ (63 : Nat))) ∧
    (∀ {a : Nat} {b : Nat} {c : Int} {d : Int} (h0 : ((Nat.cast b : Int) = c)) (h1 : (d = (Nat.cast a : Int))) (h2 : (d < c)), (a < b)) ∧
    (∀ {a : Nat} {b : Int} {c : Nat} (h0 : (b < ((2 : Int) ^ (6 : Nat)))) (h1 : ((Nat.cast c : Int) = (b - (Nat.cast a : Int)))), (a ≤ (64 : Nat))) :=
  ⟨(fun {a : Nat} => lc [] [a] (0, num 0, .add (var 0) (num 1)) [] [1] rfl),
    (fun {a : Nat} {b : Int} (h0 : ((0 : Int) < (b - (Nat.cast a : Int)))) => lc [b] [a] (0, .add (var 0) (num 1), var 1) [(1, num 0, .sub (var 1) (var 0))] [1, 1] rfl h0),
    (fun {a : Int} {b : Nat} => lq [a] [b] (.sub (var 1) (.add (var 0) (num 1))) (.sub (.sub (var 1) (var 0)) (num 1)) [] [1] [1] rfl),
    (fun {a : Int} (h0 : ((2 : Int) ≤ a)) (h1 : ((0 : Int) = a)) => lc [a] [] (8, num 0, num 0) [(0, num 2, var 1), (2, num 0, var 1)] [0, 1, -1] rfl h0 h1),
    (fun {a : Int} (h0 : (a < ((2 : Int) ^ (6 : Nat)))) => lc [a] [] (1, .sub (var 1) (num 1), num ((2 : Int) ^ (6 : Nat))) [(1, var 1, num ((2 : Int) ^ (6 : Nat)))] [1, 1] rfl h0),
    (fun {a : Int} (h0 : ((2 : Int) ≤ a)) => lc [a] [] (1, num 0, .sub (var 1) (num 1)) [(0, num 2, var 1)] [1, 1] rfl h0),
    (fun {a : Int} (h0 : ((0 : Int) ≤ a)) => lc [a] [] (0, num 0, .add (num 1) (var 1)) [(0, num 0, var 1)] [1, 1] rfl h0),
    (fun {a : Int} {b : Int} (h0 : (a < (b - (1 : Int)))) => lc [a, b] [] (1, .add (num 1) (var 1), var 3) [(1, var 1, .sub (var 3) (num 1))] [1, 1] rfl h0),
    (fun {a : Int} (h0 : ((2 : Int) ≤ a)) => Int.max_eq_left (Int.le_trans (by decide) h0)),
    (fun {a : Nat} {b : Int} {c : Nat} (h0 : (b < ((2 : Int) ^ (6 : Nat)))) (h1 : ((Nat.cast c : Int) = (b - (Nat.cast a : Int)))) => lc [b] [c, a] (3, var 2, num 63) [(1, var 1, num ((2 : Int) ^ (6 : Nat))), (2, var 0, .sub (var 1) (var 2))] [1, 1, 1] rfl h0 h1),
    (fun {a : Nat} {b : Nat} {c : Int} {d : Int} (h0 : ((Nat.cast b : Int) = c)) (h1 : (d = (Nat.cast a : Int))) (h2 : (d < c)) => lc [c, d] [b, a] (4, var 2, var 0) [(2, var 0, var 1), (2, var 3, var 2), (1, var 3, var 1)] [1, -1, -1, 1] rfl h0 h1 h2),
    (fun {a : Nat} {b : Int} {c : Nat} (h0 : (b < ((2 : Int) ^ (6 : Nat)))) (h1 : ((Nat.cast c : Int) = (b - (Nat.cast a : Int)))) => lc [b] [c, a] (3, var 2, num 64) [(1, var 1, num ((2 : Int) ^ (6 : Nat))), (2, var 0, .sub (var 1) (var 2))] [1, 1, 1] rfl h0 h1)⟩
theorem omG28 : (∀ {a : Int} {b : Int} (h0 : (b < ((2 : Int) ^ (6 : Nat)))) (h1 : (a < b)), (a < ((2 : Int) ^ (63 : Nat)))) ∧
    (∀ {a : Int} {b : Int} {c : Int} {d : Int} {e : Int} {f : Int} (h0 : (c < d)) (h1 : ((0 : Int) ≤ e)) (h2 : ((f + c) = (a + e))) (h3 : (f ≤ (b - ((1 : Int) * d)))), (a < b)) ∧
    (∀ {a : Nat} {b : Int} {c : Nat} (h0 : ((Nat.cast a : Int) = (b - (Nat.cast c : Int)))) (h1 : ((Nat.cast (c + (1 : Nat)) : Int) ≤ b)), ((a - (1 : Nat)) < a)) ∧
    (∀ {a : Nat} {b : Int} {c : Nat} (h0 : ((Nat.cast a : Int) = (b - (Nat.cast c : Int)))) (h1 : ((Nat.cast (c + (1 : Nat)) : Int) ≤ b)), ((Nat.cast (a - (1 : Nat)) : Int) = (b - (Nat.cast (c + (1 : Nat)) : Int)))) ∧
    (∀ {a : Int} {b : Int} {c : Int} {d : Int} (h0 : (a ≤ b)) (h1 : (b = (c + d))) (h2 : (d < a)) (h3 : (c ≤ (0 : Int))), False) ∧
    (∀ {a : Int} {b : Int} {c : Int} {d : Int} (h0 : (b < ((2 : Int) ^ (6 : Nat)))) (h1 : (b = (c + d))) (h2 : ((0 : Int) ≤ d)) (h3 : (((1 : Int) * a) ≤ c)), (a < ((2 : Int) ^ (6 : Nat)))) ∧
    (∀ {a : Nat} (h0 : (a ≤ (3 : Nat))), (a ≤ (100000 : Nat))) ∧
    (∀ {a : Int} {b : Int} {c : Int} (h0 : (a = (b + c))), (a = (b + c))) ∧
    (∀ {a : Int} {b : Int} (h0 : (a < b)) (h1 : (b < ((2 : Int) ^ (6 : Nat)))), (a < ((2 : Int) ^ (6 : Nat)))) ∧
    (∀ {a : Nat} {b : Nat} (h0 : (a ≤ (6 : Nat))), (((Nat.cast a : Int) - (Nat.cast b : Int)) ≤ (4000 : Int))) ∧
    (∀ {a : Nat} {b : Nat} {c : Nat} {d : Nat} {e : Nat} (h0 : (c ≤ b)) (h1 : ((d + e) = c)) (h2 : (a = e)), (a ≤ b)) ∧
    (∀ {a : Nat} {b : Nat} {c : Nat} (h0 : ((a + b) = c)) (h1 : (b < c)), ((a - (1 : Nat)) < a)) :=
  ⟨(fun {a : Int} {b : Int} (h0 : (b < ((2 : Int) ^ (6 : Nat)))) (h1 : (a < b)) => lc [b, a] [] (1, var 3, num ((2 : Int) ^ (63 : Nat))) [(1, var 1, num ((2 : Int) ^ (6 : Nat))), (1, var 3, var 1)] [1, 1, 1] rfl h0 h1),
    (fun {a : Int} {b : Int} {c : Int} {d : Int} {e : Int} {f : Int} (h0 : (c < d)) (h1 : ((0 : Int) ≤ e)) (h2 : ((f + c) = (a + e))) (h3 : (f ≤ (b - ((1 : Int) * d)))) => lc [c, d, e, f, a, b] [] (1, var 9, var 11) [(1, var 1, var 3), (0, num 0, var 5), (2, .add (var 7) (var 1), .add (var 9) (var 5)), (0, var 7, .sub (var 11) (.mulL 1 (var 3)))] [1, 1, 1, -1, 1] rfl h0 h1 h2 h3),
    (fun {a : Nat} {b : Int} {c : Nat} (h0 : ((Nat.cast a : Int) = (b - (Nat.cast c : Int)))) (h1 : ((Nat.cast (c + (1 : Nat)) : Int) ≤ b)) => lc [] [a, (a - (1 : Nat))] (4, var 2, var 0) [(5, .add (var 2) (num 1), var 0)] [1, 1] rfl (Nat.sub_add_cancel (lc [b] [a, c] (3, num 1, var 0) [(2, var 0, .sub (var 1) (var 2)), (0, .add (var 2) (num 1), var 1)] [1, -1, 1] rfl h0 h1 : ((1 : Nat) ≤ a)) : (((a - (1 : Nat)) + (1 : Nat)) = a))),
    (fun {a : Nat} {b : Int} {c : Nat} (h0 : ((Nat.cast a : Int) = (b - (Nat.cast c : Int)))) (h1 : ((Nat.cast (c + (1 : Nat)) : Int) ≤ b)) => lq [b] [a, c, (a - (1 : Nat))] (var 4) (.sub (var 1) (.add (var 2) (num 1))) [(2, var 0, .sub (var 1) (var 2)), (5, .add (var 4) (num 1), var 0)] [1, -1, -1] [1, 1, 1] rfl h0 (Nat.sub_add_cancel (lc [b] [a, c] (3, num 1, var 0) [(2, var 0, .sub (var 1) (var 2)), (0, .add (var 2) (num 1), var 1)] [1, -1, 1] rfl h0 h1 : ((1 : Nat) ≤ a)) : (((a - (1 : Nat)) + (1 : Nat)) = a))),
    (fun {a : Int} {b : Int} {c : Int} {d : Int} (h0 : (a ≤ b)) (h1 : (b = (c + d))) (h2 : (d < a)) (h3 : (c ≤ (0 : Int))) => lc [a, b, c, d] [] (8, num 0, num 0) [(0, var 1, var 3), (2, var 3, .add (var 5) (var 7)), (1, var 7, var 1), (0, var 5, num 0)] [0, 1, 1, 1, 1] rfl h0 h1 h2 h3),
    (fun {a : Int} {b : Int} {c : Int} {d : Int} (h0 : (b < ((2 : Int) ^ (6 : Nat)))) (h1 : (b = (c + d))) (h2 : ((0 : Int) ≤ d)) (h3 : (((1 : Int) * a) ≤ c)) => lc [b, c, d, a] [] (1, var 7, num ((2 : Int) ^ (6 : Nat))) [(1, var 1, num ((2 : Int) ^ (6 : Nat))), (2, var 1, .add (var 3) (var 5)), (0, num 0, var 5), (0, .mulL 1 (var 7), var 3)] [1, 1, -1, 1, 1] rfl h0 h1 h2 h3),
    (fun {a : Nat} (h0 : (a ≤ (3 : Nat))) => lc [] [a] (3, var 0, num 100000) [(3, var 0, num 3)] [1, 1] rfl h0),
    (fun {a : Int} {b : Int} {c : Int} (h0 : (a = (b + c))) => h0),
    (fun {a : Int} {b : Int} (h0 : (a < b)) (h1 : (b < ((2 : Int) ^ (6 : Nat)))) => lc [a, b] [] (1, var 1, num ((2 : Int) ^ (6 : Nat))) [(1, var 1, var 3), (1, var 3, num ((2 : Int) ^ (6 : Nat)))] [1, 1, 1] rfl h0 h1),
    (fun {a : Nat} {b : Nat} (h0 : (a ≤ (6 : Nat))) => lc [] [a, b] (0, .sub (var 0) (var 2), num 4000) [(3, var 0, num 6)] [1, 1] rfl h0),
    (fun {a : Nat} {b : Nat} {c : Nat} {d : Nat} {e : Nat} (h0 : (c ≤ b)) (h1 : ((d + e) = c)) (h2 : (a = e)) => lc [] [c, b, d, e, a] (3, var 8, var 2) [(3, var 0, var 2), (5, .add (var 4) (var 6), var 0), (5, var 8, var 6)] [1, 1, 1, 1] rfl h0 h1 h2),
    (fun {a : Nat} {b : Nat} {c : Nat} (h0 : ((a + b) = c)) (h1 : (b < c)) => lc [] [a, (a - (1 : Nat))] (4, var 2, var 0) [(5, .add (var 2) (num 1), var 0)] [1, 1] rfl (Nat.sub_add_cancel (lc [] [a, b, c] (3, num 1, var 0) [(5, .add (var 0) (var 2), var 4), (4, var 2, var 4)] [1, -1, 1] rfl h0 h1 : ((1 : Nat) ≤ a)) : (((a - (1 : Nat)) + (1 : Nat)) = a)))⟩
theorem omG29 : (∀ {a : Nat} {b : Nat} {c : Nat} (h0 : ((a + b) = c)) (h1 : (b < c)), (((a - (1 : Nat)) + (b + (1 : Nat))) = c)) ∧
    (∀ {a : Nat} {b : Nat} {c : Nat} {d : Nat} (h0 : ((c + d) = b)) (h1 : (a = d)) (h2 : (b ≤ d)), (a = b)) ∧
    (∀ {a : Nat} {b : Nat} (h0 : ((a - (1 : Nat)) ≤ b)), (a ≤ (b + (1 : Nat)))) ∧
    (∀ {a : Nat} {b : Nat} (h0 : (a < (b + (1 : Nat)))) (h1 : (a ≠ b)), (a < b)) ∧
    (∀ {a : Nat} {b : Nat} (h0 : (a ≤ b)), (a ≤ (b + (1 : Nat)))) ∧
    (∀ {a : Int} {b : Int} {c : Int} (h0 : (a ≠ b)) (h1 : ((Int.toNat a) = (Int.toNat b))) (h2 : (((0 : Int) ≤ a) ∧ (a < c))) (h3 : (((0 : Int) ≤ b) ∧ (b < c))), False) ∧
    (∀ {a : Int} {b : Int} (h0 : (((0 : Int) ≤ a) ∧ (a < b))), ((Int.toNat a) < (Int.toNat b))) ∧
    (∀ {a : Nat} {b : Int} {c : Int} (h0 : (((0 : Int) ≤ c) ∧ (c < b))) (h1 : (a ≤ (Int.toNat b))), ((Nat.cast a : Int) ≤ b)) ∧
    (∀ {a : Nat} {b : Nat} (h0 : (a ≤ b)), (a < (b + (1 : Nat)))) ∧
    (∀ {a : Nat} {b : Nat} (h0 : (a < (b + (1 : Nat)))) (h1 : (¬(a < b))), (a = b)) ∧
    (∀ {a : Nat} (h0 : ((Nat.cast a : Int) < (64 : Int))), (a < (64 : Nat))) ∧
    (∀ {a : Nat} (h0 : (a ≤ (1 : Nat))), (a ≤ (64 : Nat))) :=
  ⟨(fun {a : Nat} {b : Nat} {c : Nat} (h0 : ((a + b) = c)) (h1 : (b < c)) => ln [] [a, b, c, (a - (1 : Nat))] (.add (var 6) (.add (var 2) (num 1))) (var 4) [(5, .add (var 0) (var 2), var 4), (5, .add (var 6) (num 1), var 0)] [1, -1, -1] [1, 1, 1] rfl h0 (Nat.sub_add_cancel (lc [] [a, b, c] (3, num 1, var 0) [(5, .add (var 0) (var 2), var 4), (4, var 2, var 4)] [1, -1, 1] rfl h0 h1 : ((1 : Nat) ≤ a)) : (((a - (1 : Nat)) + (1 : Nat)) = a))),
    (fun {a : Nat} {b : Nat} {c : Nat} {d : Nat} (h0 : ((c + d) = b)) (h1 : (a = d)) (h2 : (b ≤ d)) => ln [] [c, d, b, a] (var 6) (var 4) [(5, .add (var 0) (var 2), var 4), (5, var 6, var 2), (3, var 4, var 2)] [1, 0, -1, 1] [1, 1, 1, 0] rfl h0 h1 h2),
    (fun {a : Nat} {b : Nat} (h0 : ((a - (1 : Nat)) ≤ b)) => lc [] [(a - (1 : Nat)), b, a] (3, var 4, .add (var 2) (num 1)) [(3, var 0, var 2), (3, var 4, .add (var 0) (num 1))] [1, 1, 1] rfl h0 (Nat.le_add_of_sub_le (Nat.le_refl (a - (1 : Nat))) : (a ≤ ((a - (1 : Nat)) + (1 : Nat))))),
    (fun {a : Nat} {b : Nat} (h0 : (a < (b + (1 : Nat)))) (h1 : (a ≠ b)) => (Nat.lt_or_gt_of_ne h1).elim (fun q0 => lc [] [a, b] (4, var 0, var 2) [(4, var 0, var 2)] [1, 1] rfl q0) (fun q0 => lc [] [a, b] (4, var 0, var 2) [(4, var 0, .add (var 2) (num 1)), (4, var 2, var 0)] [0, 1, 1] rfl h0 q0)),
    (fun {a : Nat} {b : Nat} (h0 : (a ≤ b)) => lc [] [a, b] (3, var 0, .add (var 2) (num 1)) [(3, var 0, var 2)] [1, 1] rfl h0),
    (fun {a : Int} {b : Int} {c : Int} (h0 : (a ≠ b)) (h1 : ((Int.toNat a) = (Int.toNat b))) (h2 : (((0 : Int) ≤ a) ∧ (a < c))) (h3 : (((0 : Int) ≤ b) ∧ (b < c))) => (Int.lt_or_gt_of_ne h0).elim (fun q0 => lc [a, b] [(Int.toNat a), (Int.toNat b)] (8, num 0, num 0) [(5, var 0, var 2), (1, var 1, var 3), (2, var 0, var 1), (2, var 2, var 3)] [0, -1, 1, 1, -1] rfl h1 q0 (Int.toNat_of_nonneg (lc [a] [] (0, num 0, var 1) [(0, num 0, var 1)] [1, 1] rfl h2.1 : ((0 : Int) ≤ a)) : ((Nat.cast (Int.toNat a) : Int) = a)) (Int.toNat_of_nonneg (lc [b] [] (0, num 0, var 1) [(0, num 0, var 1)] [1, 1] rfl h3.1 : ((0 : Int) ≤ b)) : ((Nat.cast (Int.toNat b) : Int) = b))) (fun q0 => lc [a, b] [(Int.toNat a), (Int.toNat b)] (8, num 0, num 0) [(5, var 0, var 2), (1, var 3, var 1), (2, var 0, var 1), (2, var 2, var 3)] [0, 1, 1, -1, 1] rfl h1 q0 (Int.toNat_of_nonneg (lc [a] [] (0, num 0, var 1) [(0, num 0, var 1)] [1, 1] rfl h2.1 : ((0 : Int) ≤ a)) : ((Nat.cast (Int.toNat a) : Int) = a)) (Int.toNat_of_nonneg (lc [b] [] (0, num 0, var 1) [(0, num 0, var 1)] [1, 1] rfl h3.1 : ((0 : Int) ≤ b)) : ((Nat.cast (Int.toNat b) : Int) = b)))),
    (fun {a : Int} {b : Int} (h0 : (((0 : Int) ≤ a) ∧ (a < b))) => lc [a, b] [(Int.toNat a), (Int.toNat b)] (4, var 0, var 2) [(1, var 1, var 3), (2, var 0, var 1), (2, var 2, var 3)] [1, 1, 1, -1] rfl h0.2 (Int.toNat_of_nonneg (lc [a] [] (0, num 0, var 1) [(0, num 0, var 1)] [1, 1] rfl h0.1 : ((0 : Int) ≤ a)) : ((Nat.cast (Int.toNat a) : Int) = a)) (Int.toNat_of_nonneg (lc [a, b] [] (0, num 0, var 3) [(0, num 0, var 1), (1, var 1, var 3)] [1, 1, 1] rfl h0.1 h0.2 : ((0 : Int) ≤ b)) : ((Nat.cast (Int.toNat b) : Int) = b))),
    (fun {a : Nat} {b : Int} {c : Int} (h0 : (((0 : Int) ≤ c) ∧ (c < b))) (h1 : (a ≤ (Int.toNat b))) => lc [b] [a, (Int.toNat b)] (0, var 0, var 1) [(3, var 0, var 2), (2, var 2, var 1)] [1, 1, 1] rfl h1 (Int.toNat_of_nonneg (lc [c, b] [] (0, num 0, var 3) [(0, num 0, var 1), (1, var 1, var 3)] [1, 1, 1] rfl h0.1 h0.2 : ((0 : Int) ≤ b)) : ((Nat.cast (Int.toNat b) : Int) = b))),
    (fun {a : Nat} {b : Nat} (h0 : (a ≤ b)) => lc [] [a, b] (4, var 0, .add (var 2) (num 1)) [(3, var 0, var 2)] [1, 1] rfl h0),
    (fun {a : Nat} {b : Nat} (h0 : (a < (b + (1 : Nat)))) (h1 : (¬(a < b))) => ln [] [a, b] (var 0) (var 2) [(4, var 0, .add (var 2) (num 1)), (3, var 2, var 0)] [1, 0, 1] [1, 1, 0] rfl h0 (Nat.not_lt.mp h1)),
    (fun {a : Nat} (h0 : ((Nat.cast a : Int) < (64 : Int))) => lc [] [a] (4, var 0, num 64) [(1, var 0, num 64)] [1, 1] rfl h0),
    (fun {a : Nat} (h0 : (a ≤ (1 : Nat))) => lc [] [a] (3, var 0, num 64) [(3, var 0, num 1)] [1, 1] rfl h0)⟩
theorem omG30 : (∀ {a : Nat} {b : Nat} {c : Nat} {d : Nat} {e : Nat} {f : Nat} (h0 : (e ≤ (2 : Nat))) (h1 : (a ≤ (8 : Nat))) (h2 : ((b ≤ (1 : Nat)) ∧ (c ≤ (2 : Nat)))) (h3 : (d ≤ (1 : Nat))) (h4 : (f ≤ (4 : Nat))), (((a + (b + (c + ((d + e) + (((1 : Nat) + f) + (0 : Nat)))))) + (((((((0 : Nat) + (1 : Nat)) + (1 : Nat)) + (1 : Nat)) + (1 : Nat)) + (1 : Nat)) * (64 : Nat))) ≤ (16777216 : Nat))) ∧
    (∀ {a : Int} (h0 : ((0 : Int) ≤ a)), ((-((2 : Int) ^ (1920 : Nat))) < a)) ∧
    (∀ {a : Int} (h0 : (a < (64 : Int))), (a < ((2 : Int) ^ (1920 : Nat)))) ∧
    (∀ {a : Int} (h0 : (a < (64 : Int))), (a < ((10 : Int) ^ (10 : Nat)))) ∧
    (∀ {a : Int} (h0 : ((0 : Int) ≤ a)) (h1 : (a < (3 : Int))), ((a = (0 : Int)) ∨ ((a = (1 : Int)) ∨ (a = (2 : Int))))) ∧
    (∀ {a : Int} (h0 : ((0 : Int) ≤ a)), ((-(9223372036854775808 : Int)) < (a + (1 : Int)))) ∧
    (∀ {a : Int} {b : Nat} {c : Int} (h0 : (b ≤ (64 : Nat))) (h1 : ((a + (2 : Int)) ≤ c)) (h2 : (c < (Nat.cast b : Int))), ((a + (1 : Int)) < (9223372036854775808 : Int))) ∧
    (∀ {a : Int} {b : Int} (h0 : ((0 : Int) ≤ b)) (h1 : ((b + (2 : Int)) ≤ a)), ((-(9223372036854775808 : Int)) < (a - (1 : Int)))) ∧
    (∀ {a : Int} {b : Nat} (h0 : (b ≤ (64 : Nat))) (h1 : (a < (Nat.cast b : Int))), ((a - (1 : Int)) < (9223372036854775808 : Int))) ∧
    (∀ {a : Int} (h0 : ((0 : Int) ≤ a)), (¬(a < (0 : Int)))) ∧
    (∀ {a : Int} {b : Int} (h0 : ((0 : Int) ≤ b)) (h1 : ((b + (2 : Int)) ≤ a)), (¬(a < (0 : Int)))) ∧
    (∀ {a : Nat} {b : Int} (h0 : ((0 : Int) ≤ b)), ((-(Nat.cast a : Int)) ≤ (b + (1 : Int)))) :=
  ⟨(fun {a : Nat} {b : Nat} {c : Nat} {d : Nat} {e : Nat} {f : Nat} (h0 : (e ≤ (2 : Nat))) (h1 : (a ≤ (8 : Nat))) (h2 : ((b ≤ (1 : Nat)) ∧ (c ≤ (2 : Nat)))) (h3 : (d ≤ (1 : Nat))) (h4 : (f ≤ (4 : Nat))) => lc [] [e, a, b, c, d, f] (3, .add (.add (var 2) (.add (var 4) (.add (var 6) (.add (.add (var 8) (var 0)) (.add (.add (num 1) (var 10)) (num 0)))))) (.mulL (Nat.cast ((((((0 : Nat) + (1 : Nat)) + (1 : Nat)) + (1 : Nat)) + (1 : Nat)) + (1 : Nat))) (num 64)), num 16777216) [(3, var 0, num 2), (3, var 2, num 8), (3, var 4, num 1), (3, var 6, num 2), (3, var 8, num 1), (3, var 10, num 4)] [1, 1, 1, 1, 1, 1, 1] rfl h0 h1 h2.1 h2.2 h3 h4),
    (fun {a : Int} (h0 : ((0 : Int) ≤ a)) => by first | lia | omega),
    (fun {a : Int} (h0 : (a < (64 : Int))) => by first | lia | omega),
    (fun {a : Int} (h0 : (a < (64 : Int))) => lc [a] [] (1, var 1, num ((10 : Int) ^ (10 : Nat))) [(1, var 1, num 64)] [1, 1] rfl h0),
    (fun {a : Int} (h0 : ((0 : Int) ≤ a)) (h1 : (a < (3 : Int))) => (Decidable.em (a = (0 : Int))).elim Or.inl fun q0 => Or.inr ((Decidable.em (a = (1 : Int))).elim Or.inl fun q1 => Or.inr ((Int.lt_or_gt_of_ne q0).elim (fun q2 => lq [a] [] (var 1) (num 2) [(0, num 0, var 1), (1, var 1, num 3), (1, var 1, num 0)] [0, 1, 0, 1] [1, 0, 1, 0] rfl h0 h1 q2) (fun q2 => (Int.lt_or_gt_of_ne q1).elim (fun q3 => lq [a] [] (var 1) (num 2) [(1, var 1, num 3), (1, num 0, var 1), (1, var 1, num 1)] [0, 0, 1, 1] [1, 1, 0, 0] rfl h1 q2 q3) (fun q3 => lq [a] [] (var 1) (num 2) [(1, var 1, num 3), (1, num 1, var 1)] [1, 0, 1] [1, 1, 0] rfl h1 q3))))),
    (fun {a : Int} (h0 : ((0 : Int) ≤ a)) => lc [a] [] (1, .neg (num 9223372036854775808), .add (var 1) (num 1)) [(0, num 0, var 1)] [1, 1] rfl h0),
    (fun {a : Int} {b : Nat} {c : Int} (h0 : (b ≤ (64 : Nat))) (h1 : ((a + (2 : Int)) ≤ c)) (h2 : (c < (Nat.cast b : Int))) => lc [a, c] [b] (1, .add (var 1) (num 1), num 9223372036854775808) [(3, var 0, num 64), (0, .add (var 1) (num 2), var 3), (1, var 3, var 0)] [1, 1, 1, 1] rfl h0 h1 h2),
    (fun {a : Int} {b : Int} (h0 : ((0 : Int) ≤ b)) (h1 : ((b + (2 : Int)) ≤ a)) => lc [b, a] [] (1, .neg (num 9223372036854775808), .sub (var 3) (num 1)) [(0, num 0, var 1), (0, .add (var 1) (num 2), var 3)] [1, 1, 1] rfl h0 h1),
    (fun {a : Int} {b : Nat} (h0 : (b ≤ (64 : Nat))) (h1 : (a < (Nat.cast b : Int))) => lc [a] [b] (1, .sub (var 1) (num 1), num 9223372036854775808) [(3, var 0, num 64), (1, var 1, var 0)] [1, 1, 1] rfl h0 h1),
    (fun {a : Int} (h0 : ((0 : Int) ≤ a)) => Int.not_lt.mpr (lc [a] [] (0, num 0, var 1) [(0, num 0, var 1)] [1, 1] rfl h0)),
    (fun {a : Int} {b : Int} (h0 : ((0 : Int) ≤ b)) (h1 : ((b + (2 : Int)) ≤ a)) => Int.not_lt.mpr (lc [b, a] [] (0, num 0, var 3) [(0, num 0, var 1), (0, .add (var 1) (num 2), var 3)] [1, 1, 1] rfl h0 h1)),
    (fun {a : Nat} {b : Int} (h0 : ((0 : Int) ≤ b)) => lc [b] [a] (0, .neg (var 0), .add (var 1) (num 1)) [(0, num 0, var 1)] [1, 1] rfl h0)⟩
theorem omG31 : (∀ {a : Int} {b : Nat} {c : Int} (h0 : ((a + (2 : Int)) ≤ c)) (h1 : (c < (Nat.cast b : Int))), ((a + (1 : Int)) < (Nat.cast b : Int))) ∧
    (∀ {a : Nat} {b : Int} {c : Int} (h0 : ((0 : Int) ≤ c)) (h1 : ((c + (2 : Int)) ≤ b)), ((-(Nat.cast a : Int)) ≤ (b - (1 : Int)))) ∧
    (∀ {a : Int} {b : Nat} (h0 : (a < (Nat.cast b : Int))), ((a - (1 : Int)) < (Nat.cast b : Int))) ∧
    (∀ {a : Nat} {b : Nat} {c : Nat}, ((a + (b + (c + (1 : Nat)))) = (((a + b) + (1 : Nat)) + c))) ∧
    (∀ {a : Nat}, (¬((Nat.cast a : Int) < (0 : Int)))) ∧
    (∀ {a : Nat}, ((Int.toNat (max (0 : Int) (Nat.cast a : Int))) = a)) ∧
    (∀ {a : Nat} {b : Nat} {c : Nat} (h0 : (b ≤ a)) (h1 : (a < (b + c))), ((a - b) < c)) ∧
    (∀ {a : Nat} {b : Nat} {c : Nat} (h0 : (a = b)), (a ≤ (b + c))) ∧
    (∀ {a : Nat} {b : Nat} {c : Nat} {d : Nat} (h0 : (c = (((a + b) + (1 : Nat)) + d))), ((a + b) < c)) ∧
    (∀ {a : Nat} {b : Nat}, (a ≤ (a + b))) ∧
    (∀ {a : Nat} {b : Nat} {c : Nat} {d : Nat} (h0 : (d = (b + c))) (h1 : (b ≤ a)) (h2 : (a < d)), ((a - b) < c)) ∧
    (∀ {a : Int} {b : Int} {c : Nat} {d : Nat} (h0 : (a = (Nat.cast c : Int))) (h1 : (b = (Nat.cast (c + d) : Int))), (a ≤ b)) :=
  ⟨(fun {a : Int} {b : Nat} {c : Int} (h0 : ((a + (2 : Int)) ≤ c)) (h1 : (c < (Nat.cast b : Int))) => lc [a, c] [b] (1, .add (var 1) (num 1), var 0) [(0, .add (var 1) (num 2), var 3), (1, var 3, var 0)] [1, 1, 1] rfl h0 h1),
    (fun {a : Nat} {b : Int} {c : Int} (h0 : ((0 : Int) ≤ c)) (h1 : ((c + (2 : Int)) ≤ b)) => lc [c, b] [a] (0, .neg (var 0), .sub (var 3) (num 1)) [(0, num 0, var 1), (0, .add (var 1) (num 2), var 3)] [1, 1, 1] rfl h0 h1),
    (fun {a : Int} {b : Nat} (h0 : (a < (Nat.cast b : Int))) => lc [a] [b] (1, .sub (var 1) (num 1), var 0) [(1, var 1, var 0)] [1, 1] rfl h0),
    (fun {a : Nat} {b : Nat} {c : Nat} => ln [] [a, b, c] (.add (var 0) (.add (var 2) (.add (var 4) (num 1)))) (.add (.add (.add (var 0) (var 2)) (num 1)) (var 4)) [] [1] [1] rfl),
    (fun {a : Nat} => Int.not_lt.mpr (lc [] [a] (0, num 0, var 0) [] [1] rfl)),
    (fun {a : Nat} => ln [(max (0 : Int) (Nat.cast a : Int))] [a, (Int.toNat (max (0 : Int) (Nat.cast a : Int)))] (var 2) (var 0) [(2, var 1, var 0), (2, var 2, var 1)] [1, -1, -1] [1, 1, 1] rfl (Int.max_eq_right (lc [] [a] (0, num 0, var 0) [] [1] rfl : ((0 : Int) ≤ (Nat.cast a : Int))) : ((max (0 : Int) (Nat.cast a : Int)) = (Nat.cast a : Int))) (Int.toNat_of_nonneg (lc [(max (0 : Int) (Nat.cast a : Int))] [a] (0, num 0, var 1) [(2, var 1, var 0)] [1, -1] rfl (Int.max_eq_right (lc [] [a] (0, num 0, var 0) [] [1] rfl : ((0 : Int) ≤ (Nat.cast a : Int))) : ((max (0 : Int) (Nat.cast a : Int)) = (Nat.cast a : Int))) : ((0 : Int) ≤ (max (0 : Int) (Nat.cast a : Int)))) : ((Nat.cast (Int.toNat (max (0 : Int) (Nat.cast a : Int))) : Int) = (max (0 : Int) (Nat.cast a : Int))))),
    (fun {a : Nat} {b : Nat} {c : Nat} (h0 : (b ≤ a)) (h1 : (a < (b + c))) => lc [] [b, a, c, (a - b)] (4, var 6, var 4) [(4, var 2, .add (var 0) (var 4)), (5, .add (var 6) (var 0), var 2)] [1, 1, 1] rfl h1 (Nat.sub_add_cancel (lc [] [b, a] (3, var 0, var 2) [(3, var 0, var 2)] [1, 1] rfl h0 : (b ≤ a)) : (((a - b) + b) = a))),
    (fun {a : Nat} {b : Nat} {c : Nat} (h0 : (a = b)) => lc [] [a, b, c] (3, var 0, .add (var 2) (var 4)) [(5, var 0, var 2)] [1, 1] rfl h0),
    (fun {a : Nat} {b : Nat} {c : Nat} {d : Nat} (h0 : (c = (((a + b) + (1 : Nat)) + d))) => lc [] [c, a, b, d] (4, .add (var 2) (var 4), var 0) [(5, var 0, .add (.add (.add (var 2) (var 4)) (num 1)) (var 6))] [1, -1] rfl h0),
    (fun {a : Nat} {b : Nat} => lc [] [a, b] (3, var 0, .add (var 0) (var 2)) [] [1] rfl),
    (fun {a : Nat} {b : Nat} {c : Nat} {d : Nat} (h0 : (d = (b + c))) (h1 : (b ≤ a)) (h2 : (a < d)) => lc [] [d, b, c, a, (a - b)] (4, var 8, var 4) [(5, var 0, .add (var 2) (var 4)), (4, var 6, var 0), (5, .add (var 8) (var 2), var 6)] [1, 1, 1, 1] rfl h0 h2 (Nat.sub_add_cancel (lc [] [b, a] (3, var 0, var 2) [(3, var 0, var 2)] [1, 1] rfl h1 : (b ≤ a)) : (((a - b) + b) = a))),
    (fun {a : Int} {b : Int} {c : Nat} {d : Nat} (h0 : (a = (Nat.cast c : Int))) (h1 : (b = (Nat.cast (c + d) : Int))) => lc [a, b] [c, d] (0, var 1, var 3) [(2, var 1, var 0), (2, var 3, .add (var 0) (var 2))] [1, 1, -1] rfl h0 h1)⟩
theorem omG32 : (∀ {a : Int} {b : Nat} {c : Nat} {d : Nat} {e : Nat} (h0 : (a = (Nat.cast (c + d) : Int))) (h1 : (b = ((c + d) + e))), (a ≤ (Nat.cast b : Int))) ∧
    (∀ {a : Nat} {b : Nat}, ((Int.toNat ((Nat.cast (a + b) : Int) - (Nat.cast a : Int))) = b)) ∧
    (∀ {a : Int} {b : Nat} {c : Nat} {d : Nat} (h0 : (a = (Nat.cast c : Int))) (h1 : (b = (c + d))), (a ≤ (Nat.cast b : Int))) ∧
    (∀ {a : Nat}, ((Int.toNat ((Nat.cast a : Int) - (0 : Int))) = a)) ∧
    (∀ {a : Nat} (h0 : (((a = (32 : Nat)) ∨ (a = (43 : Nat))) ∨ (((48 : Nat) ≤ a) ∧ (a ≤ (57 : Nat))))), ((a = (32 : Nat)) ∨ ((a = (43 : Nat)) ∨ (((48 : Nat) ≤ a) ∧ (a ≤ (57 : Nat)))))) ∧
    (∀ {a : Nat} (h0 : ((a = (124 : Nat)) ∨ ((a = (33 : Nat)) ∨ ((a = (46 : Nat)) ∨ (a = (120 : Nat)))))), (a ≠ (40 : Nat))) ∧
    (∀ {a : Nat} (h0 : ((a = (124 : Nat)) ∨ ((a = (33 : Nat)) ∨ ((a = (46 : Nat)) ∨ (a = (120 : Nat)))))), (a ≠ (41 : Nat))) ∧
    (∀ {a : Nat} (h0 : ((a = (124 : Nat)) ∨ ((a = (33 : Nat)) ∨ ((a = (46 : Nat)) ∨ (a = (120 : Nat)))))), (¬(a = (49 : Nat)))) ∧
    (∀ {a : Nat} (h0 : ((a = (124 : Nat)) ∨ ((a = (33 : Nat)) ∨ ((a = (46 : Nat)) ∨ (a = (120 : Nat)))))), (¬(a = (40 : Nat)))) ∧
    (∀ {a : Nat} (h0 : ((a = (124 : Nat)) ∨ ((a = (33 : Nat)) ∨ ((a = (46 : Nat)) ∨ (a = (120 : Nat)))))), (¬(a = (50 : Nat)))) ∧
    (∀ {a : Nat} (h0 : ((a = (124 : Nat)) ∨ ((a = (33 : Nat)) ∨ ((a = (46 : Nat)) ∨ (a = (120 : Nat)))))), (¬(a = (104 : Nat)))) ∧
    (∀ {a : Nat} (h0 : ((a = (124 : Nat)) ∨ ((a = (33 : Nat)) ∨ ((a = (46 : Nat)) ∨ (a = (120 : Nat)))))), (¬(a = (32 : Nat)))) :=
  ⟨(fun {a : Int} {b : Nat} {c : Nat} {d : Nat} {e : Nat} (h0 : (a = (Nat.cast (c + d) : Int))) (h1 : (b = ((c + d) + e))) => lc [a] [c, d, b, e] (0, var 1, var 4) [(2, var 1, .add (var 0) (var 2)), (5, var 4, .add (.add (var 0) (var 2)) (var 6))] [1, 1, -1] rfl h0 h1),
    (fun {a : Nat} {b : Nat} => ln [] [(Int.toNat ((Nat.cast (a + b) : Int) - (Nat.cast a : Int))), a, b] (var 0) (var 4) [(2, var 0, .sub (.add (var 2) (var 4)) (var 2))] [1, -1] [1, 1] rfl (Int.toNat_of_nonneg (lc [] [a, b] (0, num 0, .sub (.add (var 0) (var 2)) (var 0)) [] [1] rfl : ((0 : Int) ≤ ((Nat.cast (a + b) : Int) - (Nat.cast a : Int)))) : ((Nat.cast (Int.toNat ((Nat.cast (a + b) : Int) - (Nat.cast a : Int))) : Int) = ((Nat.cast (a + b) : Int) - (Nat.cast a : Int))))),
    (fun {a : Int} {b : Nat} {c : Nat} {d : Nat} (h0 : (a = (Nat.cast c : Int))) (h1 : (b = (c + d))) => lc [a] [c, b, d] (0, var 1, var 2) [(2, var 1, var 0), (5, var 2, .add (var 0) (var 4))] [1, 1, -1] rfl h0 h1),
    (fun {a : Nat} => ln [] [(Int.toNat ((Nat.cast a : Int) - (0 : Int))), a] (var 0) (var 2) [(2, var 0, .sub (var 2) (num 0))] [1, -1] [1, 1] rfl (Int.toNat_of_nonneg (lc [] [a] (0, num 0, .sub (var 0) (num 0)) [] [1] rfl : ((0 : Int) ≤ ((Nat.cast a : Int) - (0 : Int)))) : ((Nat.cast (Int.toNat ((Nat.cast a : Int) - (0 : Int))) : Int) = ((Nat.cast a : Int) - (0 : Int))))),
    (fun {a : Nat} (h0 : (((a = (32 : Nat)) ∨ (a = (43 : Nat))) ∨ (((48 : Nat) ≤ a) ∧ (a ≤ (57 : Nat))))) => h0.elim (fun q0 => q0.elim (fun q1 => Or.inl (ln [] [a] (var 0) (num 32) [(5, var 0, num 32)] [1, -1] [1, 1] rfl q1)) (fun q1 => Or.inr (Or.inl (ln [] [a] (var 0) (num 43) [(5, var 0, num 43)] [1, -1] [1, 1] rfl q1)))) (fun q0 => Or.inr (Or.inr (⟨lc [] [a] (3, num 48, var 0) [(3, num 48, var 0)] [1, 1] rfl q0.1, lc [] [a] (3, var 0, num 57) [(3, var 0, num 57)] [1, 1] rfl q0.2⟩)))),
    (fun {a : Nat} (h0 : ((a = (124 : Nat)) ∨ ((a = (33 : Nat)) ∨ ((a = (46 : Nat)) ∨ (a = (120 : Nat)))))) => h0.elim (fun q0 => lc [] [a] (7, var 0, num 40) [(5, var 0, num 124)] [-1, -1] rfl q0) (fun q0 => q0.elim (fun q1 => lc [] [a] (7, var 0, num 40) [(5, var 0, num 33)] [1, 1] rfl q1) (fun q1 => q1.elim (fun q2 => lc [] [a] (7, var 0, num 40) [(5, var 0, num 46)] [-1, -1] rfl q2) (fun q2 => lc [] [a] (7, var 0, num 40) [(5, var 0, num 120)] [-1, -1] rfl q2)))),
    (fun {a : Nat} (h0 : ((a = (124 : Nat)) ∨ ((a = (33 : Nat)) ∨ ((a = (46 : Nat)) ∨ (a = (120 : Nat)))))) => h0.elim (fun q0 => lc [] [a] (7, var 0, num 41) [(5, var 0, num 124)] [-1, -1] rfl q0) (fun q0 => q0.elim (fun q1 => lc [] [a] (7, var 0, num 41) [(5, var 0, num 33)] [1, 1] rfl q1) (fun q1 => q1.elim (fun q2 => lc [] [a] (7, var 0, num 41) [(5, var 0, num 46)] [-1, -1] rfl q2) (fun q2 => lc [] [a] (7, var 0, num 41) [(5, var 0, num 120)] [-1, -1] rfl q2)))),
    (fun {a : Nat} (h0 : ((a = (124 : Nat)) ∨ ((a = (33 : Nat)) ∨ ((a = (46 : Nat)) ∨ (a = (120 : Nat)))))) => h0.elim (fun q0 => lc [] [a] (7, var 0, num 49) [(5, var 0, num 124)] [-1, -1] rfl q0) (fun q0 => q0.elim (fun q1 => lc [] [a] (7, var 0, num 49) [(5, var 0, num 33)] [1, 1] rfl q1) (fun q1 => q1.elim (fun q2 => lc [] [a] (7, var 0, num 49) [(5, var 0, num 46)] [1, 1] rfl q2) (fun q2 => lc [] [a] (7, var 0, num 49) [(5, var 0, num 120)] [-1, -1] rfl q2)))),
    (fun {a : Nat} (h0 : ((a = (124 : Nat)) ∨ ((a = (33 : Nat)) ∨ ((a = (46 : Nat)) ∨ (a = (120 : Nat)))))) => h0.elim (fun q0 => lc [] [a] (7, var 0, num 40) [(5, var 0, num 124)] [-1, -1] rfl q0) (fun q0 => q0.elim (fun q1 => lc [] [a] (7, var 0, num 40) [(5, var 0, num 33)] [1, 1] rfl q1) (fun q1 => q1.elim (fun q2 => lc [] [a] (7, var 0, num 40) [(5, var 0, num 46)] [-1, -1] rfl q2) (fun q2 => lc [] [a] (7, var 0, num 40) [(5, var 0, num 120)] [-1, -1] rfl q2)))),
    (fun {a : Nat} (h0 : ((a = (124 : Nat)) ∨ ((a = (33 : Nat)) ∨ ((a = (46 : Nat)) ∨ (a = (120 : Nat)))))) => h0.elim (fun q0 => lc [] [a] (7, var 0, num 50) [(5, var 0, num 124)] [-1, -1] rfl q0) (fun q0 => q0.elim (fun q1 => lc [] [a] (7, var 0, num 50) [(5, var 0, num 33)] [1, 1] rfl q1) (fun q1 => q1.elim (fun q2 => lc [] [a] (7, var 0, num 50) [(5, var 0, num 46)] [1, 1] rfl q2) (fun q2 => lc [] [a] (7, var 0, num 50) [(5, var 0, num 120)] [-1, -1] rfl q2)))),
    (fun {a : Nat} (h0 : ((a = (124 : Nat)) ∨ ((a = (33 : Nat)) ∨ ((a = (46 : Nat)) ∨ (a = (120 : Nat)))))) => h0.elim (fun q0 => lc [] [a] (7, var 0, num 104) [(5, var 0, num 124)] [-1, -1] rfl q0) (fun q0 => q0.elim (fun q1 => lc [] [a] (7, var 0, num 104) [(5, var 0, num 33)] [1, 1] rfl q1) (fun q1 => q1.elim (fun q2 => lc [] [a] (7, var 0, num 104) [(5, var 0, num 46)] [1, 1] rfl q2) (fun q2 => lc [] [a] (7, var 0, num 104) [(5, var 0, num 120)] [-1, -1] rfl q2)))),
    (fun {a : Nat} (h0 : ((a = (124 : Nat)) ∨ ((a = (33 : Nat)) ∨ ((a = (46 : Nat)) ∨ (a = (120 : Nat)))))) => h0.elim (fun q0 => lc [] [a] (7, var 0, num 32) [(5, var 0, num 124)] [-1, -1] rfl q0) (fun q0 => q0.elim (fun q1 => lc [] [a] (7, var 0, num 32) [(5, var 0, num 33)] [-1, -1] rfl q1) (fun q1 => q1.elim (fun q2 => lc [] [a] (7, var 0, num 32) [(5, var 0, num 46)] [-1, -1] rfl q2) (fun q2 => lc [] [a] (7, var 0, num 32) [(5, var 0, num 120)] [-1, -1] rfl q2))))⟩
theorem omG33 : (∀ {a : Nat} (h0 : ((a = (124 : Nat)) ∨ ((a = (33 : Nat)) ∨ ((a = (46 : Nat)) ∨ (a = (120 : Nat)))))), ((¬(a = (45 : Nat))) ∧ (¬(a = (51 : Nat))))) ∧
    (∀ {a : Nat} (h0 : ((a = (124 : Nat)) ∨ ((a = (33 : Nat)) ∨ ((a = (46 : Nat)) ∨ (a = (120 : Nat)))))) (h1 : ((a = (32 : Nat)) ∨ ((a = (43 : Nat)) ∨ (((48 : Nat) ≤ a) ∧ (a ≤ (57 : Nat)))))), False) ∧
    (∀ (h0 : (((41 : Nat) = (32 : Nat)) ∨ (((41 : Nat) = (43 : Nat)) ∨ (((48 : Nat) ≤ (41 : Nat)) ∧ ((41 : Nat) ≤ (57 : Nat)))))), False) ∧
    (∀ {a : Nat} {b : Nat} {c : Nat}, ((a + ((b + ((c + (1 : Nat)) + (1 : Nat))) + (1 : Nat))) = (((a + b) + c) + (3 : Nat)))) ∧
    (∀ {a : Nat} {b : Nat} {c : Nat}, ((a + ((b + (c + (1 : Nat))) + (1 : Nat))) = ((((a + (1 : Nat)) + b) + (1 : Nat)) + c))) ∧
    (∀ {a : Nat} {b : Nat} {c : Nat} {d : Nat} {e : Nat} {f : Nat} {g : Nat} (h0 : (b ≤ (7 : Nat))) (h1 : (c ≤ (1 : Nat))) (h2 : (d ≤ (2 : Nat))) (h3 : (e ≤ (3 : Nat))) (h4 : (f ≤ (4 : Nat))) (h5 : (g = (((c + d) + e) + (4 : Nat)))) (h6 : (a = ((((b + (1 : Nat)) + g) + (1 : Nat)) + f))), (a ≤ (64 : Nat))) ∧
    (∀ {a : Nat} {b : Nat} {c : Nat} {d : Nat} {e : Nat} (h0 : (b = (((c + d) + e) + (4 : Nat)))), (((Nat.cast a : Int) + (2 : Int)) ≤ (Nat.cast ((a + (1 : Nat)) + b) : Int))) ∧
    (∀ {a : Nat} {b : Nat} {c : Nat} {d : Nat} (h0 : (c = ((((a + (1 : Nat)) + b) + (1 : Nat)) + d))), ((Nat.cast ((a + (1 : Nat)) + b) : Int) < (Nat.cast c : Int))) ∧
    (∀ {a : Nat} {b : Nat} {c : Nat} {d : Nat}, (((((Nat.cast a : Int) + (1 : Int)) + ((((Nat.cast b : Int) + (Nat.cast c : Int)) + (Nat.cast d : Int)) + (4 : Int))) - (1 : Int)) = ((Nat.cast a : Int) + ((((Nat.cast b : Int) + (((Nat.cast c : Int) + ((Nat.cast d : Int) + (1 : Int))) + (1 : Int))) + (1 : Int)) + (1 : Int))))) ∧
    (∀ {a : Nat} {b : Nat} {c : Nat} {d : Nat} (h0 : (b ≤ (1 : Nat))) (h1 : (c ≤ (2 : Nat))) (h2 : (d ≤ (3 : Nat))) (h3 : (a = (((b + c) + d) + (4 : Nat)))), (a ≤ (64 : Nat))) ∧
    (∀ {a : Nat} {b : Nat} {c : Nat} (h0 : (((a + b) + c) ≤ (70 : Nat))), ((a + ((b + (c + (1 : Nat))) + (1 : Nat))) ≤ (80 : Nat))) ∧
    (∀ {a : Nat} {b : Nat} {c : Nat}, ((((Nat.cast a : Int) + (1 : Int)) + (Nat.cast b : Int)) < ((Nat.cast a : Int) + (((Nat.cast b : Int) + ((Nat.cast c : Int) + (1 : Int))) + (1 : Int))))) :=
  ⟨(fun {a : Nat} (h0 : ((a = (124 : Nat)) ∨ ((a = (33 : Nat)) ∨ ((a = (46 : Nat)) ∨ (a = (120 : Nat)))))) => ⟨h0.elim (fun q0 => lc [] [a] (7, var 0, num 45) [(5, var 0, num 124)] [-1, -1] rfl q0) (fun q0 => q0.elim (fun q1 => lc [] [a] (7, var 0, num 45) [(5, var 0, num 33)] [1, 1] rfl q1) (fun q1 => q1.elim (fun q2 => lc [] [a] (7, var 0, num 45) [(5, var 0, num 46)] [-1, -1] rfl q2) (fun q2 => lc [] [a] (7, var 0, num 45) [(5, var 0, num 120)] [-1, -1] rfl q2))), h0.elim (fun q0 => lc [] [a] (7, var 0, num 51) [(5, var 0, num 124)] [-1, -1] rfl q0) (fun q0 => q0.elim (fun q1 => lc [] [a] (7, var 0, num 51) [(5, var 0, num 33)] [1, 1] rfl q1) (fun q1 => q1.elim (fun q2 => lc [] [a] (7, var 0, num 51) [(5, var 0, num 46)] [1, 1] rfl q2) (fun q2 => lc [] [a] (7, var 0, num 51) [(5, var 0, num 120)] [-1, -1] rfl q2)))⟩),
    (fun {a : Nat} (h0 : ((a = (124 : Nat)) ∨ ((a = (33 : Nat)) ∨ ((a = (46 : Nat)) ∨ (a = (120 : Nat)))))) (h1 : ((a = (32 : Nat)) ∨ ((a = (43 : Nat)) ∨ (((48 : Nat) ≤ a) ∧ (a ≤ (57 : Nat)))))) => h0.elim (fun q0 => h1.elim (fun q1 => lc [] [a] (8, num 0, num 0) [(5, var 0, num 124), (5, var 0, num 32)] [0, -1, 1] rfl q0 q1) (fun q1 => q1.elim (fun q2 => lc [] [a] (8, num 0, num 0) [(5, var 0, num 124), (5, var 0, num 43)] [0, -1, 1] rfl q0 q2) (fun q2 => lc [] [a] (8, num 0, num 0) [(5, var 0, num 124), (3, var 0, num 57)] [0, -1, 1] rfl q0 q2.2))) (fun q0 => h1.elim (fun q1 => q0.elim (fun q2 => lc [] [a] (8, num 0, num 0) [(5, var 0, num 32), (5, var 0, num 33)] [0, 1, -1] rfl q1 q2) (fun q2 => q2.elim (fun q3 => lc [] [a] (8, num 0, num 0) [(5, var 0, num 32), (5, var 0, num 46)] [0, 1, -1] rfl q1 q3) (fun q3 => lc [] [a] (8, num 0, num 0) [(5, var 0, num 32), (5, var 0, num 120)] [0, 1, -1] rfl q1 q3))) (fun q1 => q0.elim (fun q2 => q1.elim (fun q3 => lc [] [a] (8, num 0, num 0) [(5, var 0, num 33), (5, var 0, num 43)] [0, 1, -1] rfl q2 q3) (fun q3 => lc [] [a] (8, num 0, num 0) [(5, var 0, num 33), (3, num 48, var 0)] [0, 1, 1] rfl q2 q3.1)) (fun q2 => q1.elim (fun q3 => q2.elim (fun q4 => lc [] [a] (8, num 0, num 0) [(5, var 0, num 43), (5, var 0, num 46)] [0, 1, -1] rfl q3 q4) (fun q4 => lc [] [a] (8, num 0, num 0) [(5, var 0, num 43), (5, var 0, num 120)] [0, 1, -1] rfl q3 q4)) (fun q3 => q2.elim (fun q4 => lc [] [a] (8, num 0, num 0) [(3, num 48, var 0), (5, var 0, num 46)] [0, 1, 1] rfl q3.1 q4) (fun q4 => lc [] [a] (8, num 0, num 0) [(3, var 0, num 57), (5, var 0, num 120)] [0, 1, -1] rfl q3.2 q4)))))),
    (fun (h0 : (((41 : Nat) = (32 : Nat)) ∨ (((41 : Nat) = (43 : Nat)) ∨ (((48 : Nat) ≤ (41 : Nat)) ∧ ((41 : Nat) ≤ (57 : Nat)))))) => by first | lia | omega),
    (fun {a : Nat} {b : Nat} {c : Nat} => ln [] [a, b, c] (.add (var 0) (.add (.add (var 2) (.add (.add (var 4) (num 1)) (num 1))) (num 1))) (.add (.add (.add (var 0) (var 2)) (var 4)) (num 3)) [] [1] [1] rfl),
    (fun {a : Nat} {b : Nat} {c : Nat} => ln [] [a, b, c] (.add (var 0) (.add (.add (var 2) (.add (var 4) (num 1))) (num 1))) (.add (.add (.add (.add (var 0) (num 1)) (var 2)) (num 1)) (var 4)) [] [1] [1] rfl),
    (fun {a : Nat} {b : Nat} {c : Nat} {d : Nat} {e : Nat} {f : Nat} {g : Nat} (h0 : (b ≤ (7 : Nat))) (h1 : (c ≤ (1 : Nat))) (h2 : (d ≤ (2 : Nat))) (h3 : (e ≤ (3 : Nat))) (h4 : (f ≤ (4 : Nat))) (h5 : (g = (((c + d) + e) + (4 : Nat)))) (h6 : (a = ((((b + (1 : Nat)) + g) + (1 : Nat)) + f))) => lc [] [b, c, d, e, f, g, a] (3, var 12, num 64) [(3, var 0, num 7), (3, var 2, num 1), (3, var 4, num 2), (3, var 6, num 3), (3, var 8, num 4), (5, var 10, .add (.add (.add (var 2) (var 4)) (var 6)) (num 4)), (5, var 12, .add (.add (.add (.add (var 0) (num 1)) (var 10)) (num 1)) (var 8))] [1, 1, 1, 1, 1, 1, 1, 1] rfl h0 h1 h2 h3 h4 h5 h6),
    (fun {a : Nat} {b : Nat} {c : Nat} {d : Nat} {e : Nat} (h0 : (b = (((c + d) + e) + (4 : Nat)))) => lc [] [b, c, d, e, a] (0, .add (var 8) (num 2), .add (.add (var 8) (num 1)) (var 0)) [(5, var 0, .add (.add (.add (var 2) (var 4)) (var 6)) (num 4))] [1, -1] rfl h0),
    (fun {a : Nat} {b : Nat} {c : Nat} {d : Nat} (h0 : (c = ((((a + (1 : Nat)) + b) + (1 : Nat)) + d))) => lc [] [c, a, b, d] (1, .add (.add (var 2) (num 1)) (var 4), var 0) [(5, var 0, .add (.add (.add (.add (var 2) (num 1)) (var 4)) (num 1)) (var 6))] [1, -1] rfl h0),
    (fun {a : Nat} {b : Nat} {c : Nat} {d : Nat} => lq [] [a, b, c, d] (.sub (.add (.add (var 0) (num 1)) (.add (.add (.add (var 2) (var 4)) (var 6)) (num 4))) (num 1)) (.add (var 0) (.add (.add (.add (var 2) (.add (.add (var 4) (.add (var 6) (num 1))) (num 1))) (num 1)) (num 1))) [] [1] [1] rfl),
    (fun {a : Nat} {b : Nat} {c : Nat} {d : Nat} (h0 : (b ≤ (1 : Nat))) (h1 : (c ≤ (2 : Nat))) (h2 : (d ≤ (3 : Nat))) (h3 : (a = (((b + c) + d) + (4 : Nat)))) => lc [] [b, c, d, a] (3, var 6, num 64) [(3, var 0, num 1), (3, var 2, num 2), (3, var 4, num 3), (5, var 6, .add (.add (.add (var 0) (var 2)) (var 4)) (num 4))] [1, 1, 1, 1, 1] rfl h0 h1 h2 h3),
    (fun {a : Nat} {b : Nat} {c : Nat} (h0 : (((a + b) + c) ≤ (70 : Nat))) => lc [] [a, b, c] (3, .add (var 0) (.add (.add (var 2) (.add (var 4) (num 1))) (num 1)), num 80) [(3, .add (.add (var 0) (var 2)) (var 4), num 70)] [1, 1] rfl h0),
    (fun {a : Nat} {b : Nat} {c : Nat} => lc [] [a, b, c] (1, .add (.add (var 0) (num 1)) (var 2), .add (var 0) (.add (.add (var 2) (.add (var 4) (num 1))) (num 1))) [] [1] rfl)⟩
theorem omG34 : (∀ {a : Nat} {b : Nat}, (((((Nat.cast a : Int) + (1 : Int)) + ((Nat.cast b : Int) + (1 : Int))) - (1 : Int)) = ((Nat.cast a : Int) + ((Nat.cast b : Int) + (1 : Int))))) ∧
    (∀ {a : Nat} {b : Nat}, (((Nat.cast a : Int) + (2 : Int)) ≤ (((Nat.cast a : Int) + (1 : Int)) + ((Nat.cast b : Int) + (1 : Int))))) ∧
    (∀ {a : Nat} {b : Nat} {c : Nat} (h0 : (((b + a) + c) ≤ (70 : Nat))), (a ≤ (80 : Nat))) ∧
    (∀ {a : Nat} {b : Nat} (h0 : ((Nat.cast a : Int) = (Nat.cast b : Int))), (a = b)) ∧
    (∀ {a : Nat} {b : Nat} {c : Nat} (h0 : ((a + (1 : Nat)) < c)) (h1 : (b = c)), ((a + (2 : Nat)) ≤ b)) ∧
    (∀ {a : Nat} {b : Nat} {c : Nat}, (((a + (2 : Nat)) < (2 : Nat)) → (b ≤ (c + (a + (2 : Nat)))))) ∧
    (∀ {a : Nat}, (a ≤ (a + (1 : Nat)))) ∧
    (∀ {a : Nat} {b : Nat}, ((a + (b + (1 : Nat))) = ((a + (1 : Nat)) + b))) ∧
    (∀ {a : Nat} (h0 : ((a = (124 : Nat)) ∨ ((a = (33 : Nat)) ∨ ((a = (46 : Nat)) ∨ (a = (120 : Nat)))))), (a ≠ (35 : Nat))) ∧
    (∀ {a : Nat} (h0 : ((a = (124 : Nat)) ∨ ((a = (33 : Nat)) ∨ ((a = (46 : Nat)) ∨ (a = (120 : Nat)))))), (a < (1114112 : Nat))) ∧
    (∀ (h0 : (((40 : Nat) = (32 : Nat)) ∨ (((40 : Nat) = (43 : Nat)) ∨ (((48 : Nat) ≤ (40 : Nat)) ∧ ((40 : Nat) ≤ (57 : Nat)))))), False) ∧
    (∀ {a : Nat} (h0 : (a < (128 : Nat))), (a < (1114112 : Nat))) :=
  ⟨(fun {a : Nat} {b : Nat} => lq [] [a, b] (.sub (.add (.add (var 0) (num 1)) (.add (var 2) (num 1))) (num 1)) (.add (var 0) (.add (var 2) (num 1))) [] [1] [1] rfl),
    (fun {a : Nat} {b : Nat} => lc [] [a, b] (0, .add (var 0) (num 2), .add (.add (var 0) (num 1)) (.add (var 2) (num 1))) [] [1] rfl),
    (fun {a : Nat} {b : Nat} {c : Nat} (h0 : (((b + a) + c) ≤ (70 : Nat))) => lc [] [b, a, c] (3, var 2, num 80) [(3, .add (.add (var 0) (var 2)) (var 4), num 70)] [1, 1] rfl h0),
    (fun {a : Nat} {b : Nat} (h0 : ((Nat.cast a : Int) = (Nat.cast b : Int))) => ln [] [a, b] (var 0) (var 2) [(2, var 0, var 2)] [1, -1] [1, 1] rfl h0),
    (fun {a : Nat} {b : Nat} {c : Nat} (h0 : ((a + (1 : Nat)) < c)) (h1 : (b = c)) => lc [] [a, c, b] (3, .add (var 0) (num 2), var 4) [(4, .add (var 0) (num 1), var 2), (5, var 4, var 2)] [1, 1, -1] rfl h0 h1),
    (fun {a : Nat} {b : Nat} {c : Nat} => by first | lia | omega),
    (fun {a : Nat} => lc [] [a] (3, var 0, .add (var 0) (num 1)) [] [1] rfl),
    (fun {a : Nat} {b : Nat} => ln [] [a, b] (.add (var 0) (.add (var 2) (num 1))) (.add (.add (var 0) (num 1)) (var 2)) [] [1] [1] rfl),
    (fun {a : Nat} (h0 : ((a = (124 : Nat)) ∨ ((a = (33 : Nat)) ∨ ((a = (46 : Nat)) ∨ (a = (120 : Nat)))))) => h0.elim (fun q0 => lc [] [a] (7, var 0, num 35) [(5, var 0, num 124)] [-1, -1] rfl q0) (fun q0 => q0.elim (fun q1 => lc [] [a] (7, var 0, num 35) [(5, var 0, num 33)] [1, 1] rfl q1) (fun q1 => q1.elim (fun q2 => lc [] [a] (7, var 0, num 35) [(5, var 0, num 46)] [-1, -1] rfl q2) (fun q2 => lc [] [a] (7, var 0, num 35) [(5, var 0, num 120)] [-1, -1] rfl q2)))),
    (fun {a : Nat} (h0 : ((a = (124 : Nat)) ∨ ((a = (33 : Nat)) ∨ ((a = (46 : Nat)) ∨ (a = (120 : Nat)))))) => h0.elim (fun q0 => lc [] [a] (4, var 0, num 1114112) [(5, var 0, num 124)] [1, 1] rfl q0) (fun q0 => q0.elim (fun q1 => lc [] [a] (4, var 0, num 1114112) [(5, var 0, num 33)] [1, 1] rfl q1) (fun q1 => q1.elim (fun q2 => lc [] [a] (4, var 0, num 1114112) [(5, var 0, num 46)] [1, 1] rfl q2) (fun q2 => lc [] [a] (4, var 0, num 1114112) [(5, var 0, num 120)] [1, 1] rfl q2)))),
    (fun (h0 : (((40 : Nat) = (32 : Nat)) ∨ (((40 : Nat) = (43 : Nat)) ∨ (((48 : Nat) ≤ (40 : Nat)) ∧ ((40 : Nat) ≤ (57 : Nat)))))) => by first | lia | omega),
    (fun {a : Nat} (h0 : (a < (128 : Nat))) => lc [] [a] (4, var 0, num 1114112) [(4, var 0, num 128)] [1, 1] rfl h0)⟩
theorem omG35 : (∀ {a : Nat} {b : Nat} (h0 : ((b = (124 : Nat)) ∨ ((b = (33 : Nat)) ∨ ((b = (46 : Nat)) ∨ (b = (120 : Nat)))))) (h1 : (a = b)), (a < (1114112 : Nat))) ∧
    (∀ {a : Nat} (h0 : ((a = (32 : Nat)) ∨ ((a = (43 : Nat)) ∨ (((48 : Nat) ≤ a) ∧ (a ≤ (57 : Nat)))))), (a < (1114112 : Nat))) ∧
    (∀ {a : Nat} (h0 : (a = (41 : Nat))), (a < (1114112 : Nat))) ∧
    (∀ {a : Nat} {b : Nat} {c : Nat} {d : Nat} (h0 : ((a ≤ (1 : Nat)) ∧ ((b ≤ (2 : Nat)) ∧ ((c ≤ (3 : Nat)) ∧ (d ≤ (4 : Nat)))))), ((a + ((b + ((c + (1 : Nat)) + (1 : Nat))) + (1 : Nat))) ≤ (9 : Nat))) ∧
    (∀ {a : Nat} {b : Nat} {c : Nat} {d : Nat} {e : Nat} (h0 : ((b ≤ (1 : Nat)) ∧ ((c ≤ (2 : Nat)) ∧ ((d ≤ (3 : Nat)) ∧ (e ≤ (4 : Nat)))))) (h1 : (a ≤ (7 : Nat))), ((a + (((b + ((c + ((d + ((e + (1 : Nat)) + (1 : Nat))) + (1 : Nat))) + (1 : Nat))) + (1 : Nat)) + (1 : Nat))) ≤ (23 : Nat))) ∧
    (∀ {a : Nat} {b : Nat} {c : Nat} {d : Nat}, (((Nat.cast a : Int) + ((((Nat.cast b : Int) + (((Nat.cast c : Int) + ((Nat.cast d : Int) + (1 : Int))) + (1 : Int))) + (1 : Int)) + (1 : Int))) = (((((Nat.cast a : Int) + (4 : Int)) + (Nat.cast b : Int)) + (Nat.cast c : Int)) + (Nat.cast d : Int)))) ∧
    (∀ {a : Nat} {b : Nat} (h0 : ((a + (1 : Nat)) < b)), (a < b)) ∧
    (∀ {a : Nat} {b : Nat} (h0 : ((a + (1 : Nat)) = b)), (a < b)) ∧
    (∀ {a : Nat} {b : Nat} {c : Nat} {d : Nat} {e : Nat} (h0 : (a < (b + (((c + ((d + (e + (1 : Nat))) + (1 : Nat))) + (1 : Nat)) + (1 : Nat))))), ((a - b) < ((c + ((d + ((e + (1 : Nat)) + (1 : Nat))) + (1 : Nat))) + (1 : Nat)))) ∧
    (∀ {a : Nat} {b : Nat} (h0 : (¬((b + (1 : Nat)) < a))) (h1 : (¬((b + (1 : Nat)) = a))), (a ≤ b)) ∧
    (∀ {a : Nat} {b : Nat} {c : Nat} {d : Nat}, ((((((Nat.cast a : Int) + (5 : Int)) + (Nat.cast b : Int)) + (Nat.cast c : Int)) + (Nat.cast d : Int)) = ((Nat.cast a : Int) + ((((Nat.cast b : Int) + (((Nat.cast c : Int) + (((Nat.cast d : Int) + (1 : Int)) + (1 : Int))) + (1 : Int))) + (1 : Int)) + (1 : Int))))) ∧
    (∀ {a : Nat} {b : Nat} {c : Nat} {d : Nat} {e : Nat} (h0 : ((b ≤ (1 : Nat)) ∧ ((c ≤ (2 : Nat)) ∧ ((d ≤ (3 : Nat)) ∧ (e ≤ (4 : Nat)))))) (h1 : (a ≤ (7 : Nat))), ((a + (((b + ((c + ((d + (2 : Nat)) + (1 : Nat))) + (1 : Nat))) + (1 : Nat)) + (1 : Nat))) ≤ (80 : Nat))) :=
  ⟨(fun {a : Nat} {b : Nat} (h0 : ((b = (124 : Nat)) ∨ ((b = (33 : Nat)) ∨ ((b = (46 : Nat)) ∨ (b = (120 : Nat)))))) (h1 : (a = b)) => h0.elim (fun q0 => lc [] [a, b] (4, var 0, num 1114112) [(5, var 0, var 2), (5, var 2, num 124)] [1, 1, 1] rfl h1 q0) (fun q0 => q0.elim (fun q1 => lc [] [a, b] (4, var 0, num 1114112) [(5, var 0, var 2), (5, var 2, num 33)] [1, 1, 1] rfl h1 q1) (fun q1 => q1.elim (fun q2 => lc [] [a, b] (4, var 0, num 1114112) [(5, var 0, var 2), (5, var 2, num 46)] [1, 1, 1] rfl h1 q2) (fun q2 => lc [] [a, b] (4, var 0, num 1114112) [(5, var 0, var 2), (5, var 2, num 120)] [1, 1, 1] rfl h1 q2)))),
    (fun {a : Nat} (h0 : ((a = (32 : Nat)) ∨ ((a = (43 : Nat)) ∨ (((48 : Nat) ≤ a) ∧ (a ≤ (57 : Nat)))))) => h0.elim (fun q0 => lc [] [a] (4, var 0, num 1114112) [(5, var 0, num 32)] [1, 1] rfl q0) (fun q0 => q0.elim (fun q1 => lc [] [a] (4, var 0, num 1114112) [(5, var 0, num 43)] [1, 1] rfl q1) (fun q1 => lc [] [a] (4, var 0, num 1114112) [(3, var 0, num 57)] [1, 1] rfl q1.2))),
    (fun {a : Nat} (h0 : (a = (41 : Nat))) => lc [] [a] (4, var 0, num 1114112) [(5, var 0, num 41)] [1, 1] rfl h0),
    (fun {a : Nat} {b : Nat} {c : Nat} {d : Nat} (h0 : ((a ≤ (1 : Nat)) ∧ ((b ≤ (2 : Nat)) ∧ ((c ≤ (3 : Nat)) ∧ (d ≤ (4 : Nat)))))) => lc [] [a, b, c] (3, .add (var 0) (.add (.add (var 2) (.add (.add (var 4) (num 1)) (num 1))) (num 1)), num 9) [(3, var 0, num 1), (3, var 2, num 2), (3, var 4, num 3)] [1, 1, 1, 1] rfl h0.1 h0.2.1 h0.2.2.1),
    (fun {a : Nat} {b : Nat} {c : Nat} {d : Nat} {e : Nat} (h0 : ((b ≤ (1 : Nat)) ∧ ((c ≤ (2 : Nat)) ∧ ((d ≤ (3 : Nat)) ∧ (e ≤ (4 : Nat)))))) (h1 : (a ≤ (7 : Nat))) => lc [] [b, c, d, e, a] (3, .add (var 8) (.add (.add (.add (var 0) (.add (.add (var 2) (.add (.add (var 4) (.add (.add (var 6) (num 1)) (num 1))) (num 1))) (num 1))) (num 1)) (num 1)), num 23) [(3, var 0, num 1), (3, var 2, num 2), (3, var 4, num 3), (3, var 6, num 4), (3, var 8, num 7)] [1, 1, 1, 1, 1, 1] rfl h0.1 h0.2.1 h0.2.2.1 h0.2.2.2 h1),
    (fun {a : Nat} {b : Nat} {c : Nat} {d : Nat} => lq [] [a, b, c, d] (.add (var 0) (.add (.add (.add (var 2) (.add (.add (var 4) (.add (var 6) (num 1))) (num 1))) (num 1)) (num 1))) (.add (.add (.add (.add (var 0) (num 4)) (var 2)) (var 4)) (var 6)) [] [1] [1] rfl),
    (fun {a : Nat} {b : Nat} (h0 : ((a + (1 : Nat)) < b)) => lc [] [a, b] (4, var 0, var 2) [(4, .add (var 0) (num 1), var 2)] [1, 1] rfl h0),
    (fun {a : Nat} {b : Nat} (h0 : ((a + (1 : Nat)) = b)) => lc [] [a, b] (4, var 0, var 2) [(5, .add (var 0) (num 1), var 2)] [1, 1] rfl h0),
    (fun {a : Nat} {b : Nat} {c : Nat} {d : Nat} {e : Nat} (h0 : (a < (b + (((c + ((d + (e + (1 : Nat))) + (1 : Nat))) + (1 : Nat)) + (1 : Nat))))) => (Nat.le_total b a).elim (fun z0 => lc [] [a, b, c, d, e, (a - b)] (4, var 10, .add (.add (var 4) (.add (.add (var 6) (.add (.add (var 8) (num 1)) (num 1))) (num 1))) (num 1)) [(4, var 0, .add (var 2) (.add (.add (.add (var 4) (.add (.add (var 6) (.add (var 8) (num 1))) (num 1))) (num 1)) (num 1))), (5, .add (var 10) (var 2), var 0)] [1, 1, 1] rfl h0 (Nat.sub_add_cancel (lc [] [a, b] (3, var 2, var 0) [(3, var 2, var 0)] [1, 1] rfl z0 : (b ≤ a)) : (((a - b) + b) = a))) (fun z0 => lc [] [c, d, e, (a - b)] (4, var 6, .add (.add (var 0) (.add (.add (var 2) (.add (.add (var 4) (num 1)) (num 1))) (num 1))) (num 1)) [(5, var 6, num 0)] [1, 1] rfl (Nat.sub_eq_zero_of_le (lc [] [a, b] (3, var 0, var 2) [(3, var 0, var 2)] [1, 1] rfl z0 : (a ≤ b)) : ((a - b) = (0 : Nat))))),
    (fun {a : Nat} {b : Nat} (h0 : (¬((b + (1 : Nat)) < a))) (h1 : (¬((b + (1 : Nat)) = a))) => (Nat.lt_or_gt_of_ne h1).elim (fun q0 => lc [] [a, b] (3, var 0, var 2) [(3, var 0, .add (var 2) (num 1)), (4, .add (var 2) (num 1), var 0)] [0, 1, 1] rfl (Nat.not_lt.mp h0) q0) (fun q0 => lc [] [a, b] (3, var 0, var 2) [(4, var 0, .add (var 2) (num 1))] [1, 1] rfl q0)),
    (fun {a : Nat} {b : Nat} {c : Nat} {d : Nat} => lq [] [a, b, c, d] (.add (.add (.add (.add (var 0) (num 5)) (var 2)) (var 4)) (var 6)) (.add (var 0) (.add (.add (.add (var 2) (.add (.add (var 4) (.add (.add (var 6) (num 1)) (num 1))) (num 1))) (num 1)) (num 1))) [] [1] [1] rfl),
    (fun {a : Nat} {b : Nat} {c : Nat} {d : Nat} {e : Nat} (h0 : ((b ≤ (1 : Nat)) ∧ ((c ≤ (2 : Nat)) ∧ ((d ≤ (3 : Nat)) ∧ (e ≤ (4 : Nat)))))) (h1 : (a ≤ (7 : Nat))) => lc [] [b, c, d, a] (3, .add (var 6) (.add (.add (.add (var 0) (.add (.add (var 2) (.add (.add (var 4) (num 2)) (num 1))) (num 1))) (num 1)) (num 1)), num 80) [(3, var 0, num 1), (3, var 2, num 2), (3, var 4, num 3), (3, var 6, num 7)] [1, 1, 1, 1, 1] rfl h0.1 h0.2.1 h0.2.2.1 h1)⟩
theorem omG36 : (∀ {a : Nat} (h0 : (a = (120 : Nat))), (a < (1114112 : Nat))) ∧
    (∀ {a : Nat} {b : Nat} {c : Nat} {d : Nat} {e : Nat} (h0 : ((b ≤ (1 : Nat)) ∧ ((c ≤ (2 : Nat)) ∧ ((d ≤ (3 : Nat)) ∧ (e ≤ (4 : Nat)))))) (h1 : (a ≤ (7 : Nat))), ((a + ((b + ((c + ((d + ((e + (1 : Nat)) + (1 : Nat))) + (1 : Nat))) + (1 : Nat))) + (1 : Nat))) ≤ (80 : Nat))) ∧
    (∀ {a : Nat} {b : Nat} {c : Nat} {d : Nat} (h0 : (a ≤ (7 : Nat))) (h1 : ((b ≤ (2 : Nat)) ∧ ((c ≤ (3 : Nat)) ∧ (d ≤ (4 : Nat))))), ((((a + (1 : Nat)) + ((b + ((c + (1 : Nat)) + (1 : Nat))) + (1 : Nat))) + d) ≤ (70 : Nat))) ∧
    (∀ {a : Nat} {b : Nat} {c : Nat} {d : Nat} {e : Nat} (h0 : ((b ≤ (1 : Nat)) ∧ ((c ≤ (2 : Nat)) ∧ ((d ≤ (3 : Nat)) ∧ (e ≤ (4 : Nat)))))) (h1 : (a ≤ (7 : Nat))), (((a + (b + ((c + ((d + (1 : Nat)) + (1 : Nat))) + (1 : Nat)))) + e) ≤ (70 : Nat))) ∧
    (∀ {a : Nat} {b : Nat} {c : Nat} {d : Nat} {e : Nat} (h0 : ((b ≤ (1 : Nat)) ∧ ((c ≤ (2 : Nat)) ∧ ((d ≤ (3 : Nat)) ∧ (e ≤ (4 : Nat)))))) (h1 : (a ≤ (7 : Nat))), (((a + (((b + ((c + ((d + (1 : Nat)) + (1 : Nat))) + (1 : Nat))) + (1 : Nat)) + (1 : Nat))) + e) ≤ (70 : Nat))) ∧
    (∀ {a : Nat} {b : Nat} {c : Nat} {d : Nat} {e : Nat} (h0 : ((b ≤ (1 : Nat)) ∧ ((c ≤ (2 : Nat)) ∧ ((d ≤ (3 : Nat)) ∧ (e ≤ (4 : Nat)))))) (h1 : (a ≤ (7 : Nat))), (((a + ((b + ((c + ((d + (2 : Nat)) + (1 : Nat))) + (1 : Nat))) + (1 : Nat))) + e) ≤ (70 : Nat))) ∧
    (∀ {a : Nat} (h0 : (a = (35 : Nat))), (a < (1114112 : Nat))) ∧
    (∀ {a : Nat} (h0 : (a ≤ (20 : Nat))), (a ≤ (77 : Nat))) ∧
    (∀ {a : Int} {b : Nat} {c : Int} (h0 : (b ≤ (80 : Nat))) (h1 : ((a + (2 : Int)) ≤ c)) (h2 : (c < (Nat.cast b : Int))), ((a + (1 : Int)) < (9223372036854775808 : Int))) ∧
    (∀ {a : Int} (h0 : (¬(a < (0 : Int)))), ((-(9223372036854775808 : Int)) < (a - (1 : Int)))) ∧
    (∀ {a : Int} {b : Nat} (h0 : (b ≤ (80 : Nat))) (h1 : (a < (Nat.cast b : Int))), ((a - (1 : Int)) < (9223372036854775808 : Int))) ∧
    (∀ {a : Nat} (h0 : (a ≠ (5 : Nat))), ((Nat.cast a : Int) ≠ (5 : Int))) :=
  ⟨(fun {a : Nat} (h0 : (a = (120 : Nat))) => lc [] [a] (4, var 0, num 1114112) [(5, var 0, num 120)] [1, 1] rfl h0),
    (fun {a : Nat} {b : Nat} {c : Nat} {d : Nat} {e : Nat} (h0 : ((b ≤ (1 : Nat)) ∧ ((c ≤ (2 : Nat)) ∧ ((d ≤ (3 : Nat)) ∧ (e ≤ (4 : Nat)))))) (h1 : (a ≤ (7 : Nat))) => lc [] [b, c, d, e, a] (3, .add (var 8) (.add (.add (var 0) (.add (.add (var 2) (.add (.add (var 4) (.add (.add (var 6) (num 1)) (num 1))) (num 1))) (num 1))) (num 1)), num 80) [(3, var 0, num 1), (3, var 2, num 2), (3, var 4, num 3), (3, var 6, num 4), (3, var 8, num 7)] [1, 1, 1, 1, 1, 1] rfl h0.1 h0.2.1 h0.2.2.1 h0.2.2.2 h1),
    (fun {a : Nat} {b : Nat} {c : Nat} {d : Nat} (h0 : (a ≤ (7 : Nat))) (h1 : ((b ≤ (2 : Nat)) ∧ ((c ≤ (3 : Nat)) ∧ (d ≤ (4 : Nat))))) => lc [] [a, b, c, d] (3, .add (.add (.add (var 0) (num 1)) (.add (.add (var 2) (.add (.add (var 4) (num 1)) (num 1))) (num 1))) (var 6), num 70) [(3, var 0, num 7), (3, var 2, num 2), (3, var 4, num 3), (3, var 6, num 4)] [1, 1, 1, 1, 1] rfl h0 h1.1 h1.2.1 h1.2.2),
    (fun {a : Nat} {b : Nat} {c : Nat} {d : Nat} {e : Nat} (h0 : ((b ≤ (1 : Nat)) ∧ ((c ≤ (2 : Nat)) ∧ ((d ≤ (3 : Nat)) ∧ (e ≤ (4 : Nat)))))) (h1 : (a ≤ (7 : Nat))) => lc [] [b, c, d, e, a] (3, .add (.add (var 8) (.add (var 0) (.add (.add (var 2) (.add (.add (var 4) (num 1)) (num 1))) (num 1)))) (var 6), num 70) [(3, var 0, num 1), (3, var 2, num 2), (3, var 4, num 3), (3, var 6, num 4), (3, var 8, num 7)] [1, 1, 1, 1, 1, 1] rfl h0.1 h0.2.1 h0.2.2.1 h0.2.2.2 h1),
    (fun {a : Nat} {b : Nat} {c : Nat} {d : Nat} {e : Nat} (h0 : ((b ≤ (1 : Nat)) ∧ ((c ≤ (2 : Nat)) ∧ ((d ≤ (3 : Nat)) ∧ (e ≤ (4 : Nat)))))) (h1 : (a ≤ (7 : Nat))) => lc [] [b, c, d, e, a] (3, .add (.add (var 8) (.add (.add (.add (var 0) (.add (.add (var 2) (.add (.add (var 4) (num 1)) (num 1))) (num 1))) (num 1)) (num 1))) (var 6), num 70) [(3, var 0, num 1), (3, var 2, num 2), (3, var 4, num 3), (3, var 6, num 4), (3, var 8, num 7)] [1, 1, 1, 1, 1, 1] rfl h0.1 h0.2.1 h0.2.2.1 h0.2.2.2 h1),
    (fun {a : Nat} {b : Nat} {c : Nat} {d : Nat} {e : Nat} (h0 : ((b ≤ (1 : Nat)) ∧ ((c ≤ (2 : Nat)) ∧ ((d ≤ (3 : Nat)) ∧ (e ≤ (4 : Nat)))))) (h1 : (a ≤ (7 : Nat))) => lc [] [b, c, d, e, a] (3, .add (.add (var 8) (.add (.add (var 0) (.add (.add (var 2) (.add (.add (var 4) (num 2)) (num 1))) (num 1))) (num 1))) (var 6), num 70) [(3, var 0, num 1), (3, var 2, num 2), (3, var 4, num 3), (3, var 6, num 4), (3, var 8, num 7)] [1, 1, 1, 1, 1, 1] rfl h0.1 h0.2.1 h0.2.2.1 h0.2.2.2 h1),
    (fun {a : Nat} (h0 : (a = (35 : Nat))) => lc [] [a] (4, var 0, num 1114112) [(5, var 0, num 35)] [1, 1] rfl h0),
    (fun {a : Nat} (h0 : (a ≤ (20 : Nat))) => lc [] [a] (3, var 0, num 77) [(3, var 0, num 20)] [1, 1] rfl h0),
    (fun {a : Int} {b : Nat} {c : Int} (h0 : (b ≤ (80 : Nat))) (h1 : ((a + (2 : Int)) ≤ c)) (h2 : (c < (Nat.cast b : Int))) => lc [a, c] [b] (1, .add (var 1) (num 1), num 9223372036854775808) [(3, var 0, num 80), (0, .add (var 1) (num 2), var 3), (1, var 3, var 0)] [1, 1, 1, 1] rfl h0 h1 h2),
    (fun {a : Int} (h0 : (¬(a < (0 : Int)))) => lc [a] [] (1, .neg (num 9223372036854775808), .sub (var 1) (num 1)) [(0, num 0, var 1)] [1, 1] rfl (Int.not_lt.mp h0)),
    (fun {a : Int} {b : Nat} (h0 : (b ≤ (80 : Nat))) (h1 : (a < (Nat.cast b : Int))) => lc [a] [b] (1, .sub (var 1) (num 1), num 9223372036854775808) [(3, var 0, num 80), (1, var 1, var 0)] [1, 1, 1] rfl h0 h1),
    (fun {a : Nat} (h0 : (a ≠ (5 : Nat))) => (Nat.lt_or_gt_of_ne h0).elim (fun q0 => lc [] [a] (6, var 0, num 5) [(4, var 0, num 5)] [1, 1] rfl q0) (fun q0 => lc [] [a] (6, var 0, num 5) [(4, num 5, var 0)] [-1, 1] rfl q0))⟩
theorem omG37 : (∀ {a : Nat} (h0 : (a ≤ (80 : Nat))), ((Nat.cast a : Int) < ((2 : Int) ^ (63 : Nat)))) ∧
    (∀ {a : Nat} {b : Nat} {c : Nat} (h0 : (((a + ((10 : Nat) * (c + (4 : Nat)))) + (40 : Nat)) < b)), (((a + (3 : Nat)) + (2 : Nat)) < b)) ∧
    (∀ {a : Nat} {b : Nat} {c : Nat} (h0 : (a = c)) (h1 : (c < b)), (a ≤ b)) ∧
    (∀ {a : Nat} {b : Nat} {c : Nat} (h0 : (((a + ((10 : Nat) * (c + (6 : Nat)))) + (40 : Nat)) < b)), (((a + (3 : Nat)) + (2 : Nat)) < b)) ∧
    (∀ {a : Nat} {b : Nat} (h0 : ((a + ((1 : Nat) * b)) ≤ (1000 : Nat))), (¬((a + ((1 : Nat) * b)) > (16777216 : Nat)))) ∧
    (∀ {a : Nat} (h0 : (a ≤ (1000 : Nat))), (a ≤ (16777216 : Nat))) ∧
    (∀ {a : Nat}, ((-(9223372036854775808 : Int)) < ((Nat.cast a : Int) + (1 : Int)))) ∧
    (∀ {a : Nat} (h0 : (a ≤ (7 : Nat))), (((Nat.cast a : Int) + (1 : Int)) < (9223372036854775808 : Int))) ∧
    (∀ {a : Nat} {b : Nat} {c : Nat} {d : Nat}, ((1 : Int) < ((((Nat.cast a : Int) + (((Nat.cast b : Int) + (((Nat.cast c : Int) + (((Nat.cast d : Int) + (1 : Int)) + (1 : Int))) + (1 : Int))) + (1 : Int))) + (1 : Int)) + (1 : Int)))) ∧
    (∀ {a : Nat} {b : Nat}, ((-(Nat.cast a : Int)) ≤ ((Nat.cast b : Int) + (1 : Int)))) ∧
    (∀ {a : Nat} {b : Nat} (h0 : (((Nat.cast a : Int) + (1 : Int)) < (Nat.cast b : Int))), (((Nat.cast a : Int) + (1 : Int)) < (Nat.cast b : Int))) ∧
    (∀ {a : Nat}, ((Nat.succ (((((a + (1 : Nat)) + (1 : Nat)) + (1 : Nat)) + (1 : Nat)) + (1 : Nat))) ≤ (((((((a + (1 : Nat)) + (1 : Nat)) + (1 : Nat)) + (1 : Nat)) + (1 : Nat)) + (1 : Nat)) + (1 : Nat)))) :=
  ⟨(fun {a : Nat} (h0 : (a ≤ (80 : Nat))) => lc [] [a] (1, var 0, num ((2 : Int) ^ (63 : Nat))) [(3, var 0, num 80)] [1, 1] rfl h0),
    (fun {a : Nat} {b : Nat} {c : Nat} (h0 : (((a + ((10 : Nat) * (c + (4 : Nat)))) + (40 : Nat)) < b)) => lc [] [a, c, b] (4, .add (.add (var 0) (num 3)) (num 2), var 4) [(4, .add (.add (var 0) (.mulL 10 (.add (var 2) (num 4)))) (num 40), var 4)] [1, 1] rfl h0),
    (fun {a : Nat} {b : Nat} {c : Nat} (h0 : (a = c)) (h1 : (c < b)) => lc [] [a, c, b] (3, var 0, var 4) [(5, var 0, var 2), (4, var 2, var 4)] [1, 1, 1] rfl h0 h1),
    (fun {a : Nat} {b : Nat} {c : Nat} (h0 : (((a + ((10 : Nat) * (c + (6 : Nat)))) + (40 : Nat)) < b)) => lc [] [a, c, b] (4, .add (.add (var 0) (num 3)) (num 2), var 4) [(4, .add (.add (var 0) (.mulL 10 (.add (var 2) (num 6)))) (num 40), var 4)] [1, 1] rfl h0),
    (fun {a : Nat} {b : Nat} (h0 : ((a + ((1 : Nat) * b)) ≤ (1000 : Nat))) => by first | lia | omega),
    (fun {a : Nat} (h0 : (a ≤ (1000 : Nat))) => lc [] [a] (3, var 0, num 16777216) [(3, var 0, num 1000)] [1, 1] rfl h0),
    (fun {a : Nat} => lc [] [a] (1, .neg (num 9223372036854775808), .add (var 0) (num 1)) [] [1] rfl),
    (fun {a : Nat} (h0 : (a ≤ (7 : Nat))) => lc [] [a] (1, .add (var 0) (num 1), num 9223372036854775808) [(3, var 0, num 7)] [1, 1] rfl h0),
    (fun {a : Nat} {b : Nat} {c : Nat} {d : Nat} => lc [] [a, b, c, d] (1, num 1, .add (.add (.add (var 0) (.add (.add (var 2) (.add (.add (var 4) (.add (.add (var 6) (num 1)) (num 1))) (num 1))) (num 1))) (num 1)) (num 1)) [] [1] rfl),
    (fun {a : Nat} {b : Nat} => lc [] [a, b] (0, .neg (var 0), .add (var 2) (num 1)) [] [1] rfl),
    (fun {a : Nat} {b : Nat} (h0 : (((Nat.cast a : Int) + (1 : Int)) < (Nat.cast b : Int))) => h0),
    (fun {a : Nat} => lc [] [a] (3, .add (.add (.add (.add (.add (.add (var 0) (num 1)) (num 1)) (num 1)) (num 1)) (num 1)) (num 1), .add (.add (.add (.add (.add (.add (.add (var 0) (num 1)) (num 1)) (num 1)) (num 1)) (num 1)) (num 1)) (num 1)) [] [1] rfl)⟩
theorem omG38 : (∀ {a : Nat} {b : Nat} {c : Nat} {d : Nat}, (((Nat.cast ((((a + (4 : Nat)) + b) + c) + d) : Int) + (1 : Int)) = (Nat.cast ((((a + (5 : Nat)) + b) + c) + d) : Int))) ∧
    (∀ {a : Nat} {b : Nat} (h0 : ((a + (1 : Nat)) ≤ b)), (a ≤ ((((b + (1 : Nat)) + (1 : Nat)) + (1 : Nat)) + (1 : Nat)))) ∧
    (∀ {a : Nat} {b : Nat} {c : Nat} {d : Nat} {e : Nat} {f : Nat} (h0 : ((c ≤ (1 : Nat)) ∧ ((d ≤ (2 : Nat)) ∧ ((e ≤ (3 : Nat)) ∧ (f ≤ (4 : Nat)))))) (h1 : (a ≤ (7 : Nat))) (h2 : (b ≤ (2 : Nat))), ((((a + ((0 : Nat) + (1 : Nat))) + b) + ((c + ((d + ((e + ((0 : Nat) + (1 : Nat))) + (1 : Nat))) + (1 : Nat))) + (f + (1 : Nat)))) ≤ (1000 : Nat))) ∧
    (∀ {a : Nat} {b : Nat} {c : Nat} {d : Nat} {e : Nat} {f : Nat} (h0 : (a ≤ c)) (h1 : ((c + (1 : Nat)) ≤ d)) (h2 : (d ≤ e)) (h3 : (((e + (1 : Nat)) + (1 : Nat)) ≤ f)) (h4 : (f ≤ b)), (a ≤ b)) ∧
    (∀ {a : Nat} (h0 : (a ≤ (23 : Nat))), ((a + ((1 : Nat) * (0 : Nat))) ≤ (1000 : Nat))) ∧
    (∀ {a : Nat}, (a ≤ (((a + (1 : Nat)) + (1 : Nat)) + (1 : Nat)))) ∧
    (∀ {a : Nat} (h0 : (a ≤ (23 : Nat))), ((a + ((1 : Nat) * (2 : Nat))) ≤ (1000 : Nat))) ∧
    (∀ {a : Nat} {b : Nat} (h0 : (a ≤ (23 : Nat))) (h1 : (b = (1 : Nat))), ((a + b) ≤ (30 : Nat))) ∧
    (∀ {a : Int} {b : Int} {c : Int} {d : Int} {e : Int} {f : Int} {g : Int} {i : Int} {j : Int} {k : Int} (h0 : (a = (f + d))) (h1 : (f = (g - ((1 : Int) * i)))) (h2 : (b = (j + i))) (h3 : (j = (e - k))) (h4 : (g = k)), ((a + ((b + c) - d)) = (e + c))) ∧
    (∀ {a : Int} {b : Int} {c : Int} {d : Int} {e : Int} {f : Int} {g : Int} {i : Int} {j : Int} {k : Int} (h0 : (b < e)) (h1 : ((f + ((a + b) - c)) = (g + b))) (h2 : (i ≤ j)) (h3 : (f = (k - ((1 : Int) * d)))) (h4 : (k = j)) (h5 : (i = (g + ((1 : Int) * e)))), (((a + b) - c) < d)) ∧
    (∀ {a : Int} {b : Int} {c : Int} {d : Int} {e : Int} {f : Int} {g : Int} (h0 : (a = (f + d))) (h1 : (e = (g + b))) (h2 : (f = g)), ((a + ((b + c) - d)) = (e + c))) ∧
    (∀ {a : Int} {b : Int} {c : Int} {d : Int} {e : Int} {f : Int} {g : Int} {i : Int} (h0 : (d = (e + c))) (h1 : (f = (g + b))) (h2 : (e = i)) (h3 : (i = f)) (h4 : (a = g)), ((a + (b + c)) = d)) :=
  ⟨(fun {a : Nat} {b : Nat} {c : Nat} {d : Nat} => lq [] [a, b, c, d] (.add (.add (.add (.add (.add (var 0) (num 4)) (var 2)) (var 4)) (var 6)) (num 1)) (.add (.add (.add (.add (var 0) (num 5)) (var 2)) (var 4)) (var 6)) [] [1] [1] rfl),
    (fun {a : Nat} {b : Nat} (h0 : ((a + (1 : Nat)) ≤ b)) => lc [] [a, b] (3, var 0, .add (.add (.add (.add (var 2) (num 1)) (num 1)) (num 1)) (num 1)) [(3, .add (var 0) (num 1), var 2)] [1, 1] rfl h0),
    (fun {a : Nat} {b : Nat} {c : Nat} {d : Nat} {e : Nat} {f : Nat} (h0 : ((c ≤ (1 : Nat)) ∧ ((d ≤ (2 : Nat)) ∧ ((e ≤ (3 : Nat)) ∧ (f ≤ (4 : Nat)))))) (h1 : (a ≤ (7 : Nat))) (h2 : (b ≤ (2 : Nat))) => lc [] [c, d, e, f, a, b] (3, .add (.add (.add (var 8) (.add (num 0) (num 1))) (var 10)) (.add (.add (var 0) (.add (.add (var 2) (.add (.add (var 4) (.add (num 0) (num 1))) (num 1))) (num 1))) (.add (var 6) (num 1))), num 1000) [(3, var 0, num 1), (3, var 2, num 2), (3, var 4, num 3), (3, var 6, num 4), (3, var 8, num 7), (3, var 10, num 2)] [1, 1, 1, 1, 1, 1, 1] rfl h0.1 h0.2.1 h0.2.2.1 h0.2.2.2 h1 h2),
    (fun {a : Nat} {b : Nat} {c : Nat} {d : Nat} {e : Nat} {f : Nat} (h0 : (a ≤ c)) (h1 : ((c + (1 : Nat)) ≤ d)) (h2 : (d ≤ e)) (h3 : (((e + (1 : Nat)) + (1 : Nat)) ≤ f)) (h4 : (f ≤ b)) => lc [] [a, c, d, e, f, b] (3, var 0, var 10) [(3, var 0, var 2), (3, .add (var 2) (num 1), var 4), (3, var 4, var 6), (3, .add (.add (var 6) (num 1)) (num 1), var 8), (3, var 8, var 10)] [1, 1, 1, 1, 1, 1] rfl h0 h1 h2 h3 h4),
    (fun {a : Nat} (h0 : (a ≤ (23 : Nat))) => lc [] [a] (3, .add (var 0) (.mulL 1 (num 0)), num 1000) [(3, var 0, num 23)] [1, 1] rfl h0),
    (fun {a : Nat} => lc [] [a] (3, var 0, .add (.add (.add (var 0) (num 1)) (num 1)) (num 1)) [] [1] rfl),
    (fun {a : Nat} (h0 : (a ≤ (23 : Nat))) => lc [] [a] (3, .add (var 0) (.mulL 1 (num 2)), num 1000) [(3, var 0, num 23)] [1, 1] rfl h0),
    (fun {a : Nat} {b : Nat} (h0 : (a ≤ (23 : Nat))) (h1 : (b = (1 : Nat))) => lc [] [a, b] (3, .add (var 0) (var 2), num 30) [(3, var 0, num 23), (5, var 2, num 1)] [1, 1, 1] rfl h0 h1),
    (fun {a : Int} {b : Int} {c : Int} {d : Int} {e : Int} {f : Int} {g : Int} {i : Int} {j : Int} {k : Int} (h0 : (a = (f + d))) (h1 : (f = (g - ((1 : Int) * i)))) (h2 : (b = (j + i))) (h3 : (j = (e - k))) (h4 : (g = k)) => lq [a, f, d, g, i, b, j, e, k, c] [] (.add (var 1) (.sub (.add (var 11) (var 19)) (var 5))) (.add (var 15) (var 19)) [(2, var 1, .add (var 3) (var 5)), (2, var 3, .sub (var 7) (.mulL 1 (var 9))), (2, var 11, .add (var 13) (var 9)), (2, var 13, .sub (var 15) (var 17)), (2, var 7, var 17)] [1, -1, -1, -1, -1, -1] [1, 1, 1, 1, 1, 1] rfl h0 h1 h2 h3 h4),
    (fun {a : Int} {b : Int} {c : Int} {d : Int} {e : Int} {f : Int} {g : Int} {i : Int} {j : Int} {k : Int} (h0 : (b < e)) (h1 : ((f + ((a + b) - c)) = (g + b))) (h2 : (i ≤ j)) (h3 : (f = (k - ((1 : Int) * d)))) (h4 : (k = j)) (h5 : (i = (g + ((1 : Int) * e)))) => lc [b, e, f, a, c, g, i, j, k, d] [] (1, .sub (.add (var 7) (var 1)) (var 9), var 19) [(1, var 1, var 3), (2, .add (var 5) (.sub (.add (var 7) (var 1)) (var 9)), .add (var 11) (var 1)), (0, var 13, var 15), (2, var 5, .sub (var 17) (.mulL 1 (var 19))), (2, var 17, var 15), (2, var 13, .add (var 11) (.mulL 1 (var 3)))] [1, 1, 1, 1, -1, -1, -1] rfl h0 h1 h2 h3 h4 h5),
    (fun {a : Int} {b : Int} {c : Int} {d : Int} {e : Int} {f : Int} {g : Int} (h0 : (a = (f + d))) (h1 : (e = (g + b))) (h2 : (f = g)) => lq [a, f, d, e, g, b, c] [] (.add (var 1) (.sub (.add (var 11) (var 13)) (var 5))) (.add (var 7) (var 13)) [(2, var 1, .add (var 3) (var 5)), (2, var 7, .add (var 9) (var 11)), (2, var 3, var 9)] [1, -1, 1, -1] [1, 1, -1, 1] rfl h0 h1 h2),
    (fun {a : Int} {b : Int} {c : Int} {d : Int} {e : Int} {f : Int} {g : Int} {i : Int} (h0 : (d = (e + c))) (h1 : (f = (g + b))) (h2 : (e = i)) (h3 : (i = f)) (h4 : (a = g)) => lq [d, e, c, f, g, b, i, a] [] (.add (var 15) (.add (var 11) (var 5))) (var 1) [(2, var 1, .add (var 3) (var 5)), (2, var 7, .add (var 9) (var 11)), (2, var 3, var 13), (2, var 13, var 7), (2, var 15, var 9)] [1, 1, 1, 1, 1, -1] [1, -1, -1, -1, -1, 1] rfl h0 h1 h2 h3 h4)⟩
theorem omG39 : (∀ {a : Int} {b : Int} {c : Int} {d : Int} {e : Int} (h0 : (b < d)) (h1 : (e ≤ c)) (h2 : (e = (a + ((1 : Int) * d)))), ((a + b) < c)) ∧
    (∀ {a : Int} {b : Int} {c : Int} {d : Int} (h0 : (a = (d + c))) (h1 : (d = b)), (a = (b + c))) ∧
    (∀ {a : Int} {b : Int} {c : Int} {d : Int} (h0 : (c = (d + b))) (h1 : (d = a)), ((a + b) = c)) ∧
    (∀ {a : Int} {b : Int} {c : Int} {d : Int} {e : Int} (h0 : (a < b)) (h1 : (a = (c + d))) (h2 : ((0 : Int) ≤ d)) (h3 : (b ≤ e)) (h4 : (c = e)), False) ∧
    (∀ {a : Int} {b : Int} {c : Int} {d : Int} {e : Int} {f : Int} {g : Int} {i : Int} {j : Int} {k : Int} (h0 : ((e + d) = (f + b))) (h1 : (a = (g + i))) (h2 : (g = j)) (h3 : (k = c)) (h4 : (k = (j + e))) (h5 : (f = i)), ((a + b) = (c + d))) ∧
    (∀ {a : Int} {b : Int} {c : Int} {d : Int} {e : Int} {f : Int} {g : Int} (h0 : (a < b)) (h1 : ((c + a) = (d + e))) (h2 : ((0 : Int) ≤ e)) (h3 : (f ≤ g)) (h4 : (g ≤ d)) (h5 : (f = (c + ((1 : Int) * b)))), False) ∧
    (∀ {a : Int} {b : Int} {c : Int} {d : Int} {e : Int} (h0 : (c = d)) (h1 : (d = (e + b))) (h2 : (a = e)), ((a + b) = c)) ∧
    (∀ {a : Int} {b : Int} {c : Int} {d : Int} (h0 : (a = (-b))), ((a + ((b + c) - d)) = (c - d))) ∧
    (∀ {a : Int} {b : Int} {c : Int} {d : Int} {e : Int} {f : Int} {g : Int} {i : Int} {j : Int} {k : Int} {l : Int} {m : Int} (h0 : ((d + c) = (e + f))) (h1 : (((g - (1 : Int)) - f) = (i + j))) (h2 : (j < k)) (h3 : (a = (e + ((1 : Int) * g)))) (h4 : (b = (d + l))) (h5 : (l = (m + ((1 : Int) * k)))) (h6 : (i = m)), (a ≤ (b + c))) ∧
    (∀ {a : Int} {b : Int} {c : Int} {d : Int} {e : Int} {f : Int} {g : Int} {i : Int} {j : Int} {k : Int} {l : Int} {m : Int} (h0 : ((e + b) = (f + g))) (h1 : (((i - (1 : Int)) - g) = (j + k))) (h2 : ((0 : Int) ≤ k)) (h3 : (c = (f + ((1 : Int) * i)))) (h4 : (a = (e + l))) (h5 : (l = (m + ((1 : Int) * d)))) (h6 : (j = m)), ((a + b) < (c + d))) ∧
    (∀ {a : Int} {b : Int} {c : Int} {d : Int} {e : Int} {f : Int} (h0 : (c ≤ (d + e))) (h1 : (e < f)) (h2 : (a = (c - (f * (1 : Int))))) (h3 : (b = d)), (a < b)) ∧
    (∀ {a : Int} {b : Int} {c : Int} {d : Int} {e : Int} {f : Int} (h0 : ((c + d) < (e + f))) (h1 : ((0 : Int) ≤ d)) (h2 : (b = (e + (f * (1 : Int))))) (h3 : (a = c)), (a < b)) :=
  ⟨(fun {a : Int} {b : Int} {c : Int} {d : Int} {e : Int} (h0 : (b < d)) (h1 : (e ≤ c)) (h2 : (e = (a + ((1 : Int) * d)))) => lc [b, d, e, c, a] [] (1, .add (var 9) (var 1), var 7) [(1, var 1, var 3), (0, var 5, var 7), (2, var 5, .add (var 9) (.mulL 1 (var 3)))] [1, 1, 1, -1] rfl h0 h1 h2),
    (fun {a : Int} {b : Int} {c : Int} {d : Int} (h0 : (a = (d + c))) (h1 : (d = b)) => lq [a, d, c, b] [] (var 1) (.add (var 7) (var 5)) [(2, var 1, .add (var 3) (var 5)), (2, var 3, var 7)] [1, -1, -1] [1, 1, 1] rfl h0 h1),
    (fun {a : Int} {b : Int} {c : Int} {d : Int} (h0 : (c = (d + b))) (h1 : (d = a)) => lq [c, d, b, a] [] (.add (var 7) (var 5)) (var 1) [(2, var 1, .add (var 3) (var 5)), (2, var 3, var 7)] [1, 1, 1] [1, -1, -1] rfl h0 h1),
    (fun {a : Int} {b : Int} {c : Int} {d : Int} {e : Int} (h0 : (a < b)) (h1 : (a = (c + d))) (h2 : ((0 : Int) ≤ d)) (h3 : (b ≤ e)) (h4 : (c = e)) => lc [a, b, c, d, e] [] (8, num 0, num 0) [(1, var 1, var 3), (2, var 1, .add (var 5) (var 7)), (0, num 0, var 7), (0, var 3, var 9), (2, var 5, var 9)] [0, 1, -1, 1, 1, -1] rfl h0 h1 h2 h3 h4),
    (fun {a : Int} {b : Int} {c : Int} {d : Int} {e : Int} {f : Int} {g : Int} {i : Int} {j : Int} {k : Int} (h0 : ((e + d) = (f + b))) (h1 : (a = (g + i))) (h2 : (g = j)) (h3 : (k = c)) (h4 : (k = (j + e))) (h5 : (f = i)) => lq [e, d, f, b, a, g, i, j, k, c] [] (.add (var 9) (var 7)) (.add (var 19) (var 3)) [(2, .add (var 1) (var 3), .add (var 5) (var 7)), (2, var 9, .add (var 11) (var 13)), (2, var 11, var 15), (2, var 17, var 19), (2, var 17, .add (var 15) (var 1)), (2, var 5, var 13)] [1, 1, -1, -1, -1, 1, 1] [1, -1, 1, 1, 1, -1, -1] rfl h0 h1 h2 h3 h4 h5),
    (fun {a : Int} {b : Int} {c : Int} {d : Int} {e : Int} {f : Int} {g : Int} (h0 : (a < b)) (h1 : ((c + a) = (d + e))) (h2 : ((0 : Int) ≤ e)) (h3 : (f ≤ g)) (h4 : (g ≤ d)) (h5 : (f = (c + ((1 : Int) * b)))) => lc [a, b, c, d, e, f, g] [] (8, num 0, num 0) [(1, var 1, var 3), (2, .add (var 5) (var 1), .add (var 7) (var 9)), (0, num 0, var 9), (0, var 11, var 13), (0, var 13, var 7), (2, var 11, .add (var 5) (.mulL 1 (var 3)))] [0, 1, -1, 1, 1, 1, -1] rfl h0 h1 h2 h3 h4 h5),
    (fun {a : Int} {b : Int} {c : Int} {d : Int} {e : Int} (h0 : (c = d)) (h1 : (d = (e + b))) (h2 : (a = e)) => lq [c, d, e, b, a] [] (.add (var 9) (var 7)) (var 1) [(2, var 1, var 3), (2, var 3, .add (var 5) (var 7)), (2, var 9, var 5)] [1, 1, 1, -1] [1, -1, -1, 1] rfl h0 h1 h2),
    (fun {a : Int} {b : Int} {c : Int} {d : Int} (h0 : (a = (-b))) => lq [a, b, c, d] [] (.add (var 1) (.sub (.add (var 3) (var 5)) (var 7))) (.sub (var 5) (var 7)) [(2, var 1, .neg (var 3))] [1, -1] [1, 1] rfl h0),
    (fun {a : Int} {b : Int} {c : Int} {d : Int} {e : Int} {f : Int} {g : Int} {i : Int} {j : Int} {k : Int} {l : Int} {m : Int} (h0 : ((d + c) = (e + f))) (h1 : (((g - (1 : Int)) - f) = (i + j))) (h2 : (j < k)) (h3 : (a = (e + ((1 : Int) * g)))) (h4 : (b = (d + l))) (h5 : (l = (m + ((1 : Int) * k)))) (h6 : (i = m)) => lc [d, c, e, f, g, i, j, k, a, b, l, m] [] (0, var 17, .add (var 19) (var 3)) [(2, .add (var 1) (var 3), .add (var 5) (var 7)), (2, .sub (.sub (var 9) (num 1)) (var 7), .add (var 11) (var 13)), (1, var 13, var 15), (2, var 17, .add (var 5) (.mulL 1 (var 9))), (2, var 19, .add (var 1) (var 21)), (2, var 21, .add (var 23) (.mulL 1 (var 15))), (2, var 11, var 23)] [1, -1, 1, 1, 1, -1, -1, 1] rfl h0 h1 h2 h3 h4 h5 h6),
    (fun {a : Int} {b : Int} {c : Int} {d : Int} {e : Int} {f : Int} {g : Int} {i : Int} {j : Int} {k : Int} {l : Int} {m : Int} (h0 : ((e + b) = (f + g))) (h1 : (((i - (1 : Int)) - g) = (j + k))) (h2 : ((0 : Int) ≤ k)) (h3 : (c = (f + ((1 : Int) * i)))) (h4 : (a = (e + l))) (h5 : (l = (m + ((1 : Int) * d)))) (h6 : (j = m)) => lc [e, b, f, g, i, j, k, c, a, l, m, d] [] (1, .add (var 17) (var 3), .add (var 15) (var 23)) [(2, .add (var 1) (var 3), .add (var 5) (var 7)), (2, .sub (.sub (var 9) (num 1)) (var 7), .add (var 11) (var 13)), (0, num 0, var 13), (2, var 15, .add (var 5) (.mulL 1 (var 9))), (2, var 17, .add (var 1) (var 19)), (2, var 19, .add (var 21) (.mulL 1 (var 23))), (2, var 11, var 21)] [1, 1, -1, 1, -1, 1, 1, -1] rfl h0 h1 h2 h3 h4 h5 h6),
    (fun {a : Int} {b : Int} {c : Int} {d : Int} {e : Int} {f : Int} (h0 : (c ≤ (d + e))) (h1 : (e < f)) (h2 : (a = (c - (f * (1 : Int))))) (h3 : (b = d)) => lc [c, d, e, f, a, b] [] (1, var 9, var 11) [(0, var 1, .add (var 3) (var 5)), (1, var 5, var 7), (2, var 9, .sub (var 1) (.mulR (var 7) 1)), (2, var 11, var 3)] [1, 1, 1, 1, -1] rfl h0 h1 h2 h3),
    (fun {a : Int} {b : Int} {c : Int} {d : Int} {e : Int} {f : Int} (h0 : ((c + d) < (e + f))) (h1 : ((0 : Int) ≤ d)) (h2 : (b = (e + (f * (1 : Int))))) (h3 : (a = c)) => lc [c, d, e, f, b, a] [] (1, var 11, var 9) [(1, .add (var 1) (var 3), .add (var 5) (var 7)), (0, num 0, var 3), (2, var 9, .add (var 5) (.mulR (var 7) 1)), (2, var 11, var 1)] [1, 1, 1, -1, 1] rfl h0 h1 h2 h3)⟩
theorem omG40 : (∀ {a : Int} {b : Int} {c : Int} {d : Int} {e : Int} {f : Int} (h0 : (a = (c + ((1 : Int) * (d - (1 : Int)))))) (h1 : (c = e)) (h2 : (e = f)) (h3 : (f = (b - ((1 : Int) * d)))), (a = (b - (1 : Int)))) ∧
    (∀ {a : Int} {b : Int} {c : Int} {d : Int} (h0 : (a = (d + c))) (h1 : (d = b)), ((a + (1 : Int)) = (b + (c + (1 : Int))))) :=
  ⟨(fun {a : Int} {b : Int} {c : Int} {d : Int} {e : Int} {f : Int} (h0 : (a = (c + ((1 : Int) * (d - (1 : Int)))))) (h1 : (c = e)) (h2 : (e = f)) (h3 : (f = (b - ((1 : Int) * d)))) => lq [a, c, d, e, f, b] [] (var 1) (.sub (var 11) (num 1)) [(2, var 1, .add (var 3) (.mulL 1 (.sub (var 5) (num 1)))), (2, var 3, var 7), (2, var 7, var 9), (2, var 9, .sub (var 11) (.mulL 1 (var 5)))] [1, -1, -1, -1, -1] [1, 1, 1, 1, 1] rfl h0 h1 h2 h3),
    (fun {a : Int} {b : Int} {c : Int} {d : Int} (h0 : (a = (d + c))) (h1 : (d = b)) => lq [a, d, c, b] [] (.add (var 1) (num 1)) (.add (var 7) (.add (var 5) (num 1))) [(2, var 1, .add (var 3) (var 5)), (2, var 3, var 7)] [1, -1, -1] [1, 1, 1] rfl h0 h1)⟩
end

section
open PySem PySem.W PySem.Calls PyProof.Rows
section
variable {G : Prop}
theorem ex1 {α1 : Type} {P : α1 → Prop} (h : ∃ x1, P x1) (k : ∀ x1, P x1 → G) : G := h.elim k
theorem ex2 {α1 α2 : Type} {P : α1 → α2 → Prop} (h : ∃ x1 x2, P x1 x2) (k : ∀ x1 x2, P x1 x2 → G) : G := ex1 h fun x1 h => ex1 h (k x1)
theorem ex3 {α1 α2 α3 : Type} {P : α1 → α2 → α3 → Prop} (h : ∃ x1 x2 x3, P x1 x2 x3) (k : ∀ x1 x2 x3, P x1 x2 x3 → G) : G := ex2 h fun x1 x2 h => ex1 h (k x1 x2)
theorem ex4 {α1 α2 α3 α4 : Type} {P : α1 → α2 → α3 → α4 → Prop} (h : ∃ x1 x2 x3 x4, P x1 x2 x3 x4) (k : ∀ x1 x2 x3 x4, P x1 x2 x3 x4 → G) : G := ex3 h fun x1 x2 x3 h => ex1 h (k x1 x2 x3)
theorem ex5 {α1 α2 α3 α4 α5 : Type} {P : α1 → α2 → α3 → α4 → α5 → Prop} (h : ∃ x1 x2 x3 x4 x5, P x1 x2 x3 x4 x5) (k : ∀ x1 x2 x3 x4 x5, P x1 x2 x3 x4 x5 → G) : G := ex4 h fun x1 x2 x3 x4 h => ex1 h (k x1 x2 x3 x4)
theorem ex7 {α1 α2 α3 α4 α5 α6 α7 : Type} {P : α1 → α2 → α3 → α4 → α5 → α6 → α7 → Prop} (h : ∃ x1 x2 x3 x4 x5 x6 x7, P x1 x2 x3 x4 x5 x6 x7) (k : ∀ x1 x2 x3 x4 x5 x6 x7, P x1 x2 x3 x4 x5 x6 x7 → G) : G := ex5 h fun x1 x2 x3 x4 x5 h => ex2 h (k x1 x2 x3 x4 x5)
theorem ex8 {α1 α2 α3 α4 α5 α6 α7 α8 : Type} {P : α1 → α2 → α3 → α4 → α5 → α6 → α7 → α8 → Prop} (h : ∃ x1 x2 x3 x4 x5 x6 x7 x8, P x1 x2 x3 x4 x5 x6 x7 x8) (k : ∀ x1 x2 x3 x4 x5 x6 x7 x8, P x1 x2 x3 x4 x5 x6 x7 x8 → G) : G := ex7 h fun x1 x2 x3 x4 x5 x6 x7 h => ex1 h (k x1 x2 x3 x4 x5 x6 x7)
theorem ex9 {α1 α2 α3 α4 α5 α6 α7 α8 α9 : Type} {P : α1 → α2 → α3 → α4 → α5 → α6 → α7 → α8 → α9 → Prop} (h : ∃ x1 x2 x3 x4 x5 x6 x7 x8 x9, P x1 x2 x3 x4 x5 x6 x7 x8 x9) (k : ∀ x1 x2 x3 x4 x5 x6 x7 x8 x9, P x1 x2 x3 x4 x5 x6 x7 x8 x9 → G) : G := ex8 h fun x1 x2 x3 x4 x5 x6 x7 x8 h => ex1 h (k x1 x2 x3 x4 x5 x6 x7 x8)
theorem ex11 {α1 α2 α3 α4 α5 α6 α7 α8 α9 α10 α11 : Type} {P : α1 → α2 → α3 → α4 → α5 → α6 → α7 → α8 → α9 → α10 → α11 → Prop} (h : ∃ x1 x2 x3 x4 x5 x6 x7 x8 x9 x10 x11, P x1 x2 x3 x4 x5 x6 x7 x8 x9 x10 x11) (k : ∀ x1 x2 x3 x4 x5 x6 x7 x8 x9 x10 x11, P x1 x2 x3 x4 x5 x6 x7 x8 x9 x10 x11 → G) : G := ex9 h fun x1 x2 x3 x4 x5 x6 x7 x8 x9 h => ex2 h (k x1 x2 x3 x4 x5 x6 x7 x8 x9)
theorem xi1 {α1 : Type} {P : α1 → Prop} (x1 : α1) (h : P x1) : ∃ x1, P x1 := ⟨x1, h⟩
theorem xi2 {α1 α2 : Type} {P : α1 → α2 → Prop} (x1 : α1) (x2 : α2) (h : P x1 x2) : ∃ x1 x2, P x1 x2 := xi1 x1 (xi1 x2 h)
theorem xi3 {α1 α2 α3 : Type} {P : α1 → α2 → α3 → Prop} (x1 : α1) (x2 : α2) (x3 : α3) (h : P x1 x2 x3) : ∃ x1 x2 x3, P x1 x2 x3 := xi2 x1 x2 (xi1 x3 h)
theorem xi4 {α1 α2 α3 α4 : Type} {P : α1 → α2 → α3 → α4 → Prop} (x1 : α1) (x2 : α2) (x3 : α3) (x4 : α4) (h : P x1 x2 x3 x4) : ∃ x1 x2 x3 x4, P x1 x2 x3 x4 := xi3 x1 x2 x3 (xi1 x4 h)
theorem xi5 {α1 α2 α3 α4 α5 : Type} {P : α1 → α2 → α3 → α4 → α5 → Prop} (x1 : α1) (x2 : α2) (x3 : α3) (x4 : α4) (x5 : α5) (h : P x1 x2 x3 x4 x5) : ∃ x1 x2 x3 x4 x5, P x1 x2 x3 x4 x5 := xi4 x1 x2 x3 x4 (xi1 x5 h)
theorem xi7 {α1 α2 α3 α4 α5 α6 α7 : Type} {P : α1 → α2 → α3 → α4 → α5 → α6 → α7 → Prop} (x1 : α1) (x2 : α2) (x3 : α3) (x4 : α4) (x5 : α5) (x6 : α6) (x7 : α7) (h : P x1 x2 x3 x4 x5 x6 x7) : ∃ x1 x2 x3 x4 x5 x6 x7, P x1 x2 x3 x4 x5 x6 x7 := xi5 x1 x2 x3 x4 x5 (xi2 x6 x7 h)
theorem xi8 {α1 α2 α3 α4 α5 α6 α7 α8 : Type} {P : α1 → α2 → α3 → α4 → α5 → α6 → α7 → α8 → Prop} (x1 : α1) (x2 : α2) (x3 : α3) (x4 : α4) (x5 : α5) (x6 : α6) (x7 : α7) (x8 : α8) (h : P x1 x2 x3 x4 x5 x6 x7 x8) : ∃ x1 x2 x3 x4 x5 x6 x7 x8, P x1 x2 x3 x4 x5 x6 x7 x8 := xi7 x1 x2 x3 x4 x5 x6 x7 (xi1 x8 h)
theorem xi11 {α1 α2 α3 α4 α5 α6 α7 α8 α9 α10 α11 : Type} {P : α1 → α2 → α3 → α4 → α5 → α6 → α7 → α8 → α9 → α10 → α11 → Prop} (x1 : α1) (x2 : α2) (x3 : α3) (x4 : α4) (x5 : α5) (x6 : α6) (x7 : α7) (x8 : α8) (x9 : α9) (x10 : α10) (x11 : α11) (h : P x1 x2 x3 x4 x5 x6 x7 x8 x9 x10 x11) : ∃ x1 x2 x3 x4 x5 x6 x7 x8 x9 x10 x11, P x1 x2 x3 x4 x5 x6 x7 x8 x9 x10 x11 := xi8 x1 x2 x3 x4 x5 x6 x7 x8 (xi3 x9 x10 x11 h)
theorem an2 {A1 A2 : Prop} (h : A1 ∧ A2) (k : A1 → A2 → G) : G := h.elim k
theorem an3 {A1 A2 A3 : Prop} (h : A1 ∧ A2 ∧ A3) (k : A1 → A2 → A3 → G) : G := an2 h fun x1 h => an2 h (k x1)
theorem an4 {A1 A2 A3 A4 : Prop} (h : A1 ∧ A2 ∧ A3 ∧ A4) (k : A1 → A2 → A3 → A4 → G) : G := an3 h fun x1 x2 h => an2 h (k x1 x2)
theorem an5 {A1 A2 A3 A4 A5 : Prop} (h : A1 ∧ A2 ∧ A3 ∧ A4 ∧ A5) (k : A1 → A2 → A3 → A4 → A5 → G) : G := an4 h fun x1 x2 x3 h => an2 h (k x1 x2 x3)
theorem an6 {A1 A2 A3 A4 A5 A6 : Prop} (h : A1 ∧ A2 ∧ A3 ∧ A4 ∧ A5 ∧ A6) (k : A1 → A2 → A3 → A4 → A5 → A6 → G) : G := an5 h fun x1 x2 x3 x4 h => an2 h (k x1 x2 x3 x4)
theorem an7 {A1 A2 A3 A4 A5 A6 A7 : Prop} (h : A1 ∧ A2 ∧ A3 ∧ A4 ∧ A5 ∧ A6 ∧ A7) (k : A1 → A2 → A3 → A4 → A5 → A6 → A7 → G) : G := an6 h fun x1 x2 x3 x4 x5 h => an2 h (k x1 x2 x3 x4 x5)
theorem an8 {A1 A2 A3 A4 A5 A6 A7 A8 : Prop} (h : A1 ∧ A2 ∧ A3 ∧ A4 ∧ A5 ∧ A6 ∧ A7 ∧ A8) (k : A1 → A2 → A3 → A4 → A5 → A6 → A7 → A8 → G) : G := an7 h fun x1 x2 x3 x4 x5 x6 h => an2 h (k x1 x2 x3 x4 x5 x6)
theorem an9 {A1 A2 A3 A4 A5 A6 A7 A8 A9 : Prop} (h : A1 ∧ A2 ∧ A3 ∧ A4 ∧ A5 ∧ A6 ∧ A7 ∧ A8 ∧ A9) (k : A1 → A2 → A3 → A4 → A5 → A6 → A7 → A8 → A9 → G) : G := an8 h fun x1 x2 x3 x4 x5 x6 x7 h => an2 h (k x1 x2 x3 x4 x5 x6 x7)
theorem an11 {A1 A2 A3 A4 A5 A6 A7 A8 A9 A10 A11 : Prop} (h : A1 ∧ A2 ∧ A3 ∧ A4 ∧ A5 ∧ A6 ∧ A7 ∧ A8 ∧ A9 ∧ A10 ∧ A11) (k : A1 → A2 → A3 → A4 → A5 → A6 → A7 → A8 → A9 → A10 → A11 → G) : G := an9 h fun x1 x2 x3 x4 x5 x6 x7 x8 h => an3 h (k x1 x2 x3 x4 x5 x6 x7 x8)
theorem an12 {A1 A2 A3 A4 A5 A6 A7 A8 A9 A10 A11 A12 : Prop} (h : A1 ∧ A2 ∧ A3 ∧ A4 ∧ A5 ∧ A6 ∧ A7 ∧ A8 ∧ A9 ∧ A10 ∧ A11 ∧ A12) (k : A1 → A2 → A3 → A4 → A5 → A6 → A7 → A8 → A9 → A10 → A11 → A12 → G) : G := an11 h fun x1 x2 x3 x4 x5 x6 x7 x8 x9 x10 h => an2 h (k x1 x2 x3 x4 x5 x6 x7 x8 x9 x10)
theorem an14 {A1 A2 A3 A4 A5 A6 A7 A8 A9 A10 A11 A12 A13 A14 : Prop} (h : A1 ∧ A2 ∧ A3 ∧ A4 ∧ A5 ∧ A6 ∧ A7 ∧ A8 ∧ A9 ∧ A10 ∧ A11 ∧ A12 ∧ A13 ∧ A14) (k : A1 → A2 → A3 → A4 → A5 → A6 → A7 → A8 → A9 → A10 → A11 → A12 → A13 → A14 → G) : G := an12 h fun x1 x2 x3 x4 x5 x6 x7 x8 x9 x10 x11 h => an3 h (k x1 x2 x3 x4 x5 x6 x7 x8 x9 x10 x11)
theorem an15 {A1 A2 A3 A4 A5 A6 A7 A8 A9 A10 A11 A12 A13 A14 A15 : Prop} (h : A1 ∧ A2 ∧ A3 ∧ A4 ∧ A5 ∧ A6 ∧ A7 ∧ A8 ∧ A9 ∧ A10 ∧ A11 ∧ A12 ∧ A13 ∧ A14 ∧ A15) (k : A1 → A2 → A3 → A4 → A5 → A6 → A7 → A8 → A9 → A10 → A11 → A12 → A13 → A14 → A15 → G) : G := an14 h fun x1 x2 x3 x4 x5 x6 x7 x8 x9 x10 x11 x12 x13 h => an2 h (k x1 x2 x3 x4 x5 x6 x7 x8 x9 x10 x11 x12 x13)
end
section
variable {M : Model} {A : Around} {E : Value → Shared → Prop} {s : Shared}
/-- a cut whose walk sees no post -/
theorem cutR {α : Type} {c : Sem α} {Q : α → Shared → Prop} (Q0 : α → Shared → Prop) (h : ∀ R : α → Shared → Prop, (∀ a s', Q0 a s' → R a s') → wpAny M A c R (fun _ _ => False) s) (k : ∀ a s', Q0 a s' → Q a s') : wpAny M A c Q E s :=
  wpAny_mono (h Q0 fun _ _ h => h) k fun _ _ e => e.elim
end
end

section
open PySem PySem.W PySem.Calls PyProof.Rows
theorem bits_le {x : Int} {k : Nat} (h : x.natAbs < 2 ^ k) : Builtin.Int.intBits x ≤ k := by
  unfold Builtin.Int.intBits
  split
  · (first | exact omG0.1 | omega)
  · rename_i hx
    have h0 : x.natAbs ≠ 0 := by
      intro e; apply hx; have : x = 0 := by (first | exact omG0.2.1 e | omega)
      simp [this]
    have := (Nat.log2_lt h0).mpr h
    (first | exact omG0.2.2.1 this | omega)
theorem bits_le' {x : Int} {k : Nat} (h0 : 0 ≤ x) (h : x < 2 ^ k) : Builtin.Int.intBits x ≤ k := by
  refine bits_le ?_
  have e : ((x.natAbs : Nat) : Int) = x := Int.natAbs_of_nonneg h0
  have : ((x.natAbs : Nat) : Int) < ((2 ^ k : Nat) : Int) := by rw [e]; simpa using h
  exact Int.ofNat_lt.mp this
theorem bits_ge {x : Int} {k : Nat} (h : 2 ^ k ≤ x) : k + 1 ≤ Builtin.Int.intBits x := by
  have hp : (0 : Int) < 2 ^ k := Int.pow_pos (by (first | exact omG0.2.2.2.1 | omega))
  unfold Builtin.Int.intBits
  split
  · rename_i hx; simp at hx; (first | exact omG0.2.2.2.2.1 h hp hx | omega)
  · have h0 : x.natAbs ≠ 0 := by (first | exact omG0.2.2.2.2.2.1 h hp | omega)
    have e : ((x.natAbs : Nat) : Int) = x := Int.natAbs_of_nonneg (by (first | exact omG0.2.2.2.2.2.2.1 h hp | omega))
    have h' : 2 ^ k ≤ x.natAbs := by
      have : ((2 ^ k : Nat) : Int) ≤ ((x.natAbs : Nat) : Int) := by rw [e]; simpa using h
      exact Int.ofNat_le.mp this
    have := (Nat.le_log2 h0).mpr h'
    (first | exact omG0.2.2.2.2.2.2.2.1 this | omega)
theorem bitOr_nat {x y : Int} (hx : 0 ≤ x) (hy : 0 ≤ y) : Builtin.bitOr x y = ((x.toNat ||| y.toNat : Nat) : Int) := by
  unfold Builtin.bitOr Builtin.bitAnd
  have h1 : decide (0 ≤ Builtin.bitNot x) = false := by simp [Builtin.bitNot]; (first | exact omG0.2.2.2.2.2.2.2.2.1 hx | omega)
  have h2 : decide (0 ≤ Builtin.bitNot y) = false := by simp [Builtin.bitNot]; (first | exact omG0.2.2.2.2.2.2.2.2.1 hy | omega)
  simp only [h1, h2]
  have e1 : Builtin.bitNot (Builtin.bitNot x) = x := by unfold Builtin.bitNot; (first | exact omG0.2.2.2.2.2.2.2.2.2.1 | omega)
  have e2 : Builtin.bitNot (Builtin.bitNot y) = y := by unfold Builtin.bitNot; (first | exact omG0.2.2.2.2.2.2.2.2.2.1 | omega)
  rw [e1, e2]
  unfold Builtin.bitNot; (first | exact omG0.2.2.2.2.2.2.2.2.2.2.1 | omega)
theorem bitOr_add {x y : Int} {n : Nat} (hx : 0 ≤ x) (hy : 0 ≤ y) (h : y < 2 ^ n) : Builtin.bitOr (x * 2 ^ n) y = x * 2 ^ n + y := by
  have hp : (0 : Int) < 2 ^ n := Int.pow_pos (by (first | exact omG0.2.2.2.1 | omega))
  rw [bitOr_nat (Int.mul_nonneg hx (Int.le_of_lt hp)) hy]
  obtain ⟨a, rfl⟩ := Int.eq_ofNat_of_zero_le hx
  obtain ⟨b, rfl⟩ := Int.eq_ofNat_of_zero_le hy
  have hb : b < 2 ^ n := by
    have : ((b : Nat) : Int) < ((2 ^ n : Nat) : Int) := by simpa using h
    exact Int.ofNat_lt.mp this
  have e : ((a : Int) * 2 ^ n) = ((a * 2 ^ n : Nat) : Int) := by simp
  rw [e, Int.toNat_natCast, Int.toNat_natCast]
  have := Nat.shiftLeft_add_eq_or_of_lt hb a
  rw [Nat.shiftLeft_eq] at this
  rw [← this]; simp
theorem bitAnd_mask {x : Int} {n : Nat} (hx : 0 ≤ x) : Builtin.bitAnd x (2 ^ n - 1) = x.fmod (2 ^ n) := by
  have hp : (0 : Int) < 2 ^ n := Int.pow_pos (by (first | exact omG0.2.2.2.1 | omega))
  unfold Builtin.bitAnd
  have h1 : decide (0 ≤ x) = true := by simpa using hx
  have h2 : decide ((0 : Int) ≤ 2 ^ n - 1) = true := by simp; (first | exact omG0.2.2.2.2.2.2.2.2.2.2.2 hp | omega)
  simp only [h1, h2]
  obtain ⟨a, rfl⟩ := Int.eq_ofNat_of_zero_le hx
  have e : ((2 : Int) ^ n - 1).toNat = 2 ^ n - 1 := by
    have : ((2 : Int) ^ n) = ((2 ^ n : Nat) : Int) := by simp
    rw [this]; (first | exact omG1.1 | omega)
  rw [Int.toNat_natCast, e, Nat.and_two_pow_sub_one_eq_mod, Int.fmod_eq_emod_of_nonneg _ (Int.le_of_lt hp)]
  simp
theorem div_of {V b q r : Int} (h : q * b + r = V) (h0 : 0 ≤ r) (h1 : r < b) : V.fdiv b = q ∧ V.fmod b = r := by
  have hb : 0 < b := by (first | exact omG1.2.1 h0 h1 | omega)
  rw [Int.fdiv_eq_ediv_of_nonneg _ (Int.le_of_lt hb), Int.fmod_eq_emod_of_nonneg _ (Int.le_of_lt hb)]
  subst h
  constructor
  · rw [Int.add_comm, Int.add_mul_ediv_right _ _ (by (first | exact omG1.2.2.1 hb | omega)), Int.ediv_eq_zero_of_lt h0 h1]; (first | exact omG1.2.2.2.1 | omega)
  · rw [Int.add_comm, Int.add_mul_emod_self_right, Int.emod_eq_of_lt h0 h1]
theorem fdiv_facts (a : Int) {b : Int} (hb : 0 < b) : a = b * a.fdiv b + a.fmod b ∧ 0 ≤ a.fmod b ∧ a.fmod b < b := by
  rw [Int.fdiv_eq_ediv_of_nonneg _ (Int.le_of_lt hb), Int.fmod_eq_emod_of_nonneg _ (Int.le_of_lt hb)]
  exact ⟨by rw [Int.mul_ediv_add_emod], Int.emod_nonneg _ (by (first | exact omG1.2.2.1 hb | omega)), Int.emod_lt_of_pos _ hb⟩
end

section
open PySem
theorem d3_eq {Z a12 a3 b b1 b2 : Int} (hZ : 0 < Z) (he : a12.fdiv Z = b1) (h0 : 0 ≤ a12) (h1 : a12 < b) (h2 : 0 ≤ a3) (h3 : a3 < Z) (h4 : b = b1 * Z + b2) (h5 : 0 ≤ b2) (h6 : b2 < Z) (h7 : 0 < b1) (h8 : b < Z * Z) :
    0 ≤ a12 - b1 * Z + b1 ∧ 0 ≤ 1 * Z - 1 ∧ 1 * Z - 1 < Z * Z ∧ a12 - b1 * Z + b1 < Z * Z ∧ (1 * Z - 1) * b + ((a12 - b1 * Z + b1) * Z + a3 - (1 * Z - 1) * b2) = a12 * Z + a3 ∧ (a12 - b1 * Z + b1) * Z + a3 - (1 * Z - 1) * b2 < b := by
  obtain ⟨e1, e2, e3⟩ := fdiv_facts a12 hZ
  rw [he] at e1
  have hZZ : Z * 1 ≤ Z * Z := Int.mul_le_mul_of_nonneg_left (by (first | exact omG0.2.2.2.2.2.2.2.2.2.2.2 hZ | omega)) (by (first | exact omG1.2.2.2.2.1 hZ | omega))
  have hb1 : b1 * 1 ≤ b1 * Z := Int.mul_le_mul_of_nonneg_left (by (first | exact omG0.2.2.2.2.2.2.2.2.2.2.2 hZ | omega)) (by (first | exact omG1.2.2.2.2.1 h7 | omega))
  have c1 : Z * b1 = b1 * Z := Int.mul_comm _ _
  have hV : (1 * Z - 1) * b + ((a12 - b1 * Z + b1) * Z + a3 - (1 * Z - 1) * b2) = a12 * Z + a3 := by
    subst h4
    have u1 := Int.mul_add (1 * Z - 1) (b1 * Z) b2
    have u2 := Int.sub_mul (1 * Z) 1 (b1 * Z)
    have u3 := Int.add_mul (a12 - b1 * Z) b1 Z
    have u4 := Int.sub_mul a12 (b1 * Z) Z
    have u5 : 1 * Z * (b1 * Z) = b1 * Z * Z := by rw [Int.one_mul, Int.mul_comm]
    (first | exact omG38.2.2.2.2.2.2.2.2.1 u1 u2 u3 u4 u5 | omega)
  refine ⟨by (first | exact omG1.2.2.2.2.2.1 h7 e1 e2 c1 | omega), by (first | exact omG1.2.2.2.2.2.2.1 hZ | omega), by (first | exact omG1.2.2.2.2.2.2.2.1 hZZ | omega), by (first | exact omG1.2.2.2.2.2.2.2.2.1 h1 h8 hb1 | omega), hV, ?_⟩
  have h9 : (a12 + 1) * Z ≤ b * Z := Int.mul_le_mul_of_nonneg_right (by (first | exact omG1.2.2.2.2.2.2.2.2.2.1 h1 | omega)) (by (first | exact omG1.2.2.2.2.1 hZ | omega))
  have u1 := Int.sub_mul (1 * Z) 1 b
  have u2 : 1 * Z * b = b * Z := by rw [Int.one_mul, Int.mul_comm]
  have u3 := Int.add_mul a12 1 Z
  (first | exact omG38.2.2.2.2.2.2.2.2.2.1 h3 hV h9 u1 u2 u3 | omega)
theorem d3_ne {Z a12 a3 b b1 b2 : Int} (hZ : 0 < Z) (h0 : 0 ≤ a12) (h1 : a12 < b) (h2 : 0 ≤ a3) (h3 : a3 < Z) (h4 : b = b1 * Z + b2) (h5 : 0 ≤ b2) (h6 : b2 < Z) (h7 : 0 < b1) (h8 : b < Z * Z) :
    0 ≤ a12.fmod b1 ∧ 0 ≤ a12.fdiv b1 ∧ a12.fdiv b1 < Z * Z ∧ a12.fmod b1 < Z * Z ∧ a12.fdiv b1 * b + (a12.fmod b1 * Z + a3 - a12.fdiv b1 * b2) = a12 * Z + a3 ∧ a12.fmod b1 * Z + a3 - a12.fdiv b1 * b2 < b := by
  obtain ⟨e1, e2, e3⟩ := fdiv_facts a12 h7
  have hq : 0 ≤ a12.fdiv b1 := Int.fdiv_nonneg h0 (by (first | exact omG1.2.2.2.2.1 h7 | omega))
  have hb1 : b1 * 1 ≤ b1 * Z := Int.mul_le_mul_of_nonneg_left (by (first | exact omG0.2.2.2.2.2.2.2.2.2.2.2 hZ | omega)) (by (first | exact omG1.2.2.2.2.1 h7 | omega))
  have hq1 : 1 * a12.fdiv b1 ≤ b1 * a12.fdiv b1 := Int.mul_le_mul_of_nonneg_right (by (first | exact omG0.2.2.2.2.2.2.2.2.2.2.2 h7 | omega)) hq
  generalize a12.fdiv b1 = q at *
  generalize a12.fmod b1 = r at *
  refine ⟨e2, hq, by (first | exact omG1.2.2.2.2.2.2.2.2.2.2.1 h1 h8 hq1 e2 e1 | omega), by (first | exact omG1.2.2.2.2.2.2.2.2.2.2.2 h4 h5 h8 hb1 e3 | omega), by
    subst h4; subst e1
    have u1 := Int.mul_add q (b1 * Z) b2
    have u2 := Int.add_mul (b1 * q) r Z
    have u3 : q * (b1 * Z) = b1 * q * Z := by rw [← Int.mul_assoc, Int.mul_comm q b1]
    (first | exact omG38.2.2.2.2.2.2.2.2.2.2.1 u1 u2 u3 | omega), ?_⟩
  have h9 : (r + 1) * Z ≤ b1 * Z := Int.mul_le_mul_of_nonneg_right (by (first | exact omG1.2.2.2.2.2.2.2.2.2.1 e3 | omega)) (by (first | exact omG1.2.2.2.2.1 hZ | omega))
  have h10 : 0 ≤ q * b2 := Int.mul_nonneg hq h5
  have h11 : (r + 1) * Z = r * Z + Z := by rw [Int.add_mul, Int.one_mul]
  (first | exact omG2.1 h3 h4 h5 h9 h10 h11 | omega)
end

section
open PySem
theorem half_facts {Z a b : Int} (hZ : 0 < Z) (h0 : 0 ≤ a) (hab : a < b * (Z * Z)) (hb0 : Z ≤ b) :
    0 ≤ a.fdiv (Z * Z) ∧ a.fdiv (Z * Z) < b ∧ 0 ≤ (a.fdiv Z).fmod Z ∧ (a.fdiv Z).fmod Z < Z ∧ b = b.fdiv Z * Z + b.fmod Z ∧ 0 ≤ b.fmod Z ∧ b.fmod Z < Z ∧ 0 < b.fdiv Z ∧ 0 ≤ a.fmod Z ∧ a.fmod Z < Z ∧
      a.fdiv (Z * Z) * Z + (a.fdiv Z).fmod Z = a.fdiv Z := by
  have hZZ : 0 < Z * Z := Int.mul_pos hZ hZ
  obtain ⟨a1, a2, a3⟩ := fdiv_facts a hZZ
  obtain ⟨b1, b2, b3⟩ := fdiv_facts b hZ
  obtain ⟨c1, c2, c3⟩ := fdiv_facts a hZ
  obtain ⟨d1, d2, d3⟩ := fdiv_facts (a.fdiv Z) hZ
  have e : a.fdiv (Z * Z) = (a.fdiv Z).fdiv Z := by
    have h : (a.fdiv Z).fdiv Z * (Z * Z) + ((a.fdiv Z).fmod Z * Z + a.fmod Z) = a := by
      have u1 := Int.add_mul (Z * (a.fdiv Z).fdiv Z) ((a.fdiv Z).fmod Z) Z
      have u2 := Int.mul_comm Z (a.fdiv Z)
      have u3 : a.fdiv Z * Z = (Z * (a.fdiv Z).fdiv Z + (a.fdiv Z).fmod Z) * Z := congrArg (fun t => t * Z) d1
      have u4 : (a.fdiv Z).fdiv Z * (Z * Z) = Z * (a.fdiv Z).fdiv Z * Z := by rw [Int.mul_comm Z ((a.fdiv Z).fdiv Z), Int.mul_assoc]
      (first | exact omG38.2.2.2.2.2.2.2.2.2.2.2 c1 u1 u2 u3 u4 | omega)
    refine (div_of h ?_ ?_).1
    · have := Int.mul_nonneg d2 (Int.le_of_lt hZ); (first | exact omG2.2.1 c2 this | omega)
    · have h9 : ((a.fdiv Z).fmod Z + 1) * Z ≤ Z * Z := Int.mul_le_mul_of_nonneg_right (by (first | exact omG1.2.2.2.2.2.2.2.2.2.1 d3 | omega)) (by (first | exact omG1.2.2.2.2.1 hZ | omega))
      have u := Int.add_mul ((a.fdiv Z).fmod Z) 1 Z
      (first | exact omG39.1 c3 h9 u | omega)
  refine ⟨Int.fdiv_nonneg h0 (by (first | exact omG1.2.2.2.2.1 hZZ | omega)), ?_, d2, d3, by have u := Int.mul_comm Z (b.fdiv Z); (first | exact omG39.2.1 b1 u | omega), b2, b3, ?_, c2, c3, by rw [e]; have u := Int.mul_comm Z ((a.fdiv Z).fdiv Z); (first | exact omG39.2.2.1 d1 u | omega)⟩
  · false_or_by_contra; rename_i hh
    have h9 : b * (Z * Z) ≤ a.fdiv (Z * Z) * (Z * Z) := Int.mul_le_mul_of_nonneg_right (by (first | exact omG2.2.2.1 hh | omega)) (by (first | exact omG1.2.2.2.2.1 hZZ | omega))
    have u := Int.mul_comm (Z * Z) (a.fdiv (Z * Z))
    (first | exact omG39.2.2.2.1 hab a1 a2 h9 u | omega)
  · false_or_by_contra; rename_i hh
    have h9 : Z * b.fdiv Z ≤ Z * 0 := Int.mul_le_mul_of_nonneg_left (by (first | exact omG2.2.2.2.1 hh | omega)) (by (first | exact omG1.2.2.2.2.1 hZ | omega))
    (first | exact omG2.2.2.2.2.1 hb0 b1 b3 h9 | omega)
theorem half_end {Z b r A x : Int} (hZ : 0 < Z) (hb : 0 < b) (h0 : 0 ≤ r) (h1 : r < b) (h2 : 0 ≤ x) (h3 : x < Z) {q1 : Int} (hq : 0 ≤ q1) (he : q1 * b + r = A) :
    0 ≤ (r * Z + x).fdiv b ∧ (r * Z + x).fdiv b < Z ∧ q1 * Z + (r * Z + x).fdiv b = (A * Z + x).fdiv b ∧ (r * Z + x).fmod b = (A * Z + x).fmod b := by
  obtain ⟨a1, a2, a3⟩ := fdiv_facts (r * Z + x) hb
  have hn : 0 ≤ r * Z + x := by have := Int.mul_nonneg h0 (Int.le_of_lt hZ); (first | exact omG2.2.1 h2 this | omega)
  have h9 : (r + 1) * Z ≤ b * Z := Int.mul_le_mul_of_nonneg_right (by (first | exact omG1.2.2.2.2.2.2.2.2.2.1 h1 | omega)) (by (first | exact omG1.2.2.2.2.1 hZ | omega))
  have e : (q1 * Z + (r * Z + x).fdiv b) * b + (r * Z + x).fmod b = A * Z + x := by
    have u1 := Int.add_mul (q1 * Z) ((r * Z + x).fdiv b) b
    have u2 := Int.mul_right_comm q1 Z b
    have u3 : (q1 * b + r) * Z = A * Z := congrArg (fun t => t * Z) he
    have u4 := Int.add_mul (q1 * b) r Z
    have u5 := Int.mul_comm b ((r * Z + x).fdiv b)
    (first | exact omG39.2.2.2.2.1 a1 u1 u2 u3 u4 u5 | omega)
  obtain ⟨d1, d2⟩ := div_of e a2 a3
  refine ⟨Int.fdiv_nonneg hn (by (first | exact omG1.2.2.2.2.1 hb | omega)), ?_, d1.symm, d2.symm⟩
  false_or_by_contra; rename_i hh
  have h10 : b * Z ≤ b * (r * Z + x).fdiv b := Int.mul_le_mul_of_nonneg_left (by (first | exact omG2.2.2.1 hh | omega)) (by (first | exact omG1.2.2.2.2.1 hb | omega))
  have u := Int.add_mul r 1 Z
  (first | exact omG39.2.2.2.2.2.1 h3 a1 a2 h9 h10 u | omega)
theorem scale_div {a b P : Int} (hb : 0 < b) (hP : 0 < P) : (a * P).fdiv (b * P) = a.fdiv b ∧ (a * P).fmod (b * P) = a.fmod b * P := by
  obtain ⟨a1, a2, a3⟩ := fdiv_facts a hb
  refine div_of (by
    have u1 : a * P = (b * a.fdiv b + a.fmod b) * P := congrArg (fun t => t * P) a1
    have u2 := Int.add_mul (b * a.fdiv b) (a.fmod b) P
    have u3 : a.fdiv b * (b * P) = b * a.fdiv b * P := by rw [Int.mul_comm b (a.fdiv b), Int.mul_assoc]
    (first | exact omG39.2.2.2.2.2.2.1 u1 u2 u3 | omega)) (Int.mul_nonneg a2 (by (first | exact omG1.2.2.2.2.1 hP | omega))) (Int.mul_lt_mul_of_pos_right a3 hP)
theorem pow_mono {m n : Nat} (h : m ≤ n) : (2 : Int) ^ m ≤ 2 ^ n := by
  have := Nat.pow_le_pow_right (n := 2) (by (first | exact omG2.2.2.2.2.2.1 | omega)) h
  have h2 : ((2 ^ m : Nat) : Int) ≤ ((2 ^ n : Nat) : Int) := Int.ofNat_le.mpr this
  simpa using h2
theorem noPy (x : Int) {y : Int} {k : Nat} (h0 : 0 ≤ y) (h : y < 2 ^ k) (hk : k ≤ 9000) : Builtin.divisionGoesByPylong x y = false := by
  refine PyProof.noPylong_of_log2 ?_
  have h1 := bits_le' h0 h
  unfold Builtin.Int.intBits at h1
  split at h1
  · rename_i hy; have : y = 0 := by simpa using hy
    subst this; decide +kernel
  · (first | exact omG2.2.2.2.2.2.2.1 hk h1 | omega)
end

section
open PySem PySem.W PySem.Calls PyProof.Rows
set_option maxRecDepth 100000

section
variable {prog : Program} {w : World} {A : Around} {s : Shared} {K : Frag} {base : Heap} {outer : List Env}

/-- a call of a def of the written part: the ground is the heap as it is -/
theorem enter {R : Result → Shared → Prop} {name qual : Str} {params : Arguments} {body : List Stmt} {scope : Scope} {dV kV doc pm cdv ct oc : Value} {an od : Option Addr} {osl : Array (Option Value)} {f : Addr} {args : Args} {binds : List (Str × Value)}
    (X : K.In s.heap) (hlim : s.heap.NoLimit)
    (ho : K.lookup f = some ⟨oc, od, .func (fnOf name qual params body scope dV kV doc pm an cdv ct), osl⟩) (hcd : codeIn K cdv qual = true) (hroom : A.depth < recursionLimit)
    (hbind : BindsTo s (fnOf name qual params body scope dV kV doc pm an cdv ct) args binds) (hloc : ∀ y ∈ binds, scope.names.lookup y.1 = some .local)
    (h : ∀ L h₁, Fr s.heap L h₁ (fun y => binds.reverse.lookup y) → s.heap.objs.size = L →
      wpAny (model prog w) (A.deeper (envOf qual scope L f cdv)) (execs body (envOf qual scope L f cdv))
        (fun fl s' => R (.ok (.ret (match fl with | .ret v => v | _ => .none))) s')
        (fun e s' => wpAny (model prog w) (A.deeper (envOf qual scope L f cdv)) (leaving (envOf qual scope L f cdv) e) (fun _ s'' => R (.error e) s'') (fun e' s'' => R (.error e') s'') s')
        { s with heap := h₁, toks := s.toks + binds.length })
    (hcell : ∀ x ∈ scope.names, x.2 ≠ .cell) (hco : scope.isCoroutine = false) (hgen : scope.isGenerator = false) (hk : scope.kind = .function) : codeAny (model prog w) A (.call (.ref f) args) R s :=
  codeAny_call_def (fd := fnOf name qual params body scope dV kV doc pm an cdv ct) (body := body) (binds := binds) hroom (X _ _ ho) rfl hlim (codeRec_of X hcd) rfl hbind hcell hloc
    (fun h₁ hns hk₁ => h _ h₁ ⟨hns, hk₁, Nat.le_refl _⟩ rfl) hco hgen hk

/-- the same, for a body that raises nothing -/
theorem enterF {Q E : Value → Shared → Prop} {name qual : Str} {params : Arguments} {body : List Stmt} {scope : Scope} {dV kV doc pm cdv ct oc : Value} {an od : Option Addr} {osl : Array (Option Value)} {f : Addr} {args : List Value} {binds : List (Str × Value)}
    (X : K.In s.heap) (hlim : s.heap.NoLimit)
    (ho : K.lookup f = some ⟨oc, od, .func (fnOf name qual params body scope dV kV doc pm an cdv ct), osl⟩) (hcd : codeIn K cdv qual = true) (hroom : A.depth < recursionLimit)
    (hbind : BindsTo s (fnOf name qual params body scope dV kV doc pm an cdv ct) ⟨args, []⟩ binds) (hloc : ∀ y ∈ binds, scope.names.lookup y.1 = some .local)
    (h : ∀ L h₁ (tk : Tok), Fr s.heap L h₁ (fun y => binds.reverse.lookup y) → s.heap.objs.size = L →
      wpAny (model prog w) (A.deeper (envOf qual scope L f cdv)) (execs body (envOf qual scope L f cdv))
        (fun fl s' => Q (match fl with | .ret v => v | _ => .none) s')
        (fun _ _ => False)
        { s with heap := h₁, toks := tk })
    (hcell : ∀ x ∈ scope.names, x.2 ≠ .cell) (hco : scope.isCoroutine = false) (hgen : scope.isGenerator = false) (hk : scope.kind = .function) : wpAny (model prog w) A (call (.ref f) args) Q E s :=
  wpAny_call (enter X hlim ho hcd hroom hbind hloc (fun L h₁ F e => wpAny_mono (h L h₁ _ F e) (fun _ _ q => q) fun _ _ q => q.elim) hcell hco hgen hk)
end

/-- a fact that the walk is to leave alone -/
structure Hold (P : Prop) : Prop where
  out : P
section
variable {M : Model} {A : Around} {E : Value → Shared → Prop} {s : Shared} {env : Env}
theorem execs_append (l₁ l₂ : List Stmt) : execs (l₁ ++ l₂) env = (execs l₁ env >>= fun f => match f with | .next => execs l₂ env | f => pure f) := by
  induction l₁ with
  | nil => rfl
  | cons a l ih =>
    rw [List.cons_append, execs_cons, ih, execs_cons]
    show (exec a env).bind _ = ((exec a env).bind _).bind _
    rw [Sem.bind_eq_wrap, Sem.bind_eq_wrap, Sem.bind_eq_wrap, Sem.wrap_wrap]
    refine Sem.wrap_congr _ _ _ (fun f => ?_) (fun _ => rfl)
    cases f <;> first | rfl | exact Sem.bind_eq_wrap _ _
theorem execs_at (k : Nat) {l : List Stmt} {Q : Flow → Shared → Prop}
    (h : wpAny M A (execs (l.take k) env) (fun f s' => match f with | .next => wpAny M A (execs (l.drop k) env) Q E s' | f => Q f s') E s) : wpAny M A (execs l env) Q E s := by
  rw [← List.take_append_drop k l, execs_append]
  refine wpAny_bind (wpAny_mono h (fun f s' q => ?_) fun _ _ e => e)
  cases f <;> first | exact q | exact wpAny_pure q
/-- a cut after k statements, whose walk sees no post -/
theorem cut_at (k : Nat) {l : List Stmt} {Q : Flow → Shared → Prop} (Q0 : Shared → Prop) (h : ∀ R : Flow → Shared → Prop, (∀ s', Q0 s' → R .next s') → wpAny M A (execs (l.take k) env) R (fun _ _ => False) s)
    (g : ∀ s', Q0 s' → wpAny M A (execs (l.drop k) env) Q E s') : wpAny M A (execs l env) Q E s :=
  execs_at k (wpAny_mono (h (fun f s' => f = .next ∧ Q0 s') fun _ q => ⟨rfl, q⟩) (fun f s' q => by obtain ⟨rfl, q⟩ := q; exact g s' q) fun _ _ e => e.elim)
/-- a for whose turns raise nothing -/
theorem for_turns {x : Str} {px pos : Pos} {iter : Expr} {body : List Stmt} {Q : Flow → Shared → Prop} {prog : Program} {w : World}
    (h : wpAny (model prog w) A (eval iter env) (fun xv s₁ => wpAny (model prog w) A (pyIter xv) (fun it s₂ => ∃ (I : Nat → Shared → Prop) (n : Nat), I n s₂ ∧ ∀ n s, I n s → wpAny (model prog w) A (pyNext it) (fun r s₁ => match r with
      | none => Q .next s₁
      | some v => wpAny (model prog w) A (storeName env x v) (fun _ s₂ => wpAny (model prog w) A (execs body env) (fun f s₃ => match f with
        | .next | .cont => Hold (∃ m, m < n ∧ I m s₃)
        | .brk => Q .next s₃
        | .ret v => Q (.ret v) s₃) (fun _ _ => False) s₂) (fun _ _ => False) s₁) (fun _ _ => False) s) (fun _ _ => False) s₁) (fun _ _ => False) s)
    (hs : ∀ x, foldedSetIterable iter env x = pure x) : wpAny (model prog w) A (exec (.For (.Name x px) iter body [] pos) env) Q (fun _ _ => False) s := by
  refine wpAny_For (wpAny_mono h (fun xv s₁ h₁ => wpAny_mono h₁ (fun it s₂ h₂ => ?_) fun _ _ e => e) fun _ _ e => e) hs
  obtain ⟨I, n, h0, step⟩ := h₂
  refine codeAny_forLoop I (fun n s hI => wpAny_mono (step n s hI) (fun r s₁ h₁ => ?_) fun _ _ e => e.elim) n h0
  cases r with
  | none => exact wpAny_execs_nil h₁
  | some v => exact wpAny_mono (wpAny_assign_Name h₁) (fun _ s₂ h₂ => wpAny_mono h₂ (fun f s₃ h₃ => by cases f <;> first | exact h₃ | exact h₃.out) fun _ _ e => e.elim) fun _ _ e => e.elim
/-- the same, for a body that is walked with no post in sight -/
theorem for_turnsR {x : Str} {px pos : Pos} {iter : Expr} {body : List Stmt} {Q : Flow → Shared → Prop} {prog : Program} {w : World}
    (h : wpAny (model prog w) A (eval iter env) (fun xv s₁ => wpAny (model prog w) A (pyIter xv) (fun it s₂ => ∃ (I : Nat → Shared → Prop) (n : Nat), I n s₂ ∧ ∀ n s, I n s → ∀ (N : Shared → Prop) (R : Flow → Shared → Prop), (∀ s', Q .next s' → N s') → (∀ m s', m < n → I m s' → R .next s') → (∀ m s', m < n → I m s' → R .cont s') →
      (∀ s', Q .next s' → R .brk s') → (∀ v s', Q (.ret v) s' → R (.ret v) s') → wpAny (model prog w) A (pyNext it) (fun r s₁ => match r with
      | none => N s₁
      | some v => wpAny (model prog w) A (storeName env x v) (fun _ s₂ => wpAny (model prog w) A (execs body env) R (fun _ _ => False) s₂) (fun _ _ => False) s₁) (fun _ _ => False) s) (fun _ _ => False) s₁) (fun _ _ => False) s)
    (hs : ∀ x, foldedSetIterable iter env x = pure x) : wpAny (model prog w) A (exec (.For (.Name x px) iter body [] pos) env) Q (fun _ _ => False) s :=
  for_turns (wpAny_mono h (fun _ s₁ h₁ => wpAny_mono h₁ (fun _ s₂ h₂ => h₂.elim fun I h₃ => h₃.elim fun n h₄ => ⟨I, n, h₄.1, fun n s hI => h₄.2 n s hI (Q .next) _ (fun _ q => q) (fun m _ a b => ⟨m, a, b⟩) (fun m _ a b => ⟨m, a, b⟩) (fun _ q => q) (fun _ _ q => q)⟩) fun _ _ e => e) fun _ _ e => e) hs
end

/-- what a call may lean on: the written part, the top's facts, room; n calls more may lie above it -/
structure Cx (w : World) (mean : ExcName → Option Value) (mg mb : Str → Option Value) (n : Nat) (A : Around) (h : Heap) : Prop where
  below : ∃ base outer, Below A base outer h
  X : (hd.heap_39 w.params).In h
  T : Top hd.view_39 (looseW hd.view_39 []) mean mg mb h
  room : A.depth + n < recursionLimit
  units : A.units + 10 * n + 40 < cLine
  hand : A.handled = none

section
variable {w : World} {mean : ExcName → Option Value} {mg mb : Str → Option Value} {n : Nat} {A : Around} {h h' : Heap}
theorem Cx.keeps (C : Cx w mean mg mb n A h) (k : h.StaysIn h') : Cx w mean mg mb n A h' := by
  obtain ⟨base, outer, B⟩ := C.below
  exact ⟨⟨base, outer, B.stack, fun b o e => k b o (B.stays b o e), B.frames.of_keeps fun b o e _ => ⟨o, k b o e, rfl⟩⟩, C.X.keeps k, C.T.keeps k, C.room, C.units, C.hand⟩
theorem Cx.push {L a : Addr} {m : Str → Option Value} {name : Str} {scope : Scope} {cd : Value} (C : Cx w mean mg mb (n + 1) A h) (F : Fr h L h' m) (hk : scope.kind = .function := by rfl) :
    Cx w mean mg mb n (A.deeper (envOf name scope L a cd)) h' := by
  obtain ⟨base, outer, B⟩ := C.below
  refine ⟨⟨base, _, B.push F hk⟩, C.X.keeps F.keep, C.T.keeps F.keep, ?_, ?_, C.hand⟩
  · have := C.room; simp only [depth_deeper]; (first | exact omG2.2.2.2.2.2.2.2.1 this | omega)
  · have := C.units; simp only [Around.deeper_units]; (first | exact omG2.2.2.2.2.2.2.2.2.1 this | omega)
theorem Cx.less {k : Nat} (C : Cx w mean mg mb n A h) (hk : k ≤ n) : Cx w mean mg mb k A h :=
  ⟨C.below, C.X, C.T, by have := C.room; (first | exact omG2.2.2.2.2.2.2.2.2.2.1 hk this | omega), by have := C.units; (first | exact omG2.2.2.2.2.2.2.2.2.2.2.1 hk this | omega), C.hand⟩
theorem Cx.depth (C : Cx w mean mg mb n A h) : A.depth < recursionLimit := by have := C.room; (first | exact omG2.2.2.2.2.2.2.2.2.2.2.2 this | omega)
end

section
variable {h₀ h h' : Heap} {L : Addr} {m : Str → Option Value} {news : List (Addr × Obj)}
theorem fr_on (F : Fr h₀ L h m) (k : h.StaysIn h') : Fr h₀ L h' m := F.keeps k
theorem news_on (N : News h₀ L h news) (k : h.StaysIn h') : News h₀ L h' news := fun p hp => ⟨k _ _ (N p hp).1, (N p hp).2⟩
theorem news_add {D : Addr} {o : Obj} (F : Fr h₀ L h m) (N : News h₀ L h news) (k : h.StaysIn h') (hn : h.get? D = none) (hD : h'.get? D = some o) : News h₀ L h' ((D, o) :: news) := by
  intro p hp
  rcases List.mem_cons.mp hp with rfl | hp
  · refine ⟨hD, fun e => ?_, ?_⟩
    · obtain ⟨oL, _, _, hL, _⟩ := F.ns
      rw [show D = L from e, hL] at hn; cases hn
    · cases q : h₀.get? D with
      | none => rfl
      | some o' => have := F.keep _ _ q; rw [hn] at this; cases this
  · exact news_on N k p hp
theorem none_size (F : Fr h₀ L h m) : h₀.get? h.objs.size = none := by
  cases q : h₀.get? h.objs.size with
  | none => rfl
  | some o => exact absurd (Heap.lt_size (F.keep _ _ q)) (Nat.lt_irrefl _)
theorem news_ne {D : Addr} (N : News h₀ L h news) (hn : h.get? D = none) : ∀ p ∈ news, p.1 ≠ D := fun p hp e => by
  have := (N p hp).1; rw [e, hn] at this; cases this
end

noncomputable abbrev tup2 (a b : Value) : Obj := { cls := .type "tuple", data := .seq #[a, b] }
end

open PySem PySem.W PySem.Calls PyProof.Rows
local macro_rules | `(tactic| omega) => `(tactic| k_extra "om")
local macro_rules | `(tactic| k_all) => `(tactic| assumption)
local macro_rules | `(tactic| cell_enter) => `(tactic| k_extra "cell")
local macro_rules | `(tactic| walk_at $s:str) => `(tactic| k_extra $s)

section
open PySem PySem.W PySem.Calls PyProof.Rows
set_option maxRecDepth 100000
set_option maxHeartbeats 8000000

/-- _div2n1n tells of these what division tells -/
noncomputable def D2 (w : World) (mean : ExcName → Option Value) (mg mb : Str → Option Value) (k : Nat) (a b n : Int) : Prop :=
  ∀ (A : Around) (s : Shared) (ta tb tn : Tok) (Q E : Value → Shared → Prop), Cx w mean mg mb k A s.heap →
    (∀ D t u h' tk', s.heap.StaysIn h' → s.heap.get? D = none → h'.get? D = some (tup2 (.int (a.fdiv b) t) (.int (a.fmod b) u)) → Q (.ref D) { s with heap := h', toks := tk' }) →
    wpAny (model PySem.Challenge.rw_xi0003_01.row.prog w) A (call (.ref 21) [.int a ta, .int b tb, .int n tn]) Q E s
noncomputable def D3 (w : World) (mean : ExcName → Option Value) (mg mb : Str → Option Value) (k : Nat) (a12 a3 b b1 b2 n q r : Int) : Prop :=
  ∀ (A : Around) (s : Shared) (ta tc tb td te tn : Tok) (Q E : Value → Shared → Prop), Cx w mean mg mb k A s.heap →
    (∀ D t u h' tk', s.heap.StaysIn h' → s.heap.get? D = none → h'.get? D = some (tup2 (.int q t) (.int r u)) → Q (.ref D) { s with heap := h', toks := tk' }) →
    wpAny (model PySem.Challenge.rw_xi0003_01.row.prog w) A (call (.ref 28) [.int a12 ta, .int a3 tc, .int b tb, .int b1 td, .int b2 te, .int n tn]) Q E s

theorem d2_small {w : World} {mean : ExcName → Option Value} {mg mb : Str → Option Value} {k : Nat} {a b n : Int} (hb : b ≠ 0) (hbits : (Builtin.Int.intBits a : Int) - n ≤ 4000) (hp : Builtin.divisionGoesByPylong a b = false) :
    D2 w mean mg mb k a b n := by
  k_with_none
  k_with "om" => (with_reducible (first | assumption | exact nnA (by assumption) | exact nnB (by assumption) | exact nnC (by assumption) (by assumption) | exact nnD (by assumption) | exact nnE (by assumption) | exact omG21.2.2.2.1 (by assumption) (by assumption) | exact omG21.2.2.1 (by assumption) (by assumption) | exact omG30.2.2.2.2.1 (by assumption) (by assumption) | exact omG3.2.2.2.2.2.2.2.2.2.1))
  k_with "eval Name" => ((k_here; k_dflt (refine' ld ?k1 ?k2 ?_; (case k1 => k_asm); (case k2 => assumption); k_whole)))
  k_with "loadName" => ((k_here; k_dflt (refine' ldn ?k1 ?k2 ?_; (case k1 => k_asm); (case k2 => assumption); k_whole)))
  k_with "binaryOp LShift int int" => ((k_here; refine lshift_int (by omega) (by assumption) ?_))
  k_with "binaryOp Mult int int" => ((k_here; refine mul_int ?_ (by assumption)))
  k_with "cell" => (k_dflt (refine' enterF ?hX ?hlim ?ho ?hcd ?hr ?hbind ?hloc ?_ ?c2 ?c3 ?c4 ?c5; (case hX => assumption); (case hlim => exact Top.nolimit (by assumption)); (case ho => k_is); (case hcd => k_is); (case hr => exact Cx.depth (by assumption)); (case hbind => exact BindsTo.of_eq rfl); (case hloc => exact locs rfl); (case c2 => decide); (case c3 => exact rfl); (case c4 => exact rfl); (case c5 => exact rfl); k_whole))
  intro A s ta tb tn Q E C ret
  obtain ⟨hd0, dp, fr, gd, un⟩ := A
  obtain rfl : hd0 = none := C.hand
  have X := C.X
  have T := C.T
  k_dflt (refine' enterF X T.nolimit ?ho ?hcd ?hr ?hbind ?hloc ?_ ?c2 ?c3 ?c4 ?c5; (case ho => k_is); (case hcd => k_is); (case hr => exact C.depth); (case hbind => exact BindsTo.of_eq rfl); (case hloc => exact locs rfl); (case c2 => decide); (case c3 => exact rfl); (case c4 => exact rfl); (case c5 => exact rfl); k_whole)
  intro L h₁ tk₀ F eL
  try dsimp only
  k_fold
  have N : News s.heap L h₁ [] := News.nil
  k_steps
  refine divmod_N (by assumption) (by assumption) hb ?_ (Or.inl hp)
  intro h' F' N'
  k_steps
  exact ret _ _ _ _ _ F'.keep (N' _ (.head _)).2.2 (N' _ (.head _)).1

theorem d3_one {w : World} {mean : ExcName → Option Value} {mg mb : Str → Option Value} {k N : Nat} {a12 a3 b b1 b2 : Int} (hN : N ≤ 100000) (h0 : 0 ≤ a12) (h1 : a12 < b) (h2 : 0 ≤ a3) (h3 : a3 < 2 ^ N) (h4 : b = b1 * 2 ^ N + b2) (h5 : 0 ≤ b2) (h6 : b2 < 2 ^ N) (h7 : 0 < b1) (h8 : b < 2 ^ (2 * N))
    (hd2 : a12.fdiv (2 ^ N) ≠ b1 → D2 w mean mg mb k a12 b1 N) :
    D3 w mean mg mb (k + 1) a12 a3 b b1 b2 N ((a12 * 2 ^ N + a3).fdiv b) ((a12 * 2 ^ N + a3).fmod b) := by
  k_with_none
  k_with "om" => (with_reducible (first | assumption | exact nnA (by assumption) | exact nnB (by assumption) | exact nnC (by assumption) (by assumption) | exact nnD (by assumption) | exact nnE (by assumption) | exact omG21.2.2.2.1 (by assumption) (by assumption) | exact omG21.2.2.1 (by assumption) (by assumption) | exact omG30.2.2.2.2.1 (by assumption) (by assumption) | exact omG3.2.2.2.2.2.2.2.2.2.1))
  k_with "eval Name" => ((k_here; k_dflt (refine' ld ?k1 ?k2 ?_; (case k1 => k_asm); (case k2 => assumption); k_whole)))
  k_with "loadName" => ((k_here; k_dflt (refine' ldn ?k1 ?k2 ?_; (case k1 => k_asm); (case k2 => assumption); k_whole)))
  k_with "binaryOp LShift int int" => ((k_here; refine lshift_int (by omega) (by assumption) ?_))
  k_with "binaryOp Mult int int" => ((k_here; refine mul_int ?_ (by assumption)))
  k_with "cell" => (k_dflt (refine' enterF ?hX ?hlim ?ho ?hcd ?hr ?hbind ?hloc ?_ ?c2 ?c3 ?c4 ?c5; (case hX => assumption); (case hlim => exact Top.nolimit (by assumption)); (case ho => k_is); (case hcd => k_is); (case hr => exact Cx.depth (by assumption)); (case hbind => exact BindsTo.of_eq rfl); (case hloc => exact locs rfl); (case c2 => decide); (case c3 => exact rfl); (case c4 => exact rfl); (case c5 => exact rfl); k_whole))
  intro A s ta tc tb td te tn Q E C ret
  obtain ⟨hd0, dp, fr, gd, un⟩ := A
  obtain rfl : hd0 = none := C.hand
  have X := C.X
  have T := C.T
  cell_enter
  intro L h₁ tk₀ F eL
  try dsimp only
  k_fold
  have NN : News s.heap L h₁ [] := News.nil
  have hZ : (0 : Int) < 2 ^ N := Int.pow_pos (by (first | exact omG0.2.2.2.1 | omega))
  have eN : (N : Int).toNat = N := Int.toNat_natCast N
  have e2N : (2 : Int) ^ (2 * N) = 2 ^ N * 2 ^ N := by rw [Nat.two_mul, Int.pow_add]
  have hb1 : b1 * 1 ≤ b1 * 2 ^ N := Int.mul_le_mul_of_nonneg_left (by (first | exact omG0.2.2.2.2.2.2.2.2.2.2.2 hZ | omega)) (by (first | exact omG1.2.2.2.2.1 h7 | omega))
  have hs0 : (Builtin.Int.intBits 1 : Int) + N ≤ 2 ^ 27 := by
    have : Builtin.Int.intBits 1 = 1 := by decide
    (first | exact omG3.2.2.2.2.2.2.1 hN this | omega)
  have hs1 : (Builtin.Int.intBits b1 : Int) + N ≤ 2 ^ 27 := by
    have := bits_le' (Int.le_of_lt h7) (show b1 < 2 ^ (2 * N) by (first | exact omG3.2.2.2.2.2.2.2.1 h4 h5 h8 hb1 | omega))
    (first | exact omG3.2.2.2.2.2.2.2.2.1 hN this | omega)
  refine wpAny_execs_cons ?_
  refine cutR (fun fl s' => fl = .next ∧ ∃ q r tq tr h' tk' m' news', s' = { s with heap := h', toks := tk' } ∧ Fr s.heap L h' m' ∧ News s.heap L h' news' ∧ m' "q" = some (.int q tq) ∧ m' "r" = some (.int r tr) ∧ m' "n" = some (.int N tn) ∧
    m' "a3" = some (.int a3 tc) ∧ m' "b" = some (.int b tb) ∧ m' "b2" = some (.int b2 te) ∧ 0 ≤ r ∧ 0 ≤ q ∧ q < 2 ^ (2 * N) ∧ r < 2 ^ (2 * N) ∧ q * b + (r * 2 ^ N + a3 - q * b2) = a12 * 2 ^ N + a3 ∧ r * 2 ^ N + a3 - q * b2 < b) ?_ ?_
  · intro R hR
    k_steps
    · refine hR _ _ ?_
      refine ⟨rfl, xi8 _ _ _ _ _ _ _ _ ⟨rfl, by assumption, by assumption, rfl, rfl, rfl, rfl, rfl, rfl, ?_⟩⟩
      rw [eN, e2N]
      exact d3_eq hZ (by rw [← eN]; assumption) h0 h1 h2 h3 h4 h5 h6 h7 (by (first | exact omG3.2.2.2.2.2.2.2.2.2.2.1 h8 e2N | omega))
    · refine hd2 (by assumption) _ _ _ _ _ _ _ (C.push (by assumption)) ?_
      intro D t u h' tk' hst hnew hD
      have F' := fr_on F hst
      have N' := news_add F NN hst hnew hD
      k_steps
      refine hR _ _ ?_
      refine ⟨rfl, xi8 _ _ _ _ _ _ _ _ ⟨rfl, by assumption, by assumption, rfl, rfl, rfl, rfl, rfl, rfl, ?_⟩⟩
      rw [e2N]
      exact d3_ne hZ h0 h1 h2 h3 h4 h5 h6 h7 (by (first | exact omG3.2.2.2.2.2.2.2.2.2.2.1 h8 e2N | omega))
  · rintro fl s' xr5
    refine an2 xr5 ?_
    clear xr5
    rintro rfl xq1
    refine ex8 xq1 ?_
    clear xq1
    rintro q r tq tr h' tk' m' news' xq2
    refine an15 xq2 ?_
    clear xq2
    rintro rfl F' N' mq mr mn ma3 mb' mb2 hr0 hq0 hq1 hr1 hV hlt
    have hs2 : (Builtin.Int.intBits r : Int) + N ≤ 2 ^ 27 := by have := bits_le' hr0 hr1; (first | exact omG3.2.2.2.2.2.2.2.2.1 hN this | omega)
    have hs3 : IntMulOk q b2 := IntMulOk.of_bits (by have := bits_le' hq0 hq1; (first | exact omG3.2.2.2.2.2.2.2.2.2.2.2 hN this | omega)) (by have := bits_le' h5 h6; (first | exact omG4.1 hN this | omega))
    have e1 : Builtin.bitOr (r * 2 ^ (N : Int).toNat) a3 - q * b2 = r * 2 ^ N + a3 - q * b2 := by rw [eN, bitOr_add hr0 h2 h3]
    k_with "exec While Compare cons nil" => (
      (refine' While_inv (fun n m₁ _ => ∃ q r tq tr, m₁ "q" = some (.int q tq) ∧ m₁ "r" = some (.int r tr) ∧ m₁ "b" = some (.int b tb) ∧ n = (-r).toNat ∧ q * b + r = a12 * 2 ^ N + a3 ∧ r < b) ?wF ?wN ?wJ ?wT)
      case wF => assumption
      case wN => assumption
      case wJ => exact xi4 _ _ _ _ ⟨mq, rfl, mb', rfl, by rw [e1]; exact hV, by rw [e1]; exact hlt⟩
      case' wT => (rintro n m₁ news₁ h₁ tk₁ F₁ N₁ ⟨q, r, tq, tr, mq, mr, mb, hn, hV, hlt⟩))
    k_steps
    · (rename Fr _ _ _ _ => F9)
      (rename News _ _ _ _ => N9)
      refine WhileStep.intro F9 N9 (n' := (-(r + b)).toNat) ?_ ⟨_, _, _, _, rfl, rfl, mb, rfl, ?_, ?_⟩ <;> grind
    · obtain ⟨d1, d2⟩ := div_of hV (by (first | exact omG4.2.1 (by with_reducible assumption) | omega)) hlt
      rw [d1, d2] at ret
      (rename Fr _ _ _ _ => F9)
      (rename News _ _ _ _ => N9)
      exact ret _ _ _ _ _ F9.keep (N9 _ (.head _)).2.2 (N9 _ (.head _)).1
end

section
open PySem PySem.W PySem.Calls PyProof.Rows
set_option maxRecDepth 100000
set_option maxHeartbeats 8000000

theorem D3.use {w : World} {mean : ExcName → Option Value} {mg mb : Str → Option Value} {k : Nat} {a12 a3 b b1 b2 n q r a12' a3' b' b1' b2' n' : Int} (H : D3 w mean mg mb k a12 a3 b b1 b2 n q r)
    {A : Around} {s : Shared} {ta tc tb td te tn : Tok} {Q E : Value → Shared → Prop} (C : Cx w mean mg mb k A s.heap) (e1 : a12' = a12) (e2 : a3' = a3) (e3 : b' = b) (e4 : b1' = b1) (e5 : b2' = b2) (e6 : n' = n)
    (ret : ∀ D t u h' tk', s.heap.StaysIn h' → s.heap.get? D = none → h'.get? D = some (tup2 (.int q t) (.int r u)) → Q (.ref D) { s with heap := h', toks := tk' }) :
    wpAny (model PySem.Challenge.rw_xi0003_01.row.prog w) A (call (.ref 28) [.int a12' ta, .int a3' tc, .int b' tb, .int b1' td, .int b2' te, .int n' tn]) Q E s := by
  k_with_none
  k_with "om" => (with_reducible (first | assumption | exact nnA (by assumption) | exact nnB (by assumption) | exact nnC (by assumption) (by assumption) | exact nnD (by assumption) | exact nnE (by assumption) | exact omG21.2.2.2.1 (by assumption) (by assumption) | exact omG21.2.2.1 (by assumption) (by assumption) | exact omG30.2.2.2.2.1 (by assumption) (by assumption)))
  k_with "eval Name" => ((k_here; k_dflt (refine' ld ?k1 ?k2 ?_; (case k1 => k_asm); (case k2 => assumption); k_whole)))
  k_with "loadName" => ((k_here; k_dflt (refine' ldn ?k1 ?k2 ?_; (case k1 => k_asm); (case k2 => assumption); k_whole)))
  k_with "binaryOp LShift int int" => ((k_here; refine lshift_int (by first | assumption | omega) (by assumption) ?_))
  k_with "inplaceOp LShift int int" => ((k_here; refine ilshift_int (by omega) (by assumption) ?_))
  k_with "binaryOp Mult int int" => ((k_here; refine mul_int ?_ (by assumption)))
  k_with "cell" => (k_dflt (refine' enterF ?hX ?hlim ?ho ?hcd ?hr ?hbind ?hloc ?_ ?c2 ?c3 ?c4 ?c5; (case hX => assumption); (case hlim => exact Top.nolimit (by assumption)); (case ho => k_is); (case hcd => k_is); (case hr => exact Cx.depth (by assumption)); (case hbind => exact BindsTo.of_eq rfl); (case hloc => exact locs rfl); (case c2 => decide); (case c3 => exact rfl); (case c4 => exact rfl); (case c5 => exact rfl); k_whole))
  subst e1 e2 e3 e4 e5 e6
  exact H A s ta tc tb td te tn Q E C ret

theorem d2_rec {w : World} {mean : ExcName → Option Value} {mg mb : Str → Option Value} {k N : Nat} {a b : Int} (hN : N ≤ 7998) (hN2 : 2 ≤ N) (h0 : 0 ≤ a) (h1 : a < b * 2 ^ N) (h2 : 2 ^ (N - 1) ≤ b) (h3 : b < 2 ^ N) (hbits : ¬ ((Builtin.Int.intBits a : Int) - N ≤ 4000)) :
    D2 w mean mg mb (k + 3) a b N := by
  k_with_none
  k_with "om" => (with_reducible (first | assumption | exact nnA (by assumption) | exact nnB (by assumption) | exact nnC (by assumption) (by assumption) | exact nnD (by assumption) | exact nnE (by assumption) | exact omG21.2.2.2.1 (by assumption) (by assumption) | exact omG21.2.2.1 (by assumption) (by assumption) | exact omG30.2.2.2.2.1 (by assumption) (by assumption)))
  k_with "eval Name" => ((k_here; k_dflt (refine' ld ?k1 ?k2 ?_; (case k1 => k_asm); (case k2 => assumption); k_whole)))
  k_with "loadName" => ((k_here; k_dflt (refine' ldn ?k1 ?k2 ?_; (case k1 => k_asm); (case k2 => assumption); k_whole)))
  k_with "binaryOp LShift int int" => ((k_here; refine lshift_int (by first | assumption | omega) (by assumption) ?_))
  k_with "inplaceOp LShift int int" => ((k_here; refine ilshift_int (by omega) (by assumption) ?_))
  k_with "binaryOp Mult int int" => ((k_here; refine mul_int ?_ (by assumption)))
  k_with "cell" => (k_dflt (refine' enterF ?hX ?hlim ?ho ?hcd ?hr ?hbind ?hloc ?_ ?c2 ?c3 ?c4 ?c5; (case hX => assumption); (case hlim => exact Top.nolimit (by assumption)); (case ho => k_is); (case hcd => k_is); (case hr => exact Cx.depth (by assumption)); (case hbind => exact BindsTo.of_eq rfl); (case hloc => exact locs rfl); (case c2 => decide); (case c3 => exact rfl); (case c4 => exact rfl); (case c5 => exact rfl); k_whole))
  intro A s ta tb tn Q E C ret
  obtain ⟨hd0, dp, fr, gd, un⟩ := A
  obtain rfl : hd0 = none := C.hand
  have X := C.X
  have T := C.T
  cell_enter
  intro L h₁ tk₀ F eL
  try dsimp only
  k_fold
  have NN : News s.heap L h₁ [] := News.nil
  have hsA : (Builtin.Int.intBits a : Int) + 1 ≤ 2 ^ 27 := by
    have h9 : b * 2 ^ N < 2 ^ N * 2 ^ N := Int.mul_lt_mul_of_pos_right h3 (Int.pow_pos (by (first | exact omG0.2.2.2.1 | omega)))
    have := bits_le' h0 (k := N + N) (by rw [Int.pow_add]; (first | exact omG4.2.2.1 h1 h9 | omega))
    (first | exact omG4.2.2.2.1 hN this | omega)
  have hb0 : (0 : Int) ≤ b := Int.le_trans (Int.le_of_lt (Int.pow_pos (by (first | exact omG0.2.2.2.1 | omega)))) h2
  have hsB : (Builtin.Int.intBits b : Int) + 1 ≤ 2 ^ 27 := by
    have := bits_le' hb0 h3
    (first | exact omG4.2.2.2.2.1 hbits hsA this | omega)
  have hPad : Builtin.bitAnd (N : Int) 1 = ((N % 2 : Nat) : Int) := by
    have := bitAnd_mask (x := (N : Int)) (n := 1) (by (first | exact omG3.2.2.2.2.2.2.2.2.2.1 | omega))
    rw [show ((2 : Int) ^ 1 - 1) = 1 by decide] at this
    rw [this, Int.fmod_eq_emod_of_nonneg _ (by decide)]; (first | exact omG4.2.2.2.2.2.1 | omega)
  k_with "exec If Name cons nil" =>
    refine wpAny_mono (Q := fun fl s' => Hold (fl = .next ∧ ∃ H P p ha hb hn hp h' tk' m' news', s' = { s with heap := h', toks := tk' } ∧ Fr s.heap L h' m' ∧ News s.heap L h' news' ∧ m' "a" = some (.int (a * P) ha) ∧ m' "b" = some (.int (b * P) hb) ∧ m' "n" = some (.int ((2 * H : Nat) : Int) hn) ∧
      m' "pad" = some (.int p hp) ∧ ((p = 0 ∧ P = 1 ∧ N = 2 * H) ∨ (p = 1 ∧ P = 2 ∧ N + 1 = 2 * H)))) (E := fun _ _ => False) ?m1 ?m2 (fun _ _ h => h.elim)
    case' m1 => refine wpAny_If ?_
    case' m2 =>
      intro fl s' hq
      refine an2 hq.out ?_
      clear hq
      rintro rfl hq
      refine ex11 hq ?_
      clear hq
      rintro H P p ha hb hn hp h' tk' m' news' hq
      refine an8 hq ?_
      clear hq
      rintro rfl F' N' ma mbb mn mp hP
      dsimp only
      have e2H : ((2 * H : Nat) : Int).toNat = 2 * H := Int.toNat_natCast _
      have eH1 : ((2 * H : Nat) : Int).fdiv (2 ^ (1 : Int).toNat) = H := by
        show ((2 * H : Nat) : Int).fdiv 2 = H
        rw [Int.fdiv_eq_ediv_of_nonneg _ (by (first | exact omG4.2.2.2.2.2.2.1 | omega))]; (first | exact omG4.2.2.2.2.2.2.2.1 | omega)
      have eH2 : (((2 * H : Nat) : Int).fdiv (2 ^ (1 : Int).toNat)).toNat = H := by rw [eH1]; exact Int.toNat_natCast _
      have hS0 : 0 ≤ ((2 * H : Nat) : Int).fdiv (2 ^ (1 : Int).toNat) := by rw [eH1]; (first | exact omG3.2.2.2.2.2.2.2.2.2.1 | omega)
      have hS : (Builtin.Int.intBits 1 : Int) + ((2 * H : Nat) : Int).fdiv (2 ^ (1 : Int).toNat) ≤ 2 ^ 27 := by
        rw [eH1]
        have : Builtin.Int.intBits 1 = 1 := by decide
        (first | exact omG4.2.2.2.2.2.2.2.2.1 hN hP this | omega)
  k_steps
  · have hZ : (0 : Int) < 2 ^ H := Int.pow_pos (by (first | exact omG0.2.2.2.1 | omega))
    have eZ : (2 : Int) ^ (2 * H) = 2 ^ H * 2 ^ H := by rw [Nat.two_mul, Int.pow_add]
    have hP0 : 0 < P := by (first | exact omG4.2.2.2.2.2.2.2.2.2.1 hP | omega)
    have ha0 : 0 ≤ a * P := Int.mul_nonneg h0 (by (first | exact omG1.2.2.2.2.1 hP0 | omega))
    have hEH : 1 ≤ H := by (first | exact omG4.2.2.2.2.2.2.2.2.2.2.1 hN2 hP | omega)
    have key : b * P < 2 ^ H * 2 ^ H ∧ (2 : Int) ^ H ≤ b * P ∧ a * P < b * P * (2 ^ H * 2 ^ H) := by
      rw [← eZ]
      have hlow : (2 : Int) ^ H ≤ 2 ^ (2 * H - 1) := pow_mono (by (first | exact omG4.2.2.2.2.2.2.2.2.2.2.2 | omega))
      have hm : a * P < b * 2 ^ N * P := Int.mul_lt_mul_of_pos_right h1 hP0
      rcases hP with ⟨_, rfl, e⟩ | ⟨_, rfl, e⟩
      · subst e
        refine ⟨by (first | exact omG5.1 h3 | omega), by (first | exact omG5.2.1 hlow h2 | omega), by grind⟩
      · have e2 : (2 : Int) ^ (2 * H) = 2 ^ N * 2 := by rw [← e, Int.pow_succ]
        have e3 : (2 : Int) ^ (2 * H - 1) = 2 ^ (N - 1) * 2 := by rw [← Int.pow_succ]; congr 1; (first | exact omG5.2.2.1 e | omega)
        have hN0 : 0 ≤ b * 2 ^ N := Int.mul_nonneg hb0 (Int.le_of_lt (Int.pow_pos (by (first | exact omG0.2.2.2.1 | omega))))
        rw [e2]
        exact ⟨by (first | exact omG5.2.2.2.1 h3 | omega), by (first | exact omG5.2.2.2.2.1 h2 hlow e3 | omega), by grind⟩
    refine an3 key ?_
    clear key
    rintro k1 k2 k3
    refine an11 (half_facts hZ ha0 k3 k2) ?_
    rintro f1 f2 f3 f4 f5 f6 f7 f8 f9 f10 f11
    have hD2 : ∀ x, 0 ≤ x → x < b * P → D2 w mean mg mb k x ((b * P).fdiv (2 ^ H)) H := fun x hx0 hx1 => by
      refine d2_small (by (first | exact omG1.2.2.1 f8 | omega)) ?_ ?_
      · have := bits_le' (k := 2 * H) hx0 (by (first | exact omG5.2.2.2.2.2.1 eZ k1 hx1 | omega))
        (first | exact omG5.2.2.2.2.2.2.1 hN hP this | omega)
      · have h9 : (b * P).fdiv (2 ^ H) * 1 ≤ (b * P).fdiv (2 ^ H) * 2 ^ H := Int.mul_le_mul_of_nonneg_left (by (first | exact omG0.2.2.2.2.2.2.2.2.2.2.2 hZ | omega)) (by (first | exact omG1.2.2.2.2.1 f8 | omega))
        exact noPy _ (k := 2 * H) (by (first | exact omG1.2.2.2.2.1 f8 | omega)) (by (first | exact omG5.2.2.2.2.2.2.2.1 eZ k1 f5 f6 h9 | omega)) (by (first | exact omG5.2.2.2.2.2.2.2.2.1 hN hP | omega))
    have hD3 := d3_one (w := w) (mean := mean) (mg := mg) (mb := mb) (k := k) (N := H) (by (first | exact omG5.2.2.2.2.2.2.2.2.2.1 hN hP | omega)) f1 f2 f3 f4 f5 f6 f7 f8 (by (first | exact omG5.2.2.2.2.2.2.2.2.2.2.1 eZ k1 | omega)) (fun _ => hD2 _ f1 f2)
    have q1 : 0 ≤ (a * P).fdiv (2 ^ H) := Int.fdiv_nonneg ha0 (by (first | exact omG1.2.2.2.2.1 hZ | omega))
    (rename Fr _ _ _ _ => F5)
    (rename News _ _ _ _ => N5)
    refine D3.use hD3 ((C.push F5).less (by (first | exact omG5.2.2.2.2.2.2.2.2.2.2.2 | omega))) (by rw [e2H, eZ]) (by rw [eH2, Int.one_mul, bitAnd_mask q1]) rfl (by rw [eH2]) (by rw [eH2, Int.one_mul, bitAnd_mask (by (first | exact omG6.1 f1 f2 | omega))]) eH1 ?_
    intro D t u h6 tk6 hst hnew hDD
    have F6 := fr_on F5 hst
    have N6 := news_add F5 N5 hst hnew hDD
    dsimp only
    rw [f11] at N6 hDD
    refine an3 (fdiv_facts ((a * P).fdiv (2 ^ H)) (b := b * P) (by (first | exact omG1.2.1 f1 f2 | omega))) ?_
    rintro g1 g2 g3
    have q2 : 0 ≤ ((a * P).fdiv (2 ^ H)).fdiv (b * P) := Int.fdiv_nonneg q1 (by (first | exact omG6.1 f1 f2 | omega))
    refine an4 (half_end (A := (a * P).fdiv (2 ^ H)) hZ (b := b * P) (by (first | exact omG1.2.1 f1 f2 | omega)) g2 g3 f9 f10 q2 (by rw [Int.mul_comm (Int.fdiv _ _)]; exact g1.symm)) ?_
    rintro j1 j2 j3 j4
    have j5 : (a * P).fdiv (2 ^ H) * 2 ^ H + (a * P).fmod (2 ^ H) = a * P := by
      have := (fdiv_facts (a * P) hZ).1
      rw [Int.mul_comm (2 ^ H)] at this; exact this.symm
    rw [j5] at j3 j4
    have hqb : ((a * P).fdiv (2 ^ H)).fdiv (b * P) * 1 ≤ ((a * P).fdiv (2 ^ H)).fdiv (b * P) * (b * P) := Int.mul_le_mul_of_nonneg_left (by (first | exact omG6.2.1 f1 f2 | omega)) q2
    have hsQ : (Builtin.Int.intBits (((a * P).fdiv (2 ^ H)).fdiv (b * P)) : Int) + ((2 * H : Nat) : Int).fdiv (2 ^ (1 : Int).toNat) ≤ 2 ^ 27 := by
      have h9 : (a * P).fdiv (2 ^ H) * 1 ≤ (a * P).fdiv (2 ^ H) * 2 ^ H := Int.mul_le_mul_of_nonneg_left (by (first | exact omG0.2.2.2.2.2.2.2.2.2.2.2 hZ | omega)) q1
      have h10 : b * P * (2 ^ H * 2 ^ H) < (2 ^ H * 2 ^ H) * (2 ^ H * 2 ^ H) := Int.mul_lt_mul_of_pos_right k1 (by rw [← eZ]; exact Int.pow_pos (by (first | exact omG0.2.2.2.1 | omega)))
      have h11 : ((a * P).fdiv (2 ^ H)).fdiv (b * P) < 2 ^ (2 * H + 2 * H) := by
        rw [Int.pow_add, eZ]
        have := Int.mul_comm (b * P) (((a * P).fdiv (2 ^ H)).fdiv (b * P))
        (first | exact omG6.2.2.1 k3 f9 g1 g2 j5 hqb h9 h10 this | omega)
      have := bits_le' q2 h11
      rw [eH1]
      (first | exact omG6.2.2.2.1 hN hP this | omega)
    have hD3' := d3_one (w := w) (mean := mean) (mg := mg) (mb := mb) (k := k) (N := H) (by (first | exact omG5.2.2.2.2.2.2.2.2.2.1 hN hP | omega)) g2 g3 f9 f10 f5 f6 f7 f8 (by (first | exact omG5.2.2.2.2.2.2.2.2.2.2.1 eZ k1 | omega)) (fun _ => hD2 _ g2 g3)
    k_steps
    (rename Fr _ _ _ _ => F7)
    (rename News _ _ _ _ => N7)
    refine D3.use hD3' ((C.push F7).less (by (first | exact omG5.2.2.2.2.2.2.2.2.2.2.2 | omega))) rfl (by rw [eH2, Int.one_mul, bitAnd_mask ha0]) rfl (by rw [eH2]) (by rw [eH2, Int.one_mul, bitAnd_mask (by (first | exact omG6.1 f1 f2 | omega))]) eH1 ?_
    intro D' t' u' h8 tk8 hst' hnew' hDD'
    have F8 := fr_on F7 hst'
    have N8 := news_add F7 N7 hst' hnew' hDD'
    dsimp only
    obtain ⟨v1, v2⟩ := scale_div (a := a) (b := b) (P := P) (by false_or_by_contra; rename_i hh; have : b * P ≤ 0 * P := Int.mul_le_mul_of_nonneg_right (by (first | exact omG2.2.2.2.1 hh | omega)) (by (first | exact omG1.2.2.2.2.1 hP0 | omega)); (first | exact omG6.2.2.2.2.1 f1 f2 this | omega)) hP0
    have e1 : Builtin.bitOr (((a * P).fdiv (2 ^ H)).fdiv (b * P) * 2 ^ (((2 * H : Nat) : Int).fdiv (2 ^ (1 : Int).toNat)).toNat) ((((a * P).fdiv (2 ^ H)).fmod (b * P) * 2 ^ H + (a * P).fmod (2 ^ H)).fdiv (b * P)) = a.fdiv b := by
      rw [eH2, bitOr_add q2 j1 j2, j3, v1]
    have e2 : (((a * P).fdiv (2 ^ H)).fmod (b * P) * 2 ^ H + (a * P).fmod (2 ^ H)).fmod (b * P) = a.fmod b * P := by rw [j4, v2]
    k_steps
    · try k_unfold
      have e3 : ((((a * P).fdiv (2 ^ H)).fmod (b * P) * 2 ^ H + (a * P).fmod (2 ^ H)).fmod (b * P)).fdiv (2 ^ (1 : Int).toNat) = a.fmod b := by
        rw [e2]
        have hp2 : P = 2 := by (first | exact omG6.2.2.2.2.2.2.1 hP (by with_reducible assumption) | omega)
        subst hp2
        show (a.fmod b * 2).fdiv 2 = _
        rw [Int.fdiv_eq_ediv_of_nonneg _ (by (first | exact omG4.2.2.2.2.2.2.1 | omega))]; (first | exact omG6.2.2.2.2.2.2.2.1 | omega)
      rw [← e1, ← e3] at ret
      (rename Fr _ _ _ _ => F9)
      (rename News _ _ _ _ => N9)
      exact ret _ _ _ _ _ F9.keep (N9 _ (.head _)).2.2 (N9 _ (.head _)).1
    · try k_unfold
      have e3 : (((a * P).fdiv (2 ^ H)).fmod (b * P) * 2 ^ H + (a * P).fmod (2 ^ H)).fmod (b * P) = a.fmod b := by
        rw [e2]
        have hp1 : P = 1 := by (first | exact omG6.2.2.2.2.2.2.2.2.1 hP (by with_reducible assumption) | omega)
        subst hp1
        (first | exact omG6.2.2.2.2.2.2.2.2.2.1 | omega)
      rw [← e1, ← e3] at ret
      (rename Fr _ _ _ _ => F9)
      (rename News _ _ _ _ => N9)
      exact ret _ _ _ _ _ F9.keep (N9 _ (.head _)).2.2 (N9 _ (.head _)).1
  · refine' ⟨⟨rfl, xi11 ((N + 1) / 2) 2 1 _ _ _ _ _ _ _ _ ⟨rfl, ?zf, ?zn, ?za, ?zb, ?zc, ?zd, .inr ⟨rfl, rfl, ?ze⟩⟩⟩⟩
    case zf => assumption
    case zn => assumption
    case za => rfl
    case zb => rfl
    case zc =>
      rw [show 2 * ((N + 1) / 2) = N + 1 by (first | exact omG6.2.2.2.2.2.2.2.2.2.2.1 hPad (by with_reducible assumption) | omega)]
      rfl
    case zd =>
      show some (Value.int (Builtin.bitAnd (N : Int) 1) _) = _
      rw [hPad, show N % 2 = 1 by (first | exact omG6.2.2.2.2.2.2.2.2.2.2.2 hPad (by with_reducible assumption) | omega)]
      rfl
    case ze => (first | exact omG7.1 hPad (by with_reducible assumption) | omega)
  · refine' ⟨⟨rfl, xi11 (N / 2) 1 0 _ _ _ _ _ _ _ _ ⟨rfl, ?yf, ?yn, ?ya, ?yb, ?yc, ?yd, .inl ⟨rfl, rfl, ?ye⟩⟩⟩⟩
    case yf => assumption
    case yn => assumption
    case ya => rw [Int.mul_one]; rfl
    case yb => rw [Int.mul_one]; rfl
    case yc =>
      rw [show 2 * (N / 2) = N by (first | exact omG7.2.1 hPad (by with_reducible assumption) | omega)]
      rfl
    case yd =>
      show some (Value.int (Builtin.bitAnd (N : Int) 1) _) = _
      rw [hPad, show N % 2 = 0 by (first | exact omG7.2.2.1 hPad (by with_reducible assumption) | omega)]
      rfl
    case ye => (first | exact omG7.2.2.2.1 hPad (by with_reducible assumption) | omega)
end

section
open PySem PySem.W PySem.Calls PyProof.Rows
set_option maxRecDepth 100000
section
variable {M : Model} {A : Around} {R : GenEnd} {Y : Protocol} {n : Nat} {s₀ : Shared} {c : Code} {fs : List Frame} {s : Shared} {env : Env}
  {K : Flow → Sem Fin} {H : Value → Sem Fin} {gd : Bool → Bool} {lv : List Value → List Value}

/-- what stands behind an own activation (a loop) -/
noncomputable abbrev backK (env : Env) (K : Flow → Sem Fin) (H : Value → Sem Fin) (gd : Bool → Bool) (lv : List Value → List Value) (r : Result) : Sem Fin :=
  ((match r with | .ok f => (.pure f : Sem Flow) | .error e => .raise e).onRaise fun (x : Value) => do
        if (← field x 1) == Value.none then unsupported "frame.own-activation:exception-without-traceback"
        setFlight x env.frame).wrap K H gd lv

theorem seg_stmt {st : Stmt} {rest : List Stmt}
    (h : wpAny M (A.over c fs) (exec st env) (fun f s' => match f with | .next => Seg M A R Y n s₀ c ((execs rest env).wrap K H gd lv) fs s' | f => Seg M A R Y n s₀ c (K f) fs s') (fun x s' => Seg M A R Y n s₀ c (H x) fs s') s) :
    Seg M A R Y n s₀ c ((execs (st :: rest) env).wrap K H gd lv) fs s :=
  seg_execs_cons (seg_wrap (wpAny_mono h (fun f s' h' => by cases f <;> exact h') fun _ _ x => x))

theorem seg_If {test : Expr} {body orelse : List Stmt} {pos : Pos}
    (h : wpAny M (A.over c fs) (isTrue test env (eval test env)) (fun b s' => if b = true then Seg M A R Y n s₀ c ((execs body env).wrap K H gd lv) fs s' else Seg M A R Y n s₀ c ((execs orelse env).wrap K H gd lv) fs s')
      (fun x s' => Seg M A R Y n s₀ c (H x) fs s') s) :
    Seg M A R Y n s₀ c ((exec (.If test body orelse pos) env).wrap K H gd lv) fs s := by
  rw [exec_If]
  refine seg_bind_wrap (wpAny_standAt (seg_bind_wrap (wpAny_mono h (fun b s' hb => ?_) fun _ _ x => x)))
  cases b with
  | true => simpa using hb
  | false => simpa using hb

theorem seg_For {target iter : Expr} {body orelse : List Stmt} {pos : Pos}
    (h : wpAny M (A.over c fs) (eval iter env) (fun xv s₁ => wpAny M (A.over c fs) (pyIter xv) (fun it s₂ => ∀ p, Seg M A R Y n s₀ (.forLoop target it body orelse env) (M.den (.forLoop target it body orelse env))
        (.ret (backK env K H gd lv) none (gd false) (lv []) c p [] :: fs) s₂) (fun x s' => Seg M A R Y n s₀ c (H x) fs s') s₁) (fun x s' => Seg M A R Y n s₀ c (H x) fs s') s)
    (hs : ∀ x, foldedSetIterable iter env x = pure x) :
    Seg M A R Y n s₀ c ((exec (.For target iter body orelse pos) env).wrap K H gd lv) fs s := by
  rw [exec_For]
  refine seg_bind_wrap (wpAny_standAt (seg_bind_wrap (wpAny_mono h (fun xv s₁ h₁ => ?_) fun _ _ x => x)))
  rw [hs xv]
  refine seg_bind_wrap (wpAny_pure (seg_bind_wrap (wpAny_standAt (seg_bind_wrap (wpAny_holding (wpAny_mono h₁ (fun it s₂ h₂ => ?_) fun _ _ x => x))))))
  exact seg_call h₂
end

section
variable {prog : Program} {w : World} {A : Around} {R : GenEnd} {Y : Protocol} {n : Nat} {s₀ : Shared} {fs : List Frame} {s : Shared} {env : Env}
/-- what a loop's turn does with what its body came to -/
noncomputable abbrev turnK (target : Expr) (it : Value) (body orelse : List Stmt) (env : Env) (f : Flow) : Sem Fin := match f with
  | .next | .cont => .pure (.again (.forLoop target it body orelse env))
  | .brk => .pure (.done .next)
  | .ret v => .pure (.done (.ret v))
noncomputable abbrev turnH (env : Env) (e : Value) : Sem Fin := (do noteFrame e env; theTreesLotGoes e : Sem Unit).wrap (fun _ => .raise e) .raise id id

theorem seg_forLoop {target : Expr} {it : Value} {body orelse : List Stmt}
    (h : wpAny (model prog w) (A.over (.forLoop target it body orelse env) fs) (pyNext it) (fun r s₁ => match r with
      | none => Seg (model prog w) A R Y n s₀ (.forLoop target it body orelse env) (.pure (.again (.block orelse env))) fs s₁
      | some v => wpAny (model prog w) (A.over (.forLoop target it body orelse env) fs) (assign target env v) (fun _ s₂ =>
          Seg (model prog w) A R Y n s₀ (.forLoop target it body orelse env) ((execs body env).wrap (turnK target it body orelse env) (turnH env) id id) fs s₂)
          (fun x s' => Seg (model prog w) A R Y n s₀ (.forLoop target it body orelse env) (turnH env x) fs s') s₁)
      (fun x s' => Seg (model prog w) A R Y n s₀ (.forLoop target it body orelse env) (turnH env x) fs s') s)
    (ht : ∀ v, letOwnedTupleGo target it v = pure ()) :
    Seg (model prog w) A R Y n s₀ (.forLoop target it body orelse env) ((model prog w).den (.forLoop target it body orelse env)) fs s := by
  show Seg _ A R Y n s₀ _ ((forTurn target it body orelse env).onRaise (fun x => do noteFrame x env; theTreesLotGoes x)) fs s
  have eH : (fun e => ((do noteFrame e env; theTreesLotGoes e : Sem Unit).bind fun _ => (.raise e : Sem Fin))) = turnH env := by
    funext e; exact Sem.bind_eq_wrap _ _
  unfold forTurn
  rw [Sem.onRaise_eq_wrap, eH]
  refine seg_bind_wrap (wpAny_standAt ?_)
  refine seg_bind_wrap (wpAny_onRaise (wpAny_mono h (fun r s₁ h₁ => ?_) fun x s' hx => wpAny_standAt hx))
  cases r with
  | none => exact h₁
  | some v =>
    dsimp only
    rw [ht v]
    refine seg_bind_wrap (wpAny_pure (seg_bind_wrap (wpAny_mono h₁ (fun _ s₂ h₂ => ?_) fun _ _ x => x)))
    rw [Sem.bind_eq_wrap', Sem.wrap_wrap]
    refine Eq.mpr (congrArg (fun t => Seg (model prog w) A R Y n s₀ (.forLoop target it body orelse env) t fs s₂) (Sem.wrap_congr (K' := turnK target it body orelse env) (H' := turnH env) (execs body env) _ _ (fun f => ?_) (fun e => ?_))) h₂
    · cases f <;> rfl
    · rfl
end
end

section
open PySem PySem.W PySem.Calls PyProof.Rows
set_option maxRecDepth 100000
section
variable {prog : Program} {w : World} {A : Around} {E : Value → Shared → Prop} {s : Shared}
/-- one pull at a generator of the text's, that comes to a yield or to its end -/
theorem pull {a : Addr} {g n : Nat} {gs : GenState} {P : Nat → Shared → Shared → Prop} {Y : Protocol} {Q : Option Value → Shared → Prop} (hh : A.handled = none) (hl : s.heap.NoLimit) (hroom : A.depth < recursionLimit)
    (hg : s.heap.IsGen a g) (hgs : s.gens[g]? = some gs)
    (hgo : gs.Goes (model prog w) A.in1 (fun n s₀ r s₁ => r = .ok (.ret .none) ∧ P n s₀ s₁) Y n (.send .none) (s.setGen g .running))
    (hY : ∀ v s₁ gs', gs'.bare = true → Y (n - 1) (s.setGen g .running) v s₁ (fun r' s'' => match n with
        | 0 => False
        | m + 1 => gs'.Goes (model prog w) A.in1 (fun n s₀ r s₁ => r = .ok (.ret .none) ∧ P n s₀ s₁) Y m r' s'') → Q (some v) (s₁.setGen g gs'))
    (hP : ∀ s₁, P n (s.setGen g .running) s₁ → ∀ h', s₁.heap.StaysIn h' → Q none { s₁.setGen g .finished with heap := h' }) :
    wpAny (model prog w) A (pyNext (.ref a)) Q E s := by
  k_with_none
  k_with "om" => (with_reducible (first | assumption | exact nnA (by assumption) | exact nnB (by assumption) | exact nnC (by assumption) (by assumption) | exact nnD (by assumption) | exact nnE (by assumption) | exact omG21.2.2.2.1 (by assumption) (by assumption) | exact omG21.2.2.1 (by assumption) (by assumption) | exact omG30.2.2.2.2.1 (by assumption) (by assumption)))
  have wake : wpAny (model prog w) A.in1 (Builtin.Generator.genWake (.ref a) (.send .none)) (fun fin s' => ∃ v, fin = .done (.ret v) ∧ Q (some v) s')
      (fun e s' => ∃ b, e = .ref b ∧ s'.TypeIs (.ref b) "StopIteration" ∧ Q none s') s := by
    unfold Builtin.Generator.genWake
    refine wpAny_bind (wpAny_holding (wpAny_genNumber hg (wpAny_bind (wpAny_genState hgs ?_))))
    have go : wpAny (model prog w) A.in1 (Sem.resume g (.send .none) [] fun r => match r with
        | .yielded v => ret v
        | .returned v => (do
          if v == .none then raiseNew (← newExc (.type "StopIteration") [])
          rule "generator.return-value"; throw (← newExc (.type "StopIteration") [v]) : Sem Fin)
        | .raised e => Builtin.Generator.genLeft (.ref a) e
        | .running => (do rule "generator.already-executing"; raiseError "ValueError" "generator already executing" : Sem Fin)
        | .justStarted => (do rule "generator.send-to-fresh"; raiseError "TypeError" "can't send non-None value to a just-started generator" : Sem Fin)
        | .finished => (do raiseNew (← newExc (.type "StopIteration") []) : Sem Fin))
        (fun fin s' => ∃ v, fin = .done (.ret v) ∧ Q (some v) s') (fun e s' => ∃ b, e = .ref b ∧ s'.TypeIs (.ref b) "StopIteration" ∧ Q none s') s := by
      refine wpAny_resumeQ hgs hgo (fun x s₁ hx => ?_) (fun v s₁ gs' hb hv => ?_)
      · obtain ⟨rfl, hp⟩ := hx
        show wpAny _ _ (newExc (.type "StopIteration") [] >>= _) _ _ _
        refine wpAny_bind ?_
        simp only [newExc, newTuple]
        refine wpAny_bind (wpAny_newObj_type ?_ (by size_fits))
        refine wpAny_bind (m := firstArgMember _ _) (wpAny_of_eq (a := Value.none) (by first | rfl | (simp only [firstArgMember]; rfl)) ?_)
        refine wpAny_newObj_type ?_ (by size_fits)
        refine wpAny_bind (wpAny_raiseNew_none hh ⟨_, rfl, ⟨_, Heap.get?_push_size _ rfl, rfl⟩, ?_⟩)
        exact hP s₁ hp _ fun b o hb' => Heap.get?_push_of_some _ (Heap.get?_push_of_some _ hb')
      · exact wpAny_pure ⟨v, rfl, hY v s₁ gs' hb hv⟩
    cases gs with
    | running => exact hgo.elim
    | finished => exact hgo.elim
    | fresh c => exact wpAny_bind (wpAny_roomToWake hl hroom go)
    | suspended k₀ l₀ c₀ p₀ fs₀ cl => exact wpAny_bind (wpAny_roomToWake hl hroom go)
  unfold pyNext
  refine wpAny_bind (wpAny_attempt (wpAny_callSpecial?_slot (name := Str.ofString "__next__") hg.typeIs slot_gen_next
    (wpAny_call_entry slot_gen_next hg.typeIs entry_gen_next ?_ (args_gen_next _))))
  show wpAny _ _ (Builtin.Generator.genWake (.ref a) (.send .none)) _ _ s
  refine wpAny_mono wake (fun fin s' h => ?_) (fun e s' h => ?_)
  · obtain ⟨v, rfl, hq⟩ := h
    exact ⟨v, rfl, wpAny_pure hq⟩
  · obtain ⟨b, rfl, ht, hq⟩ := h
    exact wpAny_bind (wpAny_isInstance (T := "StopIteration") (b := true) ht isSubtype_stop (wpAny_pure hq))
end
end

section
open PySem PySem.W PySem.Calls PyProof.Rows
set_option maxRecDepth 100000
set_option maxHeartbeats 8000000
section
variable {prog : Program} {w : World} {A : Around} {s : Shared} {K : Frag}
/-- a call of a generator function of the written part -/
theorem enterG {Q E : Value → Shared → Prop} {name qual : Str} {params : Arguments} {body : List Stmt} {scope : Scope} {dV kV doc pm cdv ct oc : Value} {an od : Option Addr} {osl : Array (Option Value)} {f : Addr} {args : List Value} {binds : List (Str × Value)}
    (X : K.In s.heap) (hlim : s.heap.NoLimit)
    (ho : K.lookup f = some ⟨oc, od, .func (fnOf name qual params body scope dV kV doc pm an cdv ct), osl⟩) (hcd : codeIn K cdv qual = true) (hroom : A.depth < recursionLimit)
    (hbind : BindsTo s (fnOf name qual params body scope dV kV doc pm an cdv ct) ⟨args, []⟩ binds) (hloc : ∀ y ∈ binds, scope.names.lookup y.1 = some .local)
    (h : ∀ L h₁ tk o, Fr s.heap L h₁ (fun y => binds.reverse.lookup y) → s.heap.objs.size = L → o.isFreed = false → (h₁.push o).IsGen h₁.objs.size s.gens.size → h₁.get? h₁.objs.size = none →
      Q (.ref h₁.objs.size) { s with gens := s.gens.push (.fresh (.func body (envOf qual scope L f cdv))), toks := tk, heap := h₁.push o })
    (hcell : ∀ x ∈ scope.names, x.2 ≠ .cell) (hco : scope.isCoroutine = false) (hgen : scope.isGenerator = true) (hk : scope.kind = .function) : wpAny (model prog w) A (call (.ref f) args) Q E s := by
  refine wpAny_call (codeAny_call_generator (fd := fnOf name qual params body scope dV kV doc pm an cdv ct) hroom (X _ _ ho) rfl hco hgen rfl (codeRec_of X hcd) ?_)
  refine hbind _ _ _ _ ?_
  refine wpAny_newFunctionEnv hcell hloc (fun h₁ hns hsb => ⟨hlim.fresh _ hsb, ?_⟩) hk
  refine h s.heap.objs.size h₁ _ _ ⟨hns, fun b o e => hsb.extBut b o (Nat.ne_of_lt (Heap.lt_size e)) (Heap.get?_push_of_some _ e), Nat.le_refl _⟩ rfl rfl ?_ ?_
  · exact ⟨_, _, _, Heap.get?_push_size _ rfl, rfl, rfl, rfl⟩
  · exact Heap.get?_none_of_le (Nat.le_refl _)
end

/-- by the pulls that are left -/
theorem seg_ind {M : Model} {A : Around} {R : GenEnd} {Y : Protocol} {c : Code} {t : Sem Fin} {fs : List Frame} (I : Nat → Nat → Shared → Shared → Prop) (h0 : ∀ i s₀ s, ¬ I 0 i s₀ s)
    (step : ∀ n, (∀ i s₀ s, I n i s₀ s → Seg M A R Y n s₀ c t fs s) → ∀ i s₀ s, I (n + 1) i s₀ s → Seg M A R Y (n + 1) s₀ c t fs s) : ∀ n i s₀ s, I n i s₀ s → Seg M A R Y n s₀ c t fs s
  | 0, i, s₀, s, h => absurd h (h0 i s₀ s)
  | n + 1, i, s₀, s, h => step n (seg_ind I h0 step n) i s₀ s h

/-- what a ruler of sizes tells, pull by pull -/
noncomputable def gout : Option Int → List Int → Nat → Option Int
  | _, [], _ => none
  | last, z :: r, p => if z = 127 then none else if z = 0 then last else match p with
    | 0 => some z
    | p + 1 => gout (some z) r p

/-- the heap below an address -/
noncomputable def cut (h : Heap) (n : Nat) : Heap := { h with objs := h.objs.take n }
theorem cut_get {h : Heap} {n b : Nat} (hb : b < n) : (cut h n).get? b = h.get? b := by
  unfold cut Heap.get?
  dsimp only
  rw [show (h.objs.take n)[b]? = h.objs[b]? by simp [Array.getElem?_extract, Nat.lt_min]; (first | exact omG18.2.2.2.2.1 hb | omega)]
theorem cut_none {h : Heap} {n b : Nat} (hb : n ≤ b) : (cut h n).get? b = none := by
  refine Heap.get?_none_of_le ?_
  unfold cut; simp; (first | exact omG18.2.2.2.2.2.1 hb | omega)
theorem cut_size {h : Heap} {n : Nat} : (cut h n).objs.size ≤ n := by unfold cut; simp; (first | exact omG18.2.2.2.2.2.2.1 | omega)
theorem of_cut {h : Heap} {n b : Nat} {o : Obj} (e : (cut h n).get? b = some o) : b < n ∧ h.get? b = some o := by
  by_cases hb : b < n
  · exact ⟨hb, (cut_get hb).symm.trans e⟩
  · rw [cut_none (by (first | exact omG10.2.2.2.2.2.2.2.2.1 hb | omega))] at e; cases e

/-- a pull turns nothing below the generator's frame -/
noncomputable def GFrame (Lg : Addr) (s₀ s' : Shared) : Prop :=
  ∃ h tk, s' = { s₀ with heap := h, toks := tk } ∧ ∀ b o, s₀.heap.get? b = some o → b < Lg → h.get? b = some o
noncomputable def GOwn (Lg : Nat) (own : List (Addr × Obj)) (h : Heap) : Prop := ∀ q ∈ own, h.get? q.1 = some q.2 ∧ @LE.le Nat _ Lg q.1
noncomputable def GFit (hb : Heap) (own : List (Addr × Obj)) (l : Addr) (lo : Obj) (h : Heap) : Prop := (∀ q ∈ own, h.get? q.1 = some q.2) ∧ h.get? l = some lo ∧ hb.StaysIn h
noncomputable def gR (Lg : Addr) (zs : List Int) (N : Nat) (n : Nat) (s₀ : Shared) (r : Result) (s' : Shared) : Prop := r = .ok (.ret .none) ∧ (gout none zs (N - n) = none ∧ GFrame Lg s₀ s')
noncomputable def gY (hb : Heap) (Lg a l : Addr) (go lo : Obj) (zs : List Int) (N : Nat) : Protocol := fun n s₀ v s' kap =>
  ∃ x t own, v = .int x t ∧ gout none zs (N - 1 - n) = some x ∧ GFrame Lg s₀ s' ∧ GOwn Lg own s'.heap ∧ s'.heap.get? a = some go ∧ (0 < n → ∀ s'', GFit hb own l lo s''.heap → kap (.send .none) s'')
structure GenAt (w : World) (A : Around) (hb : Heap) (Lg a g l : Nat) (go lo : Obj) (zs : List Int) (N p : Nat) (own : List (Addr × Obj)) (s : Shared) : Prop where
  isGen : s.heap.IsGen a g
  goIs : s.heap.get? a = some go
  owns : GOwn Lg own s.heap
  at' : ∃ gs, s.gens[g]? = some gs ∧ gs.bare = true ∧ (p < N → ∀ s'', GFit hb own l lo s''.heap → gs.Goes (model PySem.Challenge.rw_xi0003_01.row.prog w) A.in1 (gR Lg zs N) (gY hb Lg a l go lo zs N) (N - p) (.send .none) s'')
end

section
open PySem PySem.W PySem.Calls PyProof.Rows
set_option maxRecDepth 100000
set_option maxHeartbeats 8000000

/-- what stands in a name that holds an int or None -/
noncomputable def LastIs (last : Option Int) (v : Value) : Prop := match last with | none => v = .none | some z => ∃ t, v = .int z t

/-- the generator's own view of a heap -/
structure GView (hb : Heap) (L It a l : Nat) (go lo : Obj) (s₀ : Shared) (i : Nat) (h : Heap) (m : Str → Option Value) : Prop where
  fr : Fr (cut s₀.heap L) L h m
  it : ∃ oI, News (cut s₀.heap L) L h [(It, oI), (a, go)] ∧ oI.cls = .type "list_iterator" ∧ oI.data = .fields #[.ref l, .int i 0]
  l0 : (cut s₀.heap L).get? l = some lo
  b0 : hb.StaysIn (cut s₀.heap L)
  sz : hb.objs.size ≤ L
  na : It ≠ a
  ltI : L < It
  lta : L < a
theorem GView.frame {hb : Heap} {L It a l : Nat} {go lo : Obj} {s₀ : Shared} {i : Nat} {h : Heap} {m : Str → Option Value} (V : GView hb L It a l go lo s₀ i h m) (tk : Nat) : GFrame L s₀ { s₀ with heap := h, toks := tk } :=
  ⟨h, tk, rfl, fun b o e hL => V.fr.keep _ _ ((cut_get hL).trans e)⟩
theorem GView.own {hb : Heap} {L It a l : Nat} {go lo : Obj} {s₀ : Shared} {i : Nat} {h : Heap} {m : Str → Option Value} (V : GView hb L It a l go lo s₀ i h m) : ∃ own, GOwn L own h ∧ ∀ s'' : Shared, GFit hb own l lo s''.heap → GView hb L It a l go lo s'' i s''.heap m := by
  k_with_none
  k_with "eval Name" => ((k_here; k_dflt (refine' ld ?k1 ?k2 ?_; (case k1 => k_asm); (case k2 => assumption); k_whole)))
  obtain ⟨oL, es, ep, hoL, hd, hk, hf⟩ := V.fr.ns
  obtain ⟨oI, NI, hc, hdI⟩ := V.it
  have hI := (NI _ (.head _)).1
  have ha := (NI _ (.tail _ (.head _))).1
  have hlL := (of_cut V.l0).1
  refine ⟨[(L, oL), (It, oI), (a, go)], ?_, fun s'' ⟨fo, fl, fb⟩ => ?_⟩
  · intro q hq
    rcases List.mem_cons.mp hq with rfl | hq
    · exact ⟨hoL, Nat.le_refl _⟩
    · rcases List.mem_cons.mp hq with rfl | hq
      · exact ⟨hI, Nat.le_of_lt V.ltI⟩
      · rcases List.mem_singleton.mp hq with rfl
        exact ⟨ha, Nat.le_of_lt V.lta⟩
  · have eL : s''.heap.get? L = some oL := fo _ (.head _)
    have eI : s''.heap.get? It = some oI := fo _ (.tail _ (.head _))
    have ea : s''.heap.get? a = some go := fo _ (.tail _ (.tail _ (.head _)))
    refine ⟨⟨⟨oL, es, ep, eL, hd, hk, hf⟩, fun b o e => (of_cut e).2, cut_size⟩, ⟨oI, ?_, hc, hdI⟩, (cut_get hlL).trans fl, fun b o e => ?_, V.sz, V.na, V.ltI, V.lta⟩
    · intro q hq
      rcases List.mem_cons.mp hq with rfl | hq
      · exact ⟨eI, Nat.ne_of_gt V.ltI, cut_none (Nat.le_of_lt V.ltI)⟩
      · rcases List.mem_singleton.mp hq with rfl
        exact ⟨ea, Nat.ne_of_gt V.lta, cut_none (Nat.le_of_lt V.lta)⟩
    · exact (cut_get (Nat.lt_of_lt_of_le (Heap.lt_size e) V.sz)).trans (fb b o e)
end

section
open PySem PySem.W PySem.Calls PyProof.Rows
set_option maxRecDepth 100000
set_option maxHeartbeats 8000000

theorem gi_call {w : World} {mean : ExcName → Option Value} {mg mb : Str → Option Value} {k : Nat} {A : Around} {s : Shared} {Q E : Value → Shared → Prop} {hb : Heap} {l : Addr} {lo : Obj} {vs : List Value} {zs : List Int} (N : Nat) (C : Cx w mean mg mb k A s.heap)
    (Xb : (hd.heap_39 w.params).In hb) (Tb : Top hd.view_39 (looseW hd.view_39 []) mean mg mb hb) (kb : hb.StaysIn s.heap) (hsz : hb.objs.size ≤ s.heap.objs.size)
    (hl : s.heap.get? l = some lo) (hlo : lo.cls = .type "list" ∧ ∃ e, lo.data = .seq vs.toArray e) (hi : IntsAre vs zs) (h0 : ∀ z, zs.head? = some z → z ≠ 0)
    (ret : ∀ a g Lg oL go h' tk', s.heap.StaysIn h' → s.heap.get? a = none → s.heap.objs.size = Lg → @LT.lt Nat _ Lg a → g = s.gens.size → ∀ gs, gs.bare = true → GenAt w A hb Lg a g l go lo zs N 0 [(Lg, oL), (a, go)] { s with gens := s.gens.push gs, toks := tk', heap := h' } →
      Q (.ref a) { s with gens := s.gens.push gs, toks := tk', heap := h' }) :
    wpAny (model PySem.Challenge.rw_xi0003_01.row.prog w) A (call (.ref 79) [.ref l]) Q E s := by
  k_with_none
  k_with "eval Name" => ((k_here; k_dflt (refine' ld ?k1 ?k2 ?_; (case k1 => k_asm); (case k2 => assumption); k_whole)))
  obtain ⟨hd0, dp, fr, gd, un⟩ := A
  obtain rfl : hd0 = none := C.hand
  have X := C.X
  have T := C.T
  k_dflt (refine' enterG X T.nolimit ?ho ?hcd ?hr ?hbind ?hloc ?_ ?c2 ?c3 ?c4 ?c5; (case ho => k_is); (case hcd => k_is); (case hr => exact C.depth); (case hbind => exact BindsTo.of_eq rfl); (case hloc => exact locs rfl); (case c2 => decide); (case c3 => exact rfl); (case c4 => exact rfl); (case c5 => exact rfl); k_whole)
  intro L h₁ tk go F eL hcls hgen hnone
  refine ex3 F.ns ?_
  rintro oL esL epL xq1
  refine an4 xq1 ?_
  clear xq1
  rintro hoL hdL hkL hfL
  have hLnew : s.heap.get? L = none := Heap.get?_none_of_le (by (first | exact omG18.2.2.2.2.2.2.2.1 eL | omega))
  have hanew : s.heap.get? h₁.objs.size = none := none_size F
  have hLa : @LT.lt Nat _ L h₁.objs.size := Heap.lt_size hoL
  have hlL : @LT.lt Nat _ l L := Nat.lt_of_lt_of_eq (Heap.lt_size hl) eL
  have hgo : (h₁.push go).get? h₁.objs.size = some go := Heap.get?_push_size _ hcls
  refine ret h₁.objs.size s.gens.size L oL go _ _ (fun b o' e => Heap.get?_push_of_some _ (F.keep b o' e)) hanew eL hLa rfl _ rfl ⟨hgen, hgo, ?_, _, Array.getElem?_push_size .., rfl, ?_⟩
  · intro q hq
    rcases List.mem_cons.mp hq with rfl | hq
    · exact ⟨Heap.get?_push_of_some _ hoL, Nat.le_refl _⟩
    · rcases List.mem_singleton.mp hq with rfl
      exact ⟨hgo, Nat.le_of_lt hLa⟩
  generalize h₁.objs.size = a at *
  intro hN s1 ⟨f1, f2, f3⟩
  clear X T
  have hst : hb.StaysIn (cut s1.heap L) := fun b o e => (cut_get (Nat.lt_of_lt_of_le (Heap.lt_size e) (by (first | exact omG18.2.2.2.2.2.2.2.2.1 hsz eL | omega)))).trans (f3 b o e)
  have X1 := Xb.keeps hst
  have T1 := Tb.keeps hst
  have F1 : Fr (cut s1.heap L) L s1.heap _ := ⟨⟨oL, esL, epL, f1 _ (.head _), hdL, hkL, hfL⟩, fun b o e => (of_cut e).2, cut_size⟩
  have N1 : News (cut s1.heap L) L s1.heap [(a, go)] := fun q hq => by
    rcases List.mem_singleton.mp hq with rfl
    exact ⟨f1 _ (.tail _ (.head _)), Nat.ne_of_gt hLa, cut_none (Nat.le_of_lt hLa)⟩
  have hl1 : (cut s1.heap L).get? l = some lo := (cut_get hlL).trans f2
  refine ⟨rfl, seg_func ?_⟩
  refine seg_stmt ?_
  k_fold
  k_steps
  refine seg_execs_cons (seg_For (hs := fun _ => rfl) ?_)
  k_dflt (refine' ld ?q1 ?q2 ?_; (case q1 => k_asm); (case q2 => exact rfl))
  refine an2 hlo ?_
  clear hlo
  rintro hlc xq2
  refine ex1 xq2 ?_
  clear xq2
  rintro e9 hld
  (rename Fr _ _ _ _ => F2)
  (rename News _ _ _ _ => N2)
  have hl2 : ∀ h : Heap, h.get? l = some lo → h.IsList l vs.toArray := fun h e => ⟨lo, e, hlc, e9, hld⟩
  refine wpAny_pyIter_list (hl2 _ (F2.keep _ _ hl1)) ?_
  intro p
  (rename Heap => hA)
  have hItL : @LT.lt Nat _ L hA.objs.size := F2.ns.lt
  have hIta : hA.objs.size ≠ a := Nat.ne_of_gt (Heap.lt_size (N2 _ (.head _)).1)
  have F3 := F2.push { cls := .type "list_iterator", data := .fields #[.ref l, .int 0 0] }
  have N3 := News.push F2 N2 { cls := .type "list_iterator", data := .fields #[.ref l, .int 0 0] }
  generalize hA.objs.size = It at *
  generalize hA.push { cls := .type "list_iterator", data := .fields #[.ref l, .int 0 0] } = hB at *
  clear F2 N2
  refine seg_ind (fun n i s₀ s => (0 < n ∧ i + n = N ∧ (∃ h tk, s = { s₀ with heap := h, toks := tk }) ∧ ∃ last lv m, GView hb L It a l go lo s₀ i s.heap m ∧ m "last_interval" = some lv ∧ LastIs last lv ∧ (∀ q, gout none zs (i + q) = gout last (zs.drop i) q) ∧
    (i = 0 ↔ last = none))) (fun i s₀ s hh => absurd hh.1 (Nat.lt_irrefl _)) ?step (N - 0) 0 _ _ ⟨by (first | exact omG18.2.2.2.2.2.2.2.2.2.1 hN | omega), by (first | exact omG18.2.2.2.2.2.2.2.2.2.2.1 | omega), ⟨_, _, rfl⟩, none, .none, _, ⟨F3, ⟨_, N3, rfl, rfl⟩, hl1, hst, by (first | exact omG18.2.2.2.2.2.2.2.2.1 hsz eL | omega), hIta, hItL, hLa⟩, rfl, rfl, fun q => by rw [Nat.zero_add]; rfl, by simp⟩
  case step =>
    clear F3 N3 X1 T1 hl1 hst f1 f2 f3
    rintro n IH i s₀ s2 xr5
    refine an4 xr5 ?_
    clear xr5
    rintro hn hin ⟨h2, tk2, rfl⟩ xq3
    refine ex3 xq3 ?_
    clear xq3
    rintro last lv m xq4
    refine an5 xq4 ?_
    clear xq4
    rintro V hm hlv hg hz
    have F4 := V.fr
    refine ex1 V.it ?_
    rintro oI xq5
    refine an3 xq5 ?_
    clear xq5
    rintro N4 hcI hdI
    have X4 := Xb.keeps V.b0
    have T4 := Tb.keeps V.b0
    refine seg_forLoop (ht := fun _ => rfl) ?_
    by_cases hx : i < vs.length
    · refine wpAny_pyNext_list_item (x := vs[i]) ⟨oI, (N4 _ (.head _)).1, hcI, hdI⟩ (hl2 _ (F4.keep _ _ V.l0)) (by simp [hx]) ?_
      intro h5 ⟨oJ, hJ, hcJ, hdJ⟩ hS5
      obtain ⟨t, htk⟩ := hi.get i (zs[i]'(by rw [← hi.length]; exact hx)) (by simp)
      generalize hz0 : zs[i]'(by rw [← hi.length]; exact hx) = z at *
      have hvi : vs[i] = .int z t := by rw [List.getElem?_eq_getElem hx] at htk; exact Option.some.inj htk
      rw [hvi]
      have hdrop : zs.drop i = z :: zs.drop (i + 1) := by rw [← hz0]; exact List.drop_eq_getElem_cons _
      rw [hdrop] at hg
      have F5 : Fr (cut s₀.heap L) L h5 m := ⟨F4.ns.sameBut hS5 (Nat.ne_of_lt hItL), fun b o e => hS5.extBut b o (Nat.ne_of_lt (Nat.lt_trans (of_cut e).1 hItL)) (F4.keep b o e), F4.above⟩
      have N5 : News (cut s₀.heap L) L h5 [(It, oJ), (a, go)] := fun q hq => by
        rcases List.mem_cons.mp hq with rfl | hq
        · exact ⟨hJ, (N4 _ (.head _)).2⟩
        · rcases List.mem_singleton.mp hq with rfl
          exact ⟨hS5.extBut _ _ (Ne.symm hIta) (N4 _ (.tail _ (.head _))).1, (N4 _ (.tail _ (.head _))).2⟩
      clear F4 N4
      dsimp only
      show wpAny _ _ _ _ _ _
      k_fold
      k_steps
      refine seg_stmt ?_
      k_fold
      k_steps
      · (rename Fr _ _ _ _ => F6)
        (rename z = 127 => h127)
        show Seg _ _ _ _ _ _ _ (leafOf (.ok (.ret .none))) _ _
        refine seg_leaf (.ok (.ret .none)) ?_
        show Seg _ _ _ _ _ _ _ (leafOf (.ok (.ret .none))) [] _
        refine seg_end _ ⟨rfl, ?_, _, _, rfl, fun b o e hb => F6.keep _ _ ((cut_get hb).trans e)⟩
        have := hg 0
        rw [show N - (n + 1) = i + 0 by (first | exact omG18.2.2.2.2.2.2.2.2.2.2.2 hin | omega), this]
        simp [gout, h127]
      · (rename ¬ (z = 127) => h127)
        refine seg_execs_cons (seg_If ?_)
        show wpAny _ _ _ _ _ _
        k_fold
        k_steps
        · (rename z = 0 => hz0')
          cases last with
          | none =>
            exfalso
            have i0 := hz.mpr rfl
            subst i0
            exact h0 z (by rw [← hz0, List.head?_eq_getElem?]; exact List.getElem?_eq_getElem _) hz0'
          | some z1 =>
            obtain ⟨t1, rfl⟩ := hlv
            refine seg_stmt ?_
            show wpAny _ _ _ _ _ _
            k_fold
            k_steps
            (rename Fr _ _ _ _ => F6)
            (rename News _ _ _ _ => N6)
            refine seg_execs_cons (seg_While (fun p' => ?_))
            have V6 : GView hb L It a l go lo s₀ (i + 1) _ _ := ⟨F6, ⟨oJ, N6, hcJ, hdJ⟩, V.l0, V.b0, V.sz, V.na, V.ltI, V.lta⟩
            refine seg_ind (fun n' _ s₀ s => 0 < n' ∧ n' + i ≤ N ∧ (∃ h tk, s = { s₀ with heap := h, toks := tk }) ∧ ∃ m', GView hb L It a l go lo s₀ (i + 1) s.heap m' ∧ m' "last_interval" = some (.int z1 t1)) (fun i s₀ s hh => absurd hh.1 (Nat.lt_irrefl _)) ?wstep (n + 1) 0 _ _ ⟨by (first | exact omG19.1 | omega), by (first | exact omG19.2.1 hin | omega), ⟨_, _, rfl⟩, _, V6, hm⟩
            case wstep =>
              rintro n' IH' i' s₀' s3 xr7
              refine an4 xr7 ?_
              clear xr7
              rintro hn' hin' ⟨h7, tk7, rfl⟩ xq6
              refine ex1 xq6 ?_
              clear xq6
              rintro m' xq7
              refine an2 xq7 ?_
              clear xq7
              rintro V' hm'
              have F7 := V'.fr
              refine ex1 V'.it ?_
              rintro oK xq8
              refine an3 xq8 ?_
              clear xq8
              rintro N7 hcK hdK
              have X7 := Xb.keeps V'.b0
              have T7 := Tb.keeps V'.b0
              refine seg_whileLoop ?_
              show wpAny _ _ _ _ _ _
              k_fold
              k_steps
              refine seg_execs_cons (seg_Expr_Yield rfl rfl rfl ?_)
              show wpAny _ _ _ _ _ _
              k_fold
              k_steps
              rename_i kap hkap
              refine ex1 V'.own ?_
              rintro own xq9
              refine an2 xq9 ?_
              clear xq9
              rintro hown hre
              refine xi3 z1 t1 own ⟨rfl, ?_, V'.frame _, hown, (N7 _ (.tail _ (.head _))).1, fun hn9 s9 hfit => hkap .none s9 (seg_again rfl (IH' 0 s9 s9 ⟨hn9, by (first | exact omG19.2.2.1 hin' | omega), ⟨_, _, rfl⟩, m', hre s9 hfit, hm'⟩))⟩
              have := hg (N - 1 - n' - i)
              rw [show N - 1 - n' = i + (N - 1 - n' - i) by (first | exact omG19.2.2.2.1 hin' | omega), this]
              simp [gout, hz0']
        · (rename ¬ (z = 0) => hz0')
          refine seg_execs_cons (seg_Expr_Yield rfl rfl rfl ?_)
          show wpAny _ _ _ _ _ _
          k_fold
          k_steps
          rename_i kap hkap
          (rename Fr _ _ _ _ => F6)
          (rename News _ _ _ _ => N6)
          have V6 : GView hb L It a l go lo s₀ (i + 1) _ _ := ⟨F6, ⟨oJ, N6, hcJ, hdJ⟩, V.l0, V.b0, V.sz, V.na, V.ltI, V.lta⟩
          refine ex1 V6.own ?_
          rintro own xq10
          refine an2 xq10 ?_
          clear xq10
          rintro hown hre
          refine xi3 z t own ⟨rfl, ?_, V6.frame _, hown, (N6 _ (.tail _ (.head _))).1, fun hn9 s9 hfit => hkap .none s9 ?_⟩
          · have := hg 0
            rw [show N - 1 - n = i + 0 by (first | exact omG19.2.2.2.2.1 hin | omega), this]
            simp [gout, hz0', h127]
          · have V9 := hre s9 hfit
            have F9 := V9.fr
            refine ex1 V9.it ?_
            rintro oK xq11
            refine an3 xq11 ?_
            clear xq11
            rintro N9 hcK hdK
            have X9 := Xb.keeps V9.b0
            have T9 := Tb.keeps V9.b0
            clear V6 hre F6 N6
            refine seg_stmt ?_
            show wpAny _ _ _ _ _ _
            k_fold
            k_steps
            (rename Fr _ _ _ _ => F8)
            (rename News _ _ _ _ => N8)
            refine seg_again rfl (IH (i + 1) s9 _ ⟨hn9, by (first | exact omG19.2.2.2.2.2.1 hin | omega), ⟨_, _, rfl⟩, some z, _, _, ⟨F8, ⟨oK, N8, hcK, hdK⟩, V9.l0, V9.b0, V9.sz, V9.na, V9.ltI, V9.lta⟩, rfl, ⟨_, rfl⟩, fun q => ?_, by simp⟩)
            have := hg (q + 1)
            rw [show i + 1 + q = i + (q + 1) by (first | exact omG19.2.2.2.2.2.2.1 | omega), this]
            simp [gout, hz0', h127]
    · refine wpAny_pyNext_list_end rfl ⟨oI, (N4 _ (.head _)).1, hcI, hdI⟩ (hl2 _ (F4.keep _ _ V.l0)) (by simp; (first | exact omG10.2.2.2.2.2.2.2.2.1 hx | omega)) ?_
      intro h5 hE5
      dsimp only
      refine seg_again rfl ?_
      show Seg _ _ _ _ _ _ _ (leafOf (.ok .next)) _ _
      refine seg_leaf (.ok .next) ?_
      show Seg _ _ _ _ _ _ _ (leafOf (.ok (.ret .none))) [] _
      refine seg_end _ ⟨rfl, ?_, h5, tk2, rfl, fun b o e hb => ?_⟩
      · have e : zs.drop i = [] := List.drop_eq_nil_of_le (by rw [← hi.length]; (first | exact omG10.2.2.2.2.2.2.2.2.1 hx | omega))
        have := hg 0
        rw [e] at this
        rw [show N - (n + 1) = i + 0 by (first | exact omG18.2.2.2.2.2.2.2.2.2.2.2 hin | omega), this]; rfl
      · exact hE5 b o (Nat.ne_of_lt (Nat.lt_trans hb hItL)) (F4.keep _ _ ((cut_get hb).trans e))
end

section
open PySem PySem.W PySem.Calls PyProof.Rows
set_option maxRecDepth 100000
set_option maxHeartbeats 8000000
theorem bare_set {gens : Array GenState} {g : Nat} {x : GenState} (h : AllBare gens) (hx : x.bare = true) : AllBare (gens.setIfInBounds g x) := fun y hy => by
  rcases Array.mem_or_eq_of_mem_setIfInBounds hy with h1 | h1
  · exact h y h1
  · rw [h1]; exact hx
theorem gi_pull {w : World} {A : Around} {hb : Heap} {Lg a g l : Nat} {go lo : Obj} {zs : List Int} {N p : Nat} {own : List (Addr × Obj)} {s : Shared} {Q : Option Value → Shared → Prop} {E : Value → Shared → Prop}
    (G : GenAt w A hb Lg a g l go lo zs N p own s) (hh : A.handled = none) (hl : s.heap.NoLimit) (hroom : A.depth < recursionLimit) (hp : p < N) (hlo : s.heap.get? l = some lo) (kb : hb.StaysIn s.heap)
    (hsome : ∀ x, gout none zs p = some x → ∀ t own' h' tk' gens', (AllBare s.gens → AllBare gens') → (∀ b o, s.heap.get? b = some o → b < Lg → h'.get? b = some o) →
      GenAt w A hb Lg a g l go lo zs N (p + 1) own' { s with heap := h', toks := tk', gens := gens' } → Q (some (.int x t)) { s with heap := h', toks := tk', gens := gens' })
    (hnone : gout none zs p = none → ∀ h' tk' gens', (AllBare s.gens → AllBare gens') → (∀ b o, s.heap.get? b = some o → b < Lg → h'.get? b = some o) → Q none { s with heap := h', toks := tk', gens := gens' }) :
    wpAny (model PySem.Challenge.rw_xi0003_01.row.prog w) A (pyNext (.ref a)) Q E s := by
  refine ex1 G.at' ?_
  rintro gs xq1
  refine an3 xq1 ?_
  clear xq1
  rintro hgs hbare hgo
  have hlt : g < s.gens.size := by
    false_or_by_contra
    rename_i hge
    rw [Array.getElem?_eq_none (by (first | exact omG10.2.2.2.2.2.2.2.2.1 hge | omega))] at hgs; cases hgs
  refine pull (n := N - p) (P := fun n s₀ s' => gout none zs (N - n) = none ∧ GFrame Lg s₀ s') (Y := gY hb Lg a l go lo zs N) hh hl hroom G.isGen hgs (hgo hp _ ⟨fun q hq => (G.owns q hq).1, hlo, kb⟩) ?_ ?_
  · rintro v s₁ gs' hb' xr2
    refine ex3 xr2 ?_
    clear xr2
    rintro x t own' xq2
    refine an6 xq2 ?_
    clear xq2
    rintro rfl hout ⟨h', tk', rfl, hfr⟩ hown hgo' hk
    rw [show N - 1 - (N - p - 1) = p by (first | exact omG19.2.2.2.2.2.2.2.1 hp | omega)] at hout
    refine hsome x hout t own' h' tk' _ (fun hB => bare_set (bare_set hB rfl) hb') hfr ⟨?_, hgo', hown, gs', ?_, hb', ?_⟩
    · refine ex3 G.isGen ?_
      rintro o nm qn xq3
      refine an2 xq3 ?_
      clear xq3
      rintro ho r
      rw [G.goIs] at ho
      cases ho
      exact xi3 go nm qn ⟨hgo', r⟩
    · show ((s.gens.setIfInBounds g .running).setIfInBounds g gs')[g]? = some gs'
      simp [hlt]
    · intro hp' s'' hfit
      have := hk (by (first | exact omG19.2.2.2.2.2.2.2.2.1 hp' | omega)) s'' hfit
      rw [show N - p = (N - (p + 1)) + 1 by (first | exact omG19.2.2.2.2.2.2.2.2.2.1 hp' | omega)] at this
      exact this
  · rintro s₁ xr5 h2 hst
    refine an2 xr5 ?_
    clear xr5
    rintro hout xq4
    refine ex2 xq4 ?_
    clear xq4
    rintro h' tk' xq5
    refine an2 xq5 ?_
    clear xq5
    rintro rfl hfr
    rw [show N - (N - p) = p by (first | exact omG19.2.2.2.2.2.2.2.2.2.2.1 hp | omega)] at hout
    exact hnone hout h2 tk' _ (fun hB => bare_set (bare_set hB rfl) rfl) (fun b o e hlt' => hst _ _ (hfr b o e hlt'))
theorem GenAt.move {w : World} {A : Around} {hb : Heap} {Lg a g l : Nat} {go lo : Obj} {zs : List Int} {N p : Nat} {own : List (Addr × Obj)} {s s' : Shared} (G : GenAt w A hb Lg a g l go lo zs N p own s) (hg : s'.gens = s.gens)
    (hown : ∀ q ∈ own, s'.heap.get? q.1 = some q.2) (hgo : s'.heap.get? a = some go) : GenAt w A hb Lg a g l go lo zs N p own s' := by
  refine ⟨?_, hgo, fun q hq => ⟨hown q hq, (G.owns q hq).2⟩, ?_⟩
  · refine ex3 G.isGen ?_
    rintro o nm qn xq6
    refine an2 xq6 ?_
    clear xq6
    rintro ho r
    rw [G.goIs] at ho
    cases ho
    exact xi3 go nm qn ⟨hgo, r⟩
  · refine ex1 G.at' ?_
    rintro gs xq7
    refine an2 xq7 ?_
    clear xq7
    rintro h1 h2
    exact ⟨gs, by rw [hg]; exact h1, h2⟩
end

section
open PySem PySem.W PySem.Calls PyProof.Rows
theorem flat_rep (b : Int) : ∀ n : Nat, (List.replicate n [b]).flatten = List.replicate n b
  | 0 => rfl
  | n + 1 => by rw [List.replicate_succ, List.flatten_cons, flat_rep b n, List.replicate_succ]; rfl
theorem gout_rep {b : Int} (h0 : b ≠ 0) (h1 : b ≠ 127) (tail : List Int) : ∀ (n p : Nat) (last : Option Int), p < n → gout last (List.replicate n b ++ tail) p = some b
  | 0, _, _, h => absurd h (Nat.not_lt_zero _)
  | n + 1, 0, _, _ => by rw [List.replicate_succ]; simp [gout, h0, h1]
  | n + 1, p + 1, _, h => by
    rw [List.replicate_succ, List.cons_append]
    simp only [gout, h0, h1, if_false]
    exact gout_rep h0 h1 tail n p _ (by (first | exact omG19.2.2.2.2.2.2.2.2.2.2.2 h | omega))
theorem gout_past {b : Int} (h0 : b ≠ 0) (h1 : b ≠ 127) (tail : List Int) : ∀ (n q : Nat) (last : Option Int), ∃ last', (last ≠ none → last' ≠ none) ∧ gout last (List.replicate n b ++ tail) (n + q) = gout last' tail q
  | 0, q, last => ⟨last, id, by simp⟩
  | n + 1, q, last => by
    obtain ⟨l', hl, e⟩ := gout_past h0 h1 tail n q (some b)
    refine ⟨l', fun _ => hl (by simp), ?_⟩
    rw [List.replicate_succ, List.cons_append, show n + 1 + q = (n + q) + 1 by (first | exact omG20.1 | omega)]
    simp only [gout, h0, h1, if_false]
    exact e
/-- a ruler: its sizes, pull by pull, and what stands behind its last mark -/
noncomputable def Ruler (first base whole form : Int) (zs : List Int) (more : Nat) : Prop :=
  (∀ p, p ≤ more → gout none zs p = some (if p = 0 then first + 1 else base)) ∧ ((form < 2 ∧ ∃ x, gout none zs (more + 1) = some x ∧ whole ≤ first + more * base + x) ∨ (2 ≤ form ∧ gout none zs (more + 1) = none))
theorem ruler_mid {first base whole form : Int} {more : Nat} {tail : List Int} (f0 : 0 ≤ first) (f1 : first < base) (b1 : base ≤ 8)
    (ht : ∀ last, (form < 2 ∧ ∃ x, gout last tail 0 = some x ∧ whole ≤ first + more * base + x) ∨ (2 ≤ form ∧ gout last tail 0 = none)) :
    Ruler first base whole form ([first + 1] ++ (List.replicate more [base]).flatten ++ tail) more := by
  rw [flat_rep, List.append_assoc]
  have hb0 : base ≠ 0 := by (first | exact omG20.2.1 f0 f1 | omega)
  have hb1 : base ≠ 127 := by (first | exact omG20.2.2.1 b1 | omega)
  have hf0 : first + 1 ≠ 0 := by (first | exact omG20.2.2.2.1 f0 | omega)
  have hf1 : first + 1 ≠ 127 := by (first | exact omG20.2.2.2.2.1 f1 b1 | omega)
  have one : ∀ p, gout none ([first + 1] ++ (List.replicate more base ++ tail)) (p + 1) = gout (some (first + 1)) (List.replicate more base ++ tail) p := fun p => by
    rw [List.cons_append, List.nil_append]
    simp only [gout, hf0, hf1, if_false]
  refine ⟨fun p hp => ?_, ?_⟩
  · cases p with
    | zero => simp [gout, hf0, hf1]
    | succ p => rw [one, gout_rep hb0 hb1 tail more p _ (by (first | exact omG20.2.2.2.2.2.1 hp | omega))]; simp
  · rw [one]
    obtain ⟨l', _, e⟩ := gout_past hb0 hb1 tail more 0 (some (first + 1))
    rw [Nat.add_zero] at e
    rw [e]
    exact ht l'
theorem ruler_0 {first base whole : Int} {more : Nat} {tail : List Int} (f0 : 0 ≤ first) (f1 : first < base) (b1 : base ≤ 8) (hw : whole ≤ first + more * base + base) :
    Ruler first base whole 0 ([first + 1, base, 0] ++ tail) more := by
  have hb0 : base ≠ 0 := by (first | exact omG20.2.1 f0 f1 | omega)
  have hb1 : base ≠ 127 := by (first | exact omG20.2.2.1 b1 | omega)
  have hf0 : first + 1 ≠ 0 := by (first | exact omG20.2.2.2.1 f0 | omega)
  have hf1 : first + 1 ≠ 127 := by (first | exact omG20.2.2.2.2.1 f1 b1 | omega)
  have one : ∀ p, gout none ([first + 1, base, 0] ++ tail) p = some (if p = 0 then first + 1 else base) := fun p => by
    rcases p with _ | _ | p <;> simp [gout, hf0, hf1, hb0, hb1]
  exact ⟨fun p _ => one p, .inl ⟨by (first | exact omG0.2.2.2.1 | omega), base, by rw [one]; simp, hw⟩⟩
theorem ruler_1 {first base whole odd : Int} {more : Nat} (f0 : 0 ≤ first) (f1 : first < base) (b1 : base ≤ 8) (hw : whole ≤ 63) (o0 : 0 ≤ odd) (o1 : odd < 2) :
    Ruler first base whole 1 ([first + 1] ++ (List.replicate more [base]).flatten ++ [126 + 2 * odd]) more := by
  refine ruler_mid f0 f1 b1 fun last => .inl ⟨by (first | exact omG20.2.2.2.2.2.2.1 | omega), 126 + 2 * odd, ?_, ?_⟩
  · have h1 : 126 + 2 * odd ≠ 127 := by (first | exact omG20.2.2.2.2.2.2.2.1 | omega)
    have h2 : 126 + 2 * odd ≠ 0 := by (first | exact omG20.2.2.2.2.2.2.2.2.1 o0 | omega)
    simp [gout, h1, h2]
  · have := Int.mul_nonneg (a := (more : Int)) (b := base) (by (first | exact omG3.2.2.2.2.2.2.2.2.2.1 | omega)) (by (first | exact omG6.1 f0 f1 | omega))
    (first | exact omG20.2.2.2.2.2.2.2.2.2.1 f0 hw o0 this | omega)
theorem ruler_2 {first base whole : Int} {more : Nat} (f0 : 0 ≤ first) (f1 : first < base) (b1 : base ≤ 8) :
    Ruler first base whole 2 ([first + 1] ++ (List.replicate more [base]).flatten ++ [127, base]) more :=
  ruler_mid f0 f1 b1 fun last => .inr ⟨by (first | exact omG20.2.2.2.2.2.2.2.2.2.2.1 | omega), by simp [gout]⟩
theorem ruler_3 {first base whole : Int} {more : Nat} (f0 : 0 ≤ first) (f1 : first < base) (b1 : base ≤ 8) :
    Ruler first base whole 3 ([first + 1] ++ (List.replicate more [base]).flatten) more := by
  have := ruler_mid (whole := whole) (form := 3) (more := more) (tail := []) f0 f1 b1 fun last => .inr ⟨by (first | exact omG20.2.2.2.2.2.2.2.2.2.2.2 | omega), by simp [gout]⟩
  rwa [List.append_nil] at this
/-- the marks -/
noncomputable def marksOf (first base : Int) (more : Nat) : List Int := (List.range (more + 1)).map fun k : Nat => first + (k : Int) * base
end

section
open PySem PySem.W PySem.Calls PyProof.Rows
set_option maxRecDepth 100000
set_option maxHeartbeats 8000000

theorem marks_tells {w : World} {mean : ExcName → Option Value} {mg mb : Str → Option Value} {k : Nat} {A : Around} {s : Shared} {Q E : Value → Shared → Prop} {first base whole form odd : Int} {t1 t2 t3 t4 t5 : Tok} (C : Cx w mean mg mb (k + 2) A s.heap)
    (h1 : 0 ≤ first) (h2 : first < base) (h3 : 2 ≤ base) (h4 : base ≤ 8) (h5 : base ≤ whole) (h6 : whole ≤ 63) (h7 : 0 ≤ form) (h8 : form < 4) (h9 : 0 ≤ odd) (h10 : odd < 2)
    (ret : ∀ D vs e h' tk' gens', s.heap.StaysIn h' → (AllBare s.gens → AllBare gens') → s.heap.get? D = none → h'.get? D = some (W.listOf vs.toArray e) → IntsAre vs (marksOf first base ((whole - 1 - first).fdiv base).toNat) → Q (.ref D) { s with heap := h', toks := tk', gens := gens' }) :
    wpAny (model PySem.Challenge.rw_xi0003_01.row.prog w) A (call (.ref 93) [.int first t1, .int base t2, .int whole t3, .int form t4, .int odd t5]) Q E s := by
  k_with_none
  k_with "om" => (with_reducible (first | assumption | exact nnA (by assumption) | exact nnB (by assumption) | exact nnC (by assumption) (by assumption) | exact nnD (by assumption) | exact nnE (by assumption) | exact omG21.2.2.2.1 (by assumption) (by assumption) | exact omG21.2.2.1 (by assumption) (by assumption) | exact omG30.2.2.2.2.1 (by assumption) (by assumption) | exact omG21.2.2.2.2.2.1 (by assumption) | exact omG21.2.2.2.2.2.2.1 (by assumption) | exact omG21.2.2.2.2.2.2.2.1 (by assumption)))
  k_with "eval Name" => ((k_here; k_dflt (refine' ld ?k1 ?k2 ?_; (case k1 => k_asm); (case k2 => assumption); k_whole)))
  k_with "loadName" => ((k_here; k_dflt (refine' ldn ?k1 ?k2 ?_; (case k1 => k_asm); (case k2 => assumption); k_whole)))
  k_with "cell" => (k_dflt (refine' enterF ?hX ?hlim ?ho ?hcd ?hr ?hbind ?hloc ?_ ?c2 ?c3 ?c4 ?c5; (case hX => assumption); (case hlim => exact Top.nolimit (by assumption)); (case ho => k_is); (case hcd => k_is); (case hr => exact Cx.depth (by assumption)); (case hbind => exact BindsTo.of_eq rfl); (case hloc => exact locs rfl); (case c2 => decide); (case c3 => exact rfl); (case c4 => exact rfl); (case c5 => exact rfl); k_whole))
  obtain ⟨hd0, dp, fr, gd, un⟩ := A
  obtain rfl : hd0 = none := C.hand
  have X := C.X
  have T := C.T
  cell_enter
  intro L h₁ tk₀ F eL
  try dsimp only
  k_fold
  have NN : News s.heap L h₁ [] := News.nil
  refine an3 (fdiv_facts (whole - 1 - first) (b := base) (by (first | exact omG16.2.2.2.2.2.2.2.1 h3 | omega))) ?_
  rintro e1 e2 e3
  have hmore0 : 0 ≤ (whole - 1 - first).fdiv base := Int.fdiv_nonneg (by (first | exact omG3.2.2.1 h2 h5 | omega)) (by (first | exact omG12.2.2.2.2.2.2.2.2.1 h3 | omega))
  have hmore1 : (whole - 1 - first).fdiv base ≤ 31 := by
    have h9 : 2 * (whole - 1 - first).fdiv base ≤ base * (whole - 1 - first).fdiv base := Int.mul_le_mul_of_nonneg_right (by (first | exact omG8.2.2.2.2.2.2.2.2.1 h3 | omega)) hmore0
    (first | exact omG21.1 h1 h6 e1 e2 h9 | omega)
  obtain ⟨more, hmore⟩ := Int.eq_ofNat_of_zero_le hmore0
  have hmn : ((whole - 1 - first).fdiv base).toNat = more := by (first | exact omG21.2.1 hmore | omega)
  rw [hmn] at ret
  rw [hmore] at e1
  have hmc : base * (more : Int) = (more : Int) * base := Int.mul_comm _ _
  refine execs_at 6 ?_
  dsimp only [List.take, List.drop]
  refine cutR (fun fl s' => fl = .next ∧ ∃ M S ws zs tp h' tk' m', s' = { s with heap := h', toks := tk' } ∧ Fr s.heap L h' m' ∧ News s.heap L h' [(M, W.listOf #[] 0), (S, W.listOf ws.toArray 0)] ∧ M ≠ S ∧ IntsAre ws zs ∧ Ruler first base whole form zs more ∧
    m' "marks" = some (.ref M) ∧ m' "sizes" = some (.ref S) ∧ m' "place" = some (.int (-1) tp) ∧ m' "whole" = some (.int whole t3) ∧ m' "form" = some (.int form t4)) ?_ ?_
  · intro R hR
    refine cut_at 2 (fun s' => ∃ S ws zs tm h' tk' m', s' = { s with heap := h', toks := tk' } ∧ Fr s.heap L h' m' ∧ News s.heap L h' [(S, W.listOf ws.toArray 0)] ∧ IntsAre ws zs ∧ Ruler first base whole 0 zs more ∧ m' "more" = some (.int ((whole - 1 - first).fdiv base) tm) ∧ m' "sizes" = some (.ref S) ∧
      m' "first" = some (.int first t1) ∧ m' "base" = some (.int base t2) ∧ m' "whole" = some (.int whole t3) ∧ m' "form" = some (.int form t4) ∧ m' "odd" = some (.int odd t5)) ?_ ?_
    · intro R2 hR2
      dsimp only [List.take]
      k_steps
      refine hR2 _ ?_
      refine' xi7 _ _ _ _ _ _ _ ⟨rfl, ?zF, ?zN, ?zI, ?zR, ?zO, ?zS, ?z1, ?z2, ?z3, ?z4, ?z5⟩
      case zF => assumption
      case zO => exact rfl
      case zS => exact rfl
      case z1 => exact rfl
      case z2 => exact rfl
      case z3 => exact rfl
      case z4 => exact rfl
      case z5 => exact rfl
      case zN => exact cb_drop (by assumption) (List.forall_mem_cons.mpr ⟨by k_mem, List.forall_mem_nil _⟩)
      case zI => assumption
      case zR =>
        exact ruler_0 h1 h2 h4 (by (first | exact omG21.2.2.2.2.2.2.2.2.2.1 e3 e1 hmc | omega))
    · intro s0 hq
      refine ex7 hq ?_
      clear hq
      rintro S0 ws0 zs0 tm0 h0' tk0 m0 hq
      refine an12 hq ?_
      clear hq
      rintro rfl F0 N0 hws0 hR0 mo0 ms0 ma0 mb0 mw0 mf0 mp0
      dsimp only [List.drop]
      rcases (show form = 0 ∨ form = 1 ∨ form = 2 ∨ form = 3 by (first | exact omG21.2.2.1 h7 h8 | omega)) with rfl | rfl | rfl | rfl
      · k_steps
        refine hR _ _ ?_
        refine' ⟨rfl, xi8 _ _ _ _ _ _ _ _ ⟨rfl, ?aF, ?aN, ?aE, ?aI, ?aR, ?aM, ?aS, ?aP, ?aW, ?aG⟩⟩
        case aF => assumption
        case aM => exact rfl
        case aS => exact ms0
        case aP => exact rfl
        case aW => exact mw0
        case aG => exact mf0
        case aI => exact hws0
        case aN => exact cb_drop (by assumption) (List.forall_mem_cons.mpr ⟨by k_mem, List.forall_mem_cons.mpr ⟨by k_mem, List.forall_mem_nil _⟩⟩)
        case aE => exact neN (by (first | exact omG21.2.2.2.2.2.2.2.2.1 (by with_reducible assumption) | omega))
        case aR => exact hR0
      · k_steps
        refine hR _ _ ?_
        refine' ⟨rfl, xi8 _ _ _ _ _ _ _ _ ⟨rfl, ?bF, ?bN, ?bE, ?bI, ?bR, ?bM, ?bS, ?bP, ?bW, ?bG⟩⟩
        case bF => assumption
        case bM => exact rfl
        case bS => exact rfl
        case bP => exact rfl
        case bW => exact mw0
        case bG => exact mf0
        case bN => exact cb_drop (by assumption) (List.forall_mem_cons.mpr ⟨by k_mem, List.forall_mem_cons.mpr ⟨by k_mem, List.forall_mem_nil _⟩⟩)
        case bE => exact neN (by (first | exact omG21.2.2.2.2.2.2.2.2.2.2.1 (by with_reducible assumption) | omega))
        case bI => assumption
        case bR =>
          rw [hmn]; exact ruler_1 h1 h2 h4 h6 h9 h10
      · k_steps
        refine hR _ _ ?_
        refine' ⟨rfl, xi8 _ _ _ _ _ _ _ _ ⟨rfl, ?cF, ?cN, ?cE, ?cI, ?cR, ?cM, ?cS, ?cP, ?cW, ?cG⟩⟩
        case cF => assumption
        case cM => exact rfl
        case cS => exact rfl
        case cP => exact rfl
        case cW => exact mw0
        case cG => exact mf0
        case cN => exact cb_drop (by assumption) (List.forall_mem_cons.mpr ⟨by k_mem, List.forall_mem_cons.mpr ⟨by k_mem, List.forall_mem_nil _⟩⟩)
        case cE => exact neN (by (first | exact omG21.2.2.2.2.2.2.2.2.2.2.1 (by with_reducible assumption) | omega))
        case cI => assumption
        case cR =>
          rw [hmn]; exact ruler_2 h1 h2 h4
      · k_steps
        refine hR _ _ ?_
        refine' ⟨rfl, xi8 _ _ _ _ _ _ _ _ ⟨rfl, ?dF, ?dN, ?dE, ?dI, ?dR, ?dM, ?dS, ?dP, ?dW, ?dG⟩⟩
        case dF => assumption
        case dM => exact rfl
        case dS => exact rfl
        case dP => exact rfl
        case dW => exact mw0
        case dG => exact mf0
        case dN => exact cb_drop (by assumption) (List.forall_mem_cons.mpr ⟨by k_mem, List.forall_mem_cons.mpr ⟨by k_mem, List.forall_mem_nil _⟩⟩)
        case dE => exact neN (by (first | exact omG21.2.2.2.2.2.2.2.2.2.2.2 (by with_reducible assumption) | omega))
        case dI => assumption
        case dR =>
          rw [hmn]; exact ruler_3 h1 h2 h4
  · rintro fl s' xr7
    refine an2 xr7 ?_
    clear xr7
    rintro rfl xq1
    refine ex8 xq1 ?_
    clear xq1
    rintro M S ws zs tp h' tk' m' xq2
    refine an11 xq2 ?_
    clear xq2
    rintro rfl F' N' hMS hws hR mM mS mp mw mf
    dsimp only
    refine wpAny_execs_cons (for_turnsR (hs := fun _ => rfl) ?_)
    show wpAny _ _ _ _ _ _
    k_fold
    k_steps
    have hS := (N' _ (.tail _ (.head _))).1
    have hM := (N' _ (.head _)).1
    refine gi_call (more + 3) (C.push F') X T F'.keep (Nat.le_trans F'.above (Nat.le_of_lt F'.ns.lt)) hS ⟨rfl, 0, rfl⟩ hws (fun z hz => ?_) ?_
    · rintro rfl
      cases zs with
      | nil => cases hz
      | cons z0 r =>
        cases hz
        have := hR.1 0 (Nat.zero_le _)
        simp [gout] at this
    intro a g Lg oL go h2 tk2 hst hanew hLg hLa hg gs hgs G
    try dsimp only at hst hanew hLg hg
    have F2 := fr_on F' hst
    have hM2 := (N' _ (.head _)).2
    have hMLg : @LT.lt Nat _ M Lg := Nat.lt_of_lt_of_eq (Heap.lt_size hM) hLg
    have hSLg : @LT.lt Nat _ S Lg := Nat.lt_of_lt_of_eq (Heap.lt_size hS) hLg
    have hLLg : @LT.lt Nat _ L Lg := Nat.lt_of_lt_of_eq F'.ns.lt hLg
    have hsLg : s.heap.objs.size ≤ Lg := Nat.le_trans F'.above (Nat.le_of_lt hLLg)
    have news_at : ∀ (h : Heap) (vs : List Value) (e : Nat) (own : List (Addr × Obj)), h.get? M = some (W.listOf vs.toArray e) → h.get? S = some (W.listOf ws.toArray 0) → h.get? a = some go → GOwn Lg own h →
        News s.heap L h ((M, W.listOf vs.toArray e) :: (S, W.listOf ws.toArray 0) :: (a, go) :: own) := fun h vs e own iM iS ia io q hq => by
      rcases List.mem_cons.mp hq with rfl | hq
      · exact ⟨iM, (N' _ (.head _)).2⟩
      · rcases List.mem_cons.mp hq with rfl | hq
        · exact ⟨iS, (N' _ (.tail _ (.head _))).2⟩
        · rcases List.mem_cons.mp hq with rfl | hq
          · exact ⟨ia, Nat.ne_of_gt (Nat.lt_trans hLLg hLa), Heap.get?_none_of_le (Nat.le_trans hsLg (Nat.le_of_lt hLa))⟩
          · exact ⟨(io q hq).1, Nat.ne_of_gt (Nat.lt_of_lt_of_le hLLg (io q hq).2), Heap.get?_none_of_le (Nat.le_trans hsLg (io q hq).2)⟩
    have ne_at : ∀ (h : Heap) (own : List (Addr × Obj)), GOwn Lg own h → ∀ q ∈ ((S, W.listOf ws.toArray 0) :: (a, go) :: own), q.1 ≠ M := fun h own io q hq => by
      rcases List.mem_cons.mp hq with rfl | hq
      · exact Ne.symm hMS
      · rcases List.mem_cons.mp hq with rfl | hq
        · exact Nat.ne_of_gt (Nat.lt_trans hMLg hLa)
        · exact Nat.ne_of_gt (Nat.lt_of_lt_of_le hMLg (io q hq).2)
    show wpAny _ _ (pyIter (.ref a)) _ _ _
    refine wpAny_pyIter_gen G.isGen ?_
    refine ⟨fun n s1 => ∃ p m1 own vs e place tpl, n + p = more + 3 ∧ p ≤ more + 1 ∧ (∃ h tk gens, s1 = { s with heap := h, toks := tk, gens := gens } ∧ (AllBare s.gens → AllBare gens)) ∧ Fr s.heap L s1.heap m1 ∧
      s1.heap.get? M = some (W.listOf vs.toArray e) ∧ s1.heap.get? S = some (W.listOf ws.toArray 0) ∧ m1 "marks" = some (.ref M) ∧ m1 "place" = some (.int place tpl) ∧ m1 "whole" = some (.int whole t3) ∧ m1 "form" = some (.int form t4) ∧
      IntsAre vs ((List.range p).map fun i : Nat => first + (i : Int) * base) ∧ GenAt w _ s.heap Lg a g S go _ zs (more + 3) p own s1 ∧ (p = 0 → place = -1) ∧ (0 < p → place = first + ((p : Int) - 1) * base), more + 3,
      ⟨0, m', _, [], 0, -1, tp, rfl, by (first | exact omG22.1 | omega), ⟨_, _, _, rfl, fun hB => hB.push hgs⟩, F2, hst _ _ hM, hst _ _ hS, mM, mp, mw, mf, .nil, G, fun _ => rfl, fun h => absurd h (Nat.lt_irrefl _)⟩, ?_⟩
    rintro n s1 xr10 NX R9 q1 q2 q3 q4 q5
    refine ex7 xr10 ?_
    clear xr10
    rintro p m1 own vs e place tpl xq3
    refine an14 xq3 ?_
    clear xq3
    rintro hn hp ⟨h3, tk3, gens3, rfl, hB3⟩ F3 iM iS mM3 mp3 mw3 mf3 hvs G3 hp0 hp1
    clear F2 F' N' G mM mp mw mf mS
    refine gi_pull G3 rfl (T.nolimit.keeps F3.keep) (C.push F3).depth (by (first | exact omG22.2.1 hp | omega)) iS F3.keep ?some ?none
    case some =>
      intro x hx t own' h4 tk4 gens4 hB4 hfr G4
      have F4 : Fr s.heap L h4 m1 := by
        refine ex3 F3.ns ?_
        rintro oX es ep xq4
        refine an2 xq4 ?_
        clear xq4
        rintro hoX r
        exact ⟨⟨oX, es, ep, hfr _ _ hoX hLLg, r⟩, fun b o e => hfr b o (F3.keep b o e) (Nat.lt_of_lt_of_le (Heap.lt_size e) hsLg), F3.above⟩
      have N4 := news_at h4 vs e own' (hfr _ _ iM hMLg) (hfr _ _ iS hSLg) G4.goIs G4.owns
      have hne := ne_at h4 own' G4.owns
      have hB5 := fun hB => hB4 (hB3 hB)
      clear F3 G3
      have hvl : vs.toArray.size ≤ 40 := by have := hvs.length; simp at this ⊢; (first | exact omG22.2.2.1 hmore1 hmore hn this | omega)
      by_cases hpm : p ≤ more
      · have hxv : x = if p = 0 then first + 1 else base := by
          have := hR.1 p hpm
          rw [hx] at this; exact Option.some.inj this
        have hpl : place + x = first + (p : Int) * base := by
          by_cases h0p : p = 0
          · subst h0p; rw [hp0 rfl, hxv]; simp; (first | exact omG22.2.2.2.1 | omega)
          · rw [hp1 (by (first | exact omG22.2.2.2.2.1 h0p | omega)), hxv, if_neg h0p]; have u := Int.sub_mul (p : Int) 1 base; omega
        have hle : (p : Int) * base ≤ more * base := Int.mul_le_mul_of_nonneg_right (by (first | exact omG22.2.2.2.2.2.1 hpm | omega)) (by (first | exact omG12.2.2.2.2.2.2.2.2.1 h3 | omega))
        have hlt : ¬ (whole ≤ place + x) := by (first | exact omG22.2.2.2.2.2.2.1 e2 e1 hmc hpl hle | omega)
        show wpAny _ _ _ _ _ _
        k_fold
        k_steps
        (rename Fr _ _ _ _ => F9)
        (rename News _ _ _ _ => N9)
        rw [List.push_toArray] at N9
        refine q2 (n - 1) _ (by (first | exact omG22.2.2.2.2.2.2.2.1 hn hpm | omega)) ?_
        refine xi7 (p + 1) _ own' (vs ++ [.int (place + x) _]) _ (place + x) _ ⟨by (first | exact omG22.2.2.2.2.2.2.2.2.1 hn hpm | omega), by (first | exact omG0.2.2.2.2.2.2.2.1 hpm | omega), ⟨_, _, _, rfl, hB5⟩, F9, (N9 _ (.head _)).1, (N9 _ (.tail _ (.head _))).1, mM3, rfl, mw3, mf3, ?_, G4.move rfl (fun q hq => (N9 q (.tail _ (.tail _ (.tail _ hq)))).1) (N9 _ (.tail _ (.tail _ (.head _)))).1, ?_, ?_⟩
        · rw [List.range_succ, List.map_append, List.map_cons, List.map_nil, ← hpl]
          exact IntsAre.append hvs (.cons _ _ .nil)
        · intro h; (first | exact omG22.2.2.2.2.2.2.2.2.2.1 h | omega)
        · intro _; have u : (((p + 1 : Nat) : Int) - 1) = p := Int.add_sub_cancel (p : Int) 1; rw [hpl, u]
      · have hpe : p = more + 1 := by (first | exact omG22.2.2.2.2.2.2.2.2.2.2.1 hp hpm | omega)
        subst hpe
        obtain ⟨hf2, hx2⟩ : form < 2 ∧ whole ≤ first + more * base + x := by
          rcases hR.2 with ⟨a1, x', a2, a3⟩ | ⟨a1, a2⟩
          · rw [hx] at a2; cases a2; exact ⟨a1, a3⟩
          · rw [hx] at a2; cases a2
        have hpl := hp1 (by (first | exact omG19.1 | omega))
        have hge : whole ≤ place + x := by have u : (((more + 1 : Nat) : Int) - 1) = more := Int.add_sub_cancel (more : Int) 1; rw [hpl, u]; exact hx2
        show wpAny _ _ _ _ _ _
        k_fold
        k_steps
        (rename Fr _ _ _ _ => F9)
        (rename News _ _ _ _ => N9)
        refine q5 _ _ ?_
        exact ret M vs e _ _ _ F9.keep hB5 (N9 _ (.head _)).2.2 (N9 _ (.head _)).1 hvs
    case none =>
      intro hx h4 tk4 gens4 hB4 hfr
      have F4 : Fr s.heap L h4 m1 := by
        refine ex3 F3.ns ?_
        rintro oX es ep xq5
        refine an2 xq5 ?_
        clear xq5
        rintro hoX r
        exact ⟨⟨oX, es, ep, hfr _ _ hoX hLLg, r⟩, fun b o e => hfr b o (F3.keep b o e) (Nat.lt_of_lt_of_le (Heap.lt_size e) hsLg), F3.above⟩
      have hpe : p = more + 1 := by
        false_or_by_contra
        have := hR.1 p (by (first | exact omG22.2.2.2.2.2.2.2.2.2.2.2 hp (by with_reducible assumption) | omega))
        rw [hx] at this; cases this
      subst hpe
      have hf2 : ¬ form < 2 := by
        rcases hR.2 with ⟨a1, x', a2, a3⟩ | ⟨a1, a2⟩
        · rw [hx] at a2; cases a2
        · (first | exact omG23.1 a1 | omega)
      have N4 : News s.heap L h4 [(M, W.listOf vs.toArray e)] := fun q hq => by
        rcases List.mem_singleton.mp hq with rfl
        exact ⟨hfr _ _ iM hMLg, hM2⟩
      refine q1 _ ?_
      show wpAny _ _ _ _ _ _
      k_steps
      show Q (.ref M) _
      (rename Fr _ _ _ _ => F9)
      (rename News _ _ _ _ => N9)
      exact ret M vs e _ _ _ F9.keep (fun hB => hB4 (hB3 hB)) (N9 _ (.head _)).2.2 (N9 _ (.head _)).1 hvs
end

section
open PySem PySem.W PySem.Calls PyProof.Rows
set_option maxRecDepth 100000
/-- a cut: the first part raises nothing -/
theorem cutF {α : Type} {M : Model} {A : Around} {t : Sem α} {Q' : α → Shared → Prop} {E : Value → Shared → Prop} {s : Shared} (Q : α → Shared → Prop) (h : wpAny M A t Q (fun _ _ => False) s) (hQ : ∀ v s', Q v s' → Q' v s') : wpAny M A t Q' E s :=
  wpAny_mono h hQ fun _ _ q => q.elim
end

section
open PySem PySem.W PySem.Calls PyProof.Rows
set_option maxRecDepth 100000
set_option maxHeartbeats 8000000

theorem cells_tells {w : World} {mean : ExcName → Option Value} {mg mb : Str → Option Value} {k : Nat} {A : Around} {s : Shared} {Q E : Value → Shared → Prop} {l : Addr} {ws : List Value} {zs : List Int} (C : Cx w mean mg mb (k + 2) A s.heap)
    (hl : s.heap.IsList l ws.toArray) (hI : IntsAre ws zs)
    (ret : ∀ D h' tk' c0 c1 c2 c3 t0 t1 t2 t3 e, s.heap.StaysIn h' → s.heap.get? D = none → h'.get? D = some (W.listOf #[.int c0 t0, .int c1 t1, .int c2 t2, .int c3 t3] e) → Q (.ref D) { s with heap := h', toks := tk' }) :
    wpAny (model PySem.Challenge.rw_xi0003_01.row.prog w) A (call (.ref 86) [.ref l]) Q E s := by
  k_with_none
  k_with "om" => (with_reducible (first | assumption | exact nnA (by assumption) | exact nnB (by assumption) | exact nnC (by assumption) (by assumption) | exact nnD (by assumption) | exact nnE (by assumption) | exact omG21.2.2.2.1 (by assumption) (by assumption) | exact omG21.2.2.1 (by assumption) (by assumption) | exact omG30.2.2.2.2.1 (by assumption) (by assumption)))
  k_with "eval Name" => ((k_here; k_dflt (refine' ld ?k1 ?k2 ?_; (case k1 => k_asm); (case k2 => assumption); k_whole)))
  k_with "loadName" => ((k_here; k_dflt (refine' ldn ?k1 ?k2 ?_; (case k1 => k_asm); (case k2 => assumption); k_whole)))
  k_with "cell" => (k_dflt (refine' enterF ?hX ?hlim ?ho ?hcd ?hr ?hbind ?hloc ?_ ?c2 ?c3 ?c4 ?c5; (case hX => assumption); (case hlim => exact Top.nolimit (by assumption)); (case ho => k_is); (case hcd => k_is); (case hr => exact Cx.depth (by assumption)); (case hbind => exact BindsTo.of_eq rfl); (case hloc => exact locs rfl); (case c2 => decide); (case c3 => exact rfl); (case c4 => exact rfl); (case c5 => exact rfl); k_whole))
  obtain ⟨hd0, dp, fr, gd, un⟩ := A
  obtain rfl : hd0 = none := C.hand
  have X := C.X
  have T := C.T
  cell_enter
  intro L h₁ tk₀ F eL
  try dsimp only
  k_fold
  have NN : News s.heap L h₁ [] := News.nil
  refine execs_at 1 ?_
  dsimp only [List.take, List.drop]
  k_steps
  (rename PairSrcL _ _ _ _ _ _ _ _ _ _ _ _ => S0)
  (rename Fr _ _ _ _ => F0)
  (rename News _ _ _ _ => N0)
  have hD := (N0 _ (.head _))
  generalize hDe : (W.listOf (#[_, _, _, _] : Array Value) 0) = oD at N0 S0 hD
  refine (PairSrcL.at S0 _ rfl) _ _ _ _ (fun i m n => m (Str.ofString "cells") = some (.ref _) ∧ ∃ c0 c1 c2 c3 t0 t1 t2 t3 e, n = [(_, W.listOf #[.int c0 t0, .int c1 t1, .int c2 t2, .int c3 t3] e)]) ⟨rfl, _, _, _, _, _, _, _, _, _, by rw [← hDe]⟩ ?turn ?done
  case turn =>
    rintro i a t v m1 n1 s1 own xr2 hia hK xr3 - hown F1 N1
    refine ex2 xr2 ?_
    clear xr2
    rintro h2 tk2 rfl
    refine an2 xr3 ?_
    clear xr3
    rintro hm xq1
    refine ex9 xq1 ?_
    clear xq1
    rintro c0 c1 c2 c3 t0 t1 t2 t3 e rfl
    obtain ⟨_, e'⟩ := ItemKind.int_is hK; subst e'
    have hown' : ∀ q ∈ own, q.1 ≠ _ := fun q hq => hown q hq _ (.head _)
    have N2 := cb_drop N1 (List.forall_mem_cons.mpr ⟨List.mem_append_right _ (.head _), fun q hq => List.mem_append_left _ hq⟩)
    clear N1
    show wpAny _ _ _ _ _ _
    k_fold
    k_steps
    have hf : (i : Int).fmod 4 = 0 ∨ (i : Int).fmod 4 = 1 ∨ (i : Int).fmod 4 = 2 ∨ (i : Int).fmod 4 = 3 := by
      rw [Int.fmod_eq_emod_of_nonneg _ (by (first | exact omG7.2.2.2.2.1 | omega))]; (first | exact omG7.2.2.2.2.2.1 | omega)
    rcases hf with hf | hf | hf | hf <;> rw [hf] <;> k_steps
    all_goals (rename Fr _ _ _ _ => F9)
    all_goals (rename News _ _ _ _ => N9)
    all_goals refine ⟨rfl, _, _, _, _, rfl, F9, cb_drop N9 (List.forall_mem_append.mpr ⟨fun q hq => .tail _ hq, List.forall_mem_cons.mpr ⟨.head _, List.forall_mem_nil _⟩⟩), rfl, ?_, _, _, _, _, _, _, _, _, _, rfl⟩
    all_goals first | exact hm | skip
  case done =>
    rintro h2 tk2 m2 n2 F2 N2 - xr4
    refine an2 xr4 ?_
    clear xr4
    rintro hm xq2
    refine ex9 xq2 ?_
    clear xq2
    rintro c0 c1 c2 c3 t0 t1 t2 t3 e rfl
    dsimp only
    k_steps
    show Q _ _
    (rename Fr _ _ _ _ => F9)
    (rename News _ _ _ _ => N9)
    exact ret _ _ _ c0 c1 c2 c3 t0 t1 t2 t3 e F9.keep (N9 _ (.head _)).2.2 (N9 _ (.head _)).1
end

section
open PySem PySem.W PySem.Calls PyProof.Rows
set_option maxRecDepth 100000
section
variable {prog : Program} {w : World} {A : Around} {E : Value → Shared → Prop} {s : Shared}
theorem index_ints {l : Addr} {vs : List Value} {ns : List Int} {k : Int} {t : Tok} {Q : Value → Shared → Prop} (hl : s.heap.IsList l vs.toArray) (hi : IntsAre vs ns)
    (hb : ns.length ≤ 63) (hk : k ∈ ns) (h : Q (.int (ns.idxOf k : Nat) s.toks) { s with toks := s.toks + 1 }) :
    wpAny (model prog w) A (call (.builtin "list.index") [.ref l, .int k t]) Q E s := by
  k_with_none
  k_with "om" => (with_reducible (first | assumption | exact nnA (by assumption) | exact nnB (by assumption) | exact nnC (by assumption) (by assumption) | exact nnD (by assumption) | exact nnE (by assumption) | exact omG21.2.2.2.1 (by assumption) (by assumption) | exact omG21.2.2.1 (by assumption) (by assumption) | exact omG30.2.2.2.2.1 (by assumption) (by assumption)))
  obtain ⟨⟨cls, dd, data, sl⟩, ho, hc, n, hd⟩ := id hl
  simp only at hc hd
  subst hc hd
  have hlen := hi.length
  have hj : ns.idxOf k < ns.length := List.idxOf_lt_length_iff.mpr hk
  refine call_meets PySem.F.slot_list_index ⟨_, ho, rfl⟩ PySem.F.entry_list_index (PySem.F.args_list_index_2 _ _)
    (PySem.SeqAt.list_indexAt l vs.toArray n dd sl (.int k t) (isInt k) (ns.idxOf k) (by simpa [hlen] using hj) (by (first | exact omG7.2.2.2.2.2.2.1 hb hj | omega)) ?_ ?_) ⟨ho, fun y hy => (eq_isInt k t hi y (by simpa using hy)).at _ _, h⟩
  · show isInt k vs[ns.idxOf k] = true
    rw [isInt_at k hi _ (by (first | exact omG7.2.2.2.2.2.2.2.1 hlen hj | omega)) hj]
    simpa using List.getElem_idxOf hj
  · intro j hjs hlt
    show isInt k vs[j] = false
    rw [isInt_at k hi j (by simpa using hjs) (by (first | exact omG7.2.2.2.2.2.2.2.2.1 hj hlt | omega))]
    exact ne_of_lt_idxOf hlt _
end

/-- 1 + b + .. + b^(n-1) -/
noncomputable def geo (b : Int) : Nat → Int
  | 0 => 0
  | n + 1 => geo b n * b + 1
theorem geo_spec (b : Int) : ∀ n, geo b n * (b - 1) = b ^ n - 1
  | 0 => by simp [geo]
  | n + 1 => by have := geo_spec b n; rw [Int.pow_succ, geo]; have u1 := Int.add_mul (geo b n * b) 1 (b - 1); have u2 := Int.mul_right_comm (geo b n) b (b - 1); have u3 : geo b n * (b - 1) * b = (b ^ n - 1) * b := congrArg (fun t => t * b) this; have u4 := Int.sub_mul (b ^ n) 1 b; (first | exact omG40.1 u1 u2 u3 u4 | omega)
theorem geo_div {b : Int} (hb : 2 ≤ b) (n : Nat) : (b ^ n - 1).fdiv (b - 1) = geo b n := by
  k_with_none
  k_with "om" => (with_reducible (first | assumption | exact nnA (by assumption) | exact nnB (by assumption) | exact nnC (by assumption) (by assumption) | exact nnD (by assumption) | exact nnE (by assumption) | exact omG21.2.2.2.1 (by assumption) (by assumption) | exact omG21.2.2.1 (by assumption) (by assumption) | exact omG30.2.2.2.2.1 (by assumption) (by assumption)))
  rw [← geo_spec, Int.mul_fdiv_cancel _ (by (first | exact omG7.2.2.2.2.2.2.2.2.2.1 hb | omega))]
theorem geo_nonneg {b : Int} (hb : 0 ≤ b) : ∀ n, 0 ≤ geo b n
  | 0 => Int.le_refl _
  | n + 1 => by have := Int.mul_nonneg (geo_nonneg hb n) hb; rw [geo]; (first | exact omG7.2.2.2.2.2.2.2.2.2.2.1 this | omega)
theorem geo_add (b : Int) (m : Nat) : ∀ n, geo b (m + n) = geo b m * b ^ n + geo b n
  | 0 => by simp [geo]
  | n + 1 => by have := geo_add b m n; rw [← Nat.add_assoc, geo, geo, Int.pow_succ, this]; have u1 := Int.add_mul (geo b m * b ^ n) (geo b n) b; have u2 := Int.mul_assoc (geo b m) (b ^ n) b; (first | exact omG40.2 u1 u2 | omega)

theorem far_run {base whole figure place p0 head ring : Int} {start span : Nat}
    (h1 : p0 * base ^ start + figure * geo base start = head * whole + place) (h2 : place * base ^ span + figure * geo base span = ring * whole + place) :
    ∀ rounds, p0 * base ^ (start + span * rounds) + figure * geo base (start + span * rounds) = (head * (base ^ span) ^ rounds + ring * geo (base ^ span) rounds) * whole + place
  | 0 => by simp [geo]; exact h1
  | r + 1 => by
    have := far_run h1 h2 r
    rw [show start + span * (r + 1) = (start + span * r) + span by rw [Nat.mul_succ]; (first | exact omG7.2.2.2.2.2.2.2.2.2.2.2 | omega), geo_add, Int.pow_add, geo, Int.pow_succ]
    grind

/-- one step more of the notes -/
theorem far_step {base whole figure p0 p d p' v : Int} {n : Nat} (h : p0 * base ^ n + figure * geo base n = v * whole + p) (hd : p * base + figure = d * whole + p') :
    p0 * base ^ (n + 1) + figure * geo base (n + 1) = (v * base + d) * whole + p' := by
  k_with_none
  k_with "om" => (with_reducible (first | assumption | exact nnA (by assumption) | exact nnB (by assumption) | exact nnC (by assumption) (by assumption) | exact nnD (by assumption) | exact nnE (by assumption) | exact omG21.2.2.2.1 (by assumption) (by assumption) | exact omG21.2.2.1 (by assumption) (by assumption) | exact omG30.2.2.2.2.1 (by assumption) (by assumption)))
  rw [Int.pow_succ, geo]; grind

/-- the three powers at hand -/
theorem far_unit {W F : Nat} {whole extra : Int} (hW : 1 ≤ W) (hF : 4000 ≤ F) (hW3 : W ≤ 3) (h1 : 2 ^ (2 * W - 1) ≤ whole) (h2 : whole < 2 ^ (2 * W)) (h3 : 0 ≤ extra) (h4 : extra < 1000) :
    let unit : Int := 4 ^ (F - W) + (4 ^ (F - 2 * W) : Int).fdiv 3 - extra
    2 ^ (2 * F - 1) ≤ whole * unit ∧ whole * unit < 2 ^ (2 * F) ∧ 1 ≤ unit := by
  k_with_none
  k_with "om" => (with_reducible (first | assumption | exact nnA (by assumption) | exact nnB (by assumption) | exact nnC (by assumption) (by assumption) | exact nnD (by assumption) | exact nnE (by assumption) | exact omG21.2.2.2.1 (by assumption) (by assumption) | exact omG21.2.2.1 (by assumption) (by assumption) | exact omG30.2.2.2.2.1 (by assumption) (by assumption)))
  obtain ⟨G, rfl⟩ : ∃ G, F = G + 2 * W := ⟨F - 2 * W, by (first | exact omG8.1 hF hW3 | omega)⟩
  have e4 : ∀ n : Nat, (4 : Int) ^ n = 2 ^ (2 * n) := fun n => by rw [show (4 : Int) = 2 ^ 2 by decide, ← Int.pow_mul]
  have hg : (4 : Int) ^ 10 ≤ 4 ^ G := by rw [e4, e4]; exact pow_mono (by (first | exact omG8.2.1 hW3 hF | omega))
  have hgv : (4 : Int) ^ 10 = 1048576 := by decide
  intro unit
  obtain ⟨f1, f2, f3⟩ := fdiv_facts ((4 : Int) ^ G) (b := 3) (by decide)
  have hu : unit = 4 ^ (G + W) + ((4 : Int) ^ G).fdiv 3 - extra := by
    show (4 : Int) ^ (G + 2 * W - W) + ((4 : Int) ^ (G + 2 * W - 2 * W)).fdiv 3 - extra = _
    rw [show G + 2 * W - W = G + W by (first | exact omG8.2.2.1 | omega), show G + 2 * W - 2 * W = G by (first | exact omG8.2.2.2.1 | omega)]
  clear_value unit
  generalize hg4 : (4 : Int) ^ G = g at *
  generalize hq : g.fdiv 3 = q at *
  rw [Int.pow_add, hg4] at hu
  have eT : (2 : Int) ^ (2 * (G + 2 * W)) = g * 4 ^ W * 4 ^ W := by
    rw [← hg4, ← e4, Int.pow_add, show 2 * W = W + W by (first | exact omG8.2.2.2.2.1 | omega), Int.pow_add, Int.mul_assoc]
  have eL : (2 : Int) ^ (2 * (G + 2 * W) - 1) * 2 = g * 4 ^ W * 4 ^ W := by
    rw [← eT, ← Int.pow_succ]; congr 1; (first | exact omG8.2.2.2.2.2.1 hF | omega)
  have hw : W = 1 ∨ W = 2 ∨ W = 3 := by (first | exact omG3.2.2.2.2.2.1 hW hW3 | omega)
  generalize (2 : Int) ^ (2 * (G + 2 * W) - 1) = lo at *
  rcases hw with rfl | rfl | rfl
  · have a1 : whole * unit ≤ 3 * unit := Int.mul_le_mul_of_nonneg_right (by simp at h2; (first | exact omG8.2.2.2.2.2.2.1 h2 | omega)) (by simp at hu; (first | exact omG8.2.2.2.2.2.2.2.1 h4 hg f3 f1 hu | omega))
    have a2 : 2 * unit ≤ whole * unit := Int.mul_le_mul_of_nonneg_right (by simp at h1; (first | exact omG8.2.2.2.2.2.2.2.2.1 h1 | omega)) (by simp at hu; (first | exact omG8.2.2.2.2.2.2.2.1 h4 hg f3 f1 hu | omega))
    simp at hu eT eL
    rw [eT]; refine ⟨?_, ?_, ?_⟩ <;> (first | exact omG8.2.2.2.2.2.2.2.2.2.1 h4 hg f3 f1 hu eL a2 | exact omG8.2.2.2.2.2.2.2.2.2.2.1 h3 hg f2 f1 hu a1 | exact omG8.2.2.2.2.2.2.2.2.2.2.2 h4 hg f3 f1 hu | omega)
  · have a1 : whole * unit ≤ 15 * unit := Int.mul_le_mul_of_nonneg_right (by simp at h2; (first | exact omG9.1 h2 | omega)) (by simp at hu; (first | exact omG9.2.1 h4 hg f3 f1 hu | omega))
    have a2 : 8 * unit ≤ whole * unit := Int.mul_le_mul_of_nonneg_right (by simp at h1; (first | exact omG9.2.2.1 h1 | omega)) (by simp at hu; (first | exact omG9.2.1 h4 hg f3 f1 hu | omega))
    simp at hu eT eL
    rw [eT]; refine ⟨?_, ?_, ?_⟩ <;> (first | exact omG9.2.2.2.1 h4 hg f3 f1 hu eL a2 | exact omG9.2.2.2.2.1 h3 hg f2 f1 hu a1 | exact omG9.2.2.2.2.2.1 h4 hg f3 f1 hu | omega)
  · have a1 : whole * unit ≤ 63 * unit := Int.mul_le_mul_of_nonneg_right (by simp at h2; (first | exact omG9.2.2.2.2.2.2.1 h2 | omega)) (by simp at hu; (first | exact omG9.2.2.2.2.2.2.2.1 h4 hg f3 f1 hu | omega))
    have a2 : 32 * unit ≤ whole * unit := Int.mul_le_mul_of_nonneg_right (by simp at h1; (first | exact omG9.2.2.2.2.2.2.2.2.1 h1 | omega)) (by simp at hu; (first | exact omG9.2.2.2.2.2.2.2.1 h4 hg f3 f1 hu | omega))
    simp at hu eT eL
    rw [eT]; refine ⟨?_, ?_, ?_⟩ <;> (first | exact omG9.2.2.2.2.2.2.2.2.2.1 h4 hg f3 f1 hu eL a2 | exact omG9.2.2.2.2.2.2.2.2.2.2.1 h3 hg f2 f1 hu a1 | exact omG9.2.2.2.2.2.2.2.2.2.2.2 h4 hg f3 f1 hu | omega)
end

section
open PySem PySem.W PySem.Calls PyProof.Rows
set_option maxRecDepth 100000
set_option maxHeartbeats 1000000
/-- these names hold these ints -/
noncomputable def Has (m : Str → Option Value) : List (Str × Int) → Prop
  | [] => True
  | (x, v) :: r => (∃ t, m x = some (.int v t)) ∧ Has m r
section
variable {G : Prop} {m : Str → Option Value}
theorem Has.use1 {x1 : Str} {v1 : Int} (h : Has m [(x1, v1)]) (k : ∀ u1, m x1 = some (.int v1 u1) → G) : G := h.1.elim k
theorem Has.use2 {x1 x2 : Str} {v1 v2 : Int} (h : Has m [(x1, v1), (x2, v2)]) (k : ∀ u1, m x1 = some (.int v1 u1) → ∀ u2, m x2 = some (.int v2 u2) → G) : G := h.1.elim fun u e => Has.use1 h.2 (k u e)
theorem Has.use3 {x1 x2 x3 : Str} {v1 v2 v3 : Int} (h : Has m [(x1, v1), (x2, v2), (x3, v3)]) (k : ∀ u1, m x1 = some (.int v1 u1) → ∀ u2, m x2 = some (.int v2 u2) → ∀ u3, m x3 = some (.int v3 u3) → G) : G := h.1.elim fun u e => Has.use2 h.2 (k u e)
theorem Has.use4 {x1 x2 x3 x4 : Str} {v1 v2 v3 v4 : Int} (h : Has m [(x1, v1), (x2, v2), (x3, v3), (x4, v4)]) (k : ∀ u1, m x1 = some (.int v1 u1) → ∀ u2, m x2 = some (.int v2 u2) → ∀ u3, m x3 = some (.int v3 u3) → ∀ u4, m x4 = some (.int v4 u4) → G) : G := h.1.elim fun u e => Has.use3 h.2 (k u e)
theorem Has.use5 {x1 x2 x3 x4 x5 : Str} {v1 v2 v3 v4 v5 : Int} (h : Has m [(x1, v1), (x2, v2), (x3, v3), (x4, v4), (x5, v5)]) (k : ∀ u1, m x1 = some (.int v1 u1) → ∀ u2, m x2 = some (.int v2 u2) → ∀ u3, m x3 = some (.int v3 u3) → ∀ u4, m x4 = some (.int v4 u4) → ∀ u5, m x5 = some (.int v5 u5) → G) : G := h.1.elim fun u e => Has.use4 h.2 (k u e)
theorem Has.use6 {x1 x2 x3 x4 x5 x6 : Str} {v1 v2 v3 v4 v5 v6 : Int} (h : Has m [(x1, v1), (x2, v2), (x3, v3), (x4, v4), (x5, v5), (x6, v6)]) (k : ∀ u1, m x1 = some (.int v1 u1) → ∀ u2, m x2 = some (.int v2 u2) → ∀ u3, m x3 = some (.int v3 u3) → ∀ u4, m x4 = some (.int v4 u4) → ∀ u5, m x5 = some (.int v5 u5) → ∀ u6, m x6 = some (.int v6 u6) → G) : G := h.1.elim fun u e => Has.use5 h.2 (k u e)
theorem Has.use7 {x1 x2 x3 x4 x5 x6 x7 : Str} {v1 v2 v3 v4 v5 v6 v7 : Int} (h : Has m [(x1, v1), (x2, v2), (x3, v3), (x4, v4), (x5, v5), (x6, v6), (x7, v7)]) (k : ∀ u1, m x1 = some (.int v1 u1) → ∀ u2, m x2 = some (.int v2 u2) → ∀ u3, m x3 = some (.int v3 u3) → ∀ u4, m x4 = some (.int v4 u4) → ∀ u5, m x5 = some (.int v5 u5) → ∀ u6, m x6 = some (.int v6 u6) → ∀ u7, m x7 = some (.int v7 u7) → G) : G := h.1.elim fun u e => Has.use6 h.2 (k u e)
theorem Has.use8 {x1 x2 x3 x4 x5 x6 x7 x8 : Str} {v1 v2 v3 v4 v5 v6 v7 v8 : Int} (h : Has m [(x1, v1), (x2, v2), (x3, v3), (x4, v4), (x5, v5), (x6, v6), (x7, v7), (x8, v8)]) (k : ∀ u1, m x1 = some (.int v1 u1) → ∀ u2, m x2 = some (.int v2 u2) → ∀ u3, m x3 = some (.int v3 u3) → ∀ u4, m x4 = some (.int v4 u4) → ∀ u5, m x5 = some (.int v5 u5) → ∀ u6, m x6 = some (.int v6 u6) → ∀ u7, m x7 = some (.int v7 u7) → ∀ u8, m x8 = some (.int v8 u8) → G) : G := h.1.elim fun u e => Has.use7 h.2 (k u e)
theorem Has.use9 {x1 x2 x3 x4 x5 x6 x7 x8 x9 : Str} {v1 v2 v3 v4 v5 v6 v7 v8 v9 : Int} (h : Has m [(x1, v1), (x2, v2), (x3, v3), (x4, v4), (x5, v5), (x6, v6), (x7, v7), (x8, v8), (x9, v9)]) (k : ∀ u1, m x1 = some (.int v1 u1) → ∀ u2, m x2 = some (.int v2 u2) → ∀ u3, m x3 = some (.int v3 u3) → ∀ u4, m x4 = some (.int v4 u4) → ∀ u5, m x5 = some (.int v5 u5) → ∀ u6, m x6 = some (.int v6 u6) → ∀ u7, m x7 = some (.int v7 u7) → ∀ u8, m x8 = some (.int v8 u8) → ∀ u9, m x9 = some (.int v9 u9) → G) : G := h.1.elim fun u e => Has.use8 h.2 (k u e)
theorem Has.use10 {x1 x2 x3 x4 x5 x6 x7 x8 x9 x10 : Str} {v1 v2 v3 v4 v5 v6 v7 v8 v9 v10 : Int} (h : Has m [(x1, v1), (x2, v2), (x3, v3), (x4, v4), (x5, v5), (x6, v6), (x7, v7), (x8, v8), (x9, v9), (x10, v10)]) (k : ∀ u1, m x1 = some (.int v1 u1) → ∀ u2, m x2 = some (.int v2 u2) → ∀ u3, m x3 = some (.int v3 u3) → ∀ u4, m x4 = some (.int v4 u4) → ∀ u5, m x5 = some (.int v5 u5) → ∀ u6, m x6 = some (.int v6 u6) → ∀ u7, m x7 = some (.int v7 u7) → ∀ u8, m x8 = some (.int v8 u8) → ∀ u9, m x9 = some (.int v9 u9) → ∀ u10, m x10 = some (.int v10 u10) → G) : G := h.1.elim fun u e => Has.use9 h.2 (k u e)
theorem Has.use11 {x1 x2 x3 x4 x5 x6 x7 x8 x9 x10 x11 : Str} {v1 v2 v3 v4 v5 v6 v7 v8 v9 v10 v11 : Int} (h : Has m [(x1, v1), (x2, v2), (x3, v3), (x4, v4), (x5, v5), (x6, v6), (x7, v7), (x8, v8), (x9, v9), (x10, v10), (x11, v11)]) (k : ∀ u1, m x1 = some (.int v1 u1) → ∀ u2, m x2 = some (.int v2 u2) → ∀ u3, m x3 = some (.int v3 u3) → ∀ u4, m x4 = some (.int v4 u4) → ∀ u5, m x5 = some (.int v5 u5) → ∀ u6, m x6 = some (.int v6 u6) → ∀ u7, m x7 = some (.int v7 u7) → ∀ u8, m x8 = some (.int v8 u8) → ∀ u9, m x9 = some (.int v9 u9) → ∀ u10, m x10 = some (.int v10 u10) → ∀ u11, m x11 = some (.int v11 u11) → G) : G := h.1.elim fun u e => Has.use10 h.2 (k u e)
end

/-- a walk of notes: from each place to the next, the last to the place that came again -/
structure Notes (B whole figure place : Int) (ps gs : List Int) : Prop where
  ps0 : ∀ p ∈ ps, 0 ≤ p ∧ p < whole
  gs0 : ∀ g ∈ gs, 0 ≤ g ∧ g < B
  len : gs.length = ps.length
  mem : place ∈ ps
  step : ∀ i, i < ps.length → (ps ++ [place]).getD i 0 * B + figure = gs.getD i 0 * whole + (ps ++ [place]).getD (i + 1) 0

/-- head and ring as they stand at the i-th note -/
structure FarAt (B whole figure place : Int) (ps : List Int) (i : Nat) (head ring : Int) : Prop where
  lo : i ≤ ps.idxOf place → ring = 0 ∧ ps.getD 0 0 * B ^ i + figure * geo B i = head * whole + (ps ++ [place]).getD i 0 ∧ 0 ≤ head ∧ head < B ^ i
  hi : ps.idxOf place ≤ i → (ps.getD 0 0 * B ^ ps.idxOf place + figure * geo B (ps.idxOf place) = head * whole + place ∧ 0 ≤ head ∧ head < B ^ ps.idxOf place) ∧
    place * B ^ (i - ps.idxOf place) + figure * geo B (i - ps.idxOf place) = ring * whole + (ps ++ [place]).getD i 0 ∧ 0 ≤ ring ∧ ring < B ^ (i - ps.idxOf place)

section
variable {B whole figure place : Int} {ps gs : List Int}
theorem Notes.idx (H : Notes B whole figure place ps gs) : ps.idxOf place < ps.length := List.idxOf_lt_length_iff.mpr H.mem
theorem Notes.at_idx (H : Notes B whole figure place ps gs) : (ps ++ [place]).getD (ps.idxOf place) 0 = place := by
  have h := H.idx
  rw [List.getD_eq_getElem?_getD, List.getElem?_append_left h, List.getElem?_eq_getElem h, Option.getD_some]
  exact List.getElem_idxOf h
theorem Notes.at_end (_ : Notes B whole figure place ps gs) : (ps ++ [place]).getD ps.length 0 = place := by
  simp
theorem Notes.at_zero (H : Notes B whole figure place ps gs) : (ps ++ [place]).getD 0 0 = ps.getD 0 0 := by
  have h := H.idx
  rw [List.getD_eq_getElem?_getD, List.getElem?_append_left (show 0 < ps.length by (first | exact omG10.1 h | omega)), List.getD_eq_getElem?_getD]
theorem dig_lt {B v d : Int} {n : Nat} (h1 : v < B ^ n) (d1 : d < B) (hB : 0 ≤ B) : v * B + d < B ^ (n + 1) := by
  rw [Int.pow_succ]
  have : (v + 1) * B ≤ B ^ n * B := Int.mul_le_mul_of_nonneg_right (by (first | exact omG1.2.2.2.2.2.2.2.2.2.1 h1 | omega)) hB
  rw [Int.add_mul] at this; (first | exact omG10.2.1 d1 this | omega)
theorem FarAt.zero (H : Notes B whole figure place ps gs) : FarAt B whole figure place ps 0 0 0 := by
  have h0 := H.at_zero
  refine ⟨fun _ => ⟨rfl, ?_, by decide, by simp⟩, fun h => ?_⟩
  · rw [h0]; simp [geo]
  · have e : ps.idxOf place = 0 := by (first | exact omG10.2.2.1 h | omega)
    have := H.at_idx
    rw [e] at this ⊢
    rw [h0] at this
    rw [h0, this]
    simp [geo]
theorem FarAt.next (H : Notes B whole figure place ps gs) {i : Nat} {head ring : Int} (hB : 0 ≤ B) (hi : i < ps.length) (F : FarAt B whole figure place ps i head ring) :
    (i < ps.idxOf place → FarAt B whole figure place ps (i + 1) (head * B + gs.getD i 0) ring) ∧ (¬ i < ps.idxOf place → FarAt B whole figure place ps (i + 1) head (ring * B + gs.getD i 0)) := by
  have hs := H.step i hi
  have hd : 0 ≤ gs.getD i 0 ∧ gs.getD i 0 < B := by
    have h := H.len
    rw [List.getD_eq_getElem?_getD, List.getElem?_eq_getElem (by (first | exact omG10.2.2.2.1 hi h | omega))]
    exact H.gs0 _ (List.getElem_mem _)
  constructor
  · intro hl
    refine an4 (F.lo (by (first | exact omG10.2.2.2.2.1 hl | omega))) ?_
    rintro a1 a2 a3 a4
    have b1 := far_step a2 hs
    have b2 : 0 ≤ head * B + gs.getD i 0 := by have := Int.mul_nonneg a3 hB; (first | exact omG10.2.2.2.2.2.1 hd this | omega)
    have b3 := dig_lt a4 hd.2 hB
    refine ⟨fun _ => ⟨a1, b1, b2, b3⟩, fun h => ?_⟩
    have e : ps.idxOf place = i + 1 := by (first | exact omG10.2.2.2.2.2.2.1 hl h | omega)
    have h9 := H.at_idx
    rw [e] at h9 ⊢
    refine ⟨⟨h9 ▸ b1, b2, b3⟩, ?_⟩
    rw [a1, Nat.sub_self]
    simp only [geo, Int.pow_zero]
    exact ⟨by rw [h9]; (first | exact omG10.2.2.2.2.2.2.2.1 | omega), by decide, by decide⟩
  · intro hl
    refine an4 (F.hi (by (first | exact omG10.2.2.2.2.2.2.2.2.1 hl | omega))) ?_
    rintro a0 a2 a3 a4
    refine ⟨fun h => by (first | exact omG10.2.2.2.2.2.2.2.2.2.1 hl h | omega), fun _ => ⟨a0, ?_⟩⟩
    rw [show i + 1 - ps.idxOf place = (i - ps.idxOf place) + 1 by (first | exact omG10.2.2.2.2.2.2.2.2.2.2.1 hl | omega)]
    exact ⟨far_step a2 hs, by have := Int.mul_nonneg a3 hB; (first | exact omG10.2.2.2.2.2.1 hd this | omega), dig_lt a4 hd.2 hB⟩
theorem FarAt.last (H : Notes B whole figure place ps gs) {head ring : Int} (F : FarAt B whole figure place ps ps.length head ring) :
    (ps.getD 0 0 * B ^ ps.idxOf place + figure * geo B (ps.idxOf place) = head * whole + place ∧ 0 ≤ head ∧ head < B ^ ps.idxOf place) ∧
    place * B ^ (ps.length - ps.idxOf place) + figure * geo B (ps.length - ps.idxOf place) = ring * whole + place ∧ 0 ≤ ring ∧ ring < B ^ (ps.length - ps.idxOf place) := by
  have h := F.hi (Nat.le_of_lt H.idx)
  rw [H.at_end] at h
  exact h
theorem pow_bound {wd n : Nat} (h1 : wd ≤ 3) (h2 : n ≤ 63) {x : Int} (h : x < (2 ^ wd) ^ n) : x < 2 ^ 192 := by
  rw [← Int.pow_mul] at h
  exact Int.lt_of_lt_of_le h (pow_mono (by have := Nat.mul_le_mul h1 h2; (first | exact omG10.2.2.2.2.2.2.2.2.2.2.2 this | omega)))
theorem FarAt.size {wd i : Nat} {head ring : Int} (H : Notes (2 ^ wd) whole figure place ps gs) (h63 : ps.length ≤ 63) (h1 : wd ≤ 3) (h2 : i ≤ ps.length) (F : FarAt (2 ^ wd) whole figure place ps i head ring) : (0 ≤ head ∧ head < 2 ^ 192) ∧ 0 ≤ ring ∧ ring < 2 ^ 192 := by
  have hi := H.idx
  by_cases h : i ≤ ps.idxOf place
  · refine an4 (F.lo h) ?_
    rintro a1 _ a3 a4
    exact ⟨⟨a3, pow_bound h1 (by (first | exact omG11.1 h63 h2 | omega)) a4⟩, by (first | exact omG11.2.1 a1 | omega), by rw [a1]; exact Int.pow_pos (by decide)⟩
  · refine an4 (F.hi (by (first | exact omG11.2.2.1 h | omega))) ?_
    rintro ⟨_, a3, a4⟩ _ a5 a6
    exact ⟨⟨a3, pow_bound h1 (by (first | exact omG11.2.2.2.1 h63 hi | omega)) a4⟩, a5, pow_bound h1 (by (first | exact omG11.2.2.2.2.1 h63 h2 | omega)) a6⟩
end

/-- _div3n2n at a width of far bits -/
theorem d3_far {w : World} {mean : ExcName → Option Value} {mg mb : Str → Option Value} {k F : Nat} {a12 a3 b : Int} (hF : 4000 < F) (hF2 : F ≤ 7998) (h0 : 0 ≤ a12) (h1 : a12 < b) (h2 : 0 ≤ a3) (h3 : a3 < 2 ^ F) (h4 : 2 ^ (2 * F - 1) ≤ b) (h5 : b < 2 ^ (2 * F)) :
    D3 w mean mg mb (k + 4) a12 a3 b (b.fdiv (2 ^ F)) (b.fmod (2 ^ F)) F ((a12 * 2 ^ F + a3).fdiv b) ((a12 * 2 ^ F + a3).fmod b) := by
  have hZ : (0 : Int) < 2 ^ F := Int.pow_pos (by (first | exact omG0.2.2.2.1 | omega))
  refine an3 (fdiv_facts b hZ) ?_
  rintro f1 f2 f3
  have e2 : (2 : Int) ^ (2 * F) = 2 ^ F * 2 ^ F := by rw [Nat.two_mul, Int.pow_add]
  have e3 : (2 : Int) ^ (2 * F - 1) = 2 ^ (F - 1) * 2 ^ F := by rw [← Int.pow_add]; congr 1; (first | exact omG11.2.2.2.2.2.1 | omega)
  have g1 : (2 : Int) ^ (F - 1) ≤ b.fdiv (2 ^ F) := by
    false_or_by_contra
    have : (b.fdiv (2 ^ F) + 1) * 2 ^ F ≤ 2 ^ (F - 1) * 2 ^ F := Int.mul_le_mul_of_nonneg_right (by (first | exact omG11.2.2.2.2.2.2.1 (by with_reducible assumption) | omega)) (by (first | exact omG1.2.2.2.2.1 hZ | omega))
    have h9 : b.fdiv (2 ^ F) * 2 ^ F = 2 ^ F * b.fdiv (2 ^ F) := Int.mul_comm _ _
    rw [Int.add_mul] at this; (first | exact omG11.2.2.2.2.2.2.2.1 h4 f1 f3 e3 this h9 | omega)
  have g2 : b.fdiv (2 ^ F) < 2 ^ F := by
    false_or_by_contra
    have : 2 ^ F * 2 ^ F ≤ b.fdiv (2 ^ F) * 2 ^ F := Int.mul_le_mul_of_nonneg_right (by (first | exact omG2.2.2.1 (by with_reducible assumption) | omega)) (by (first | exact omG1.2.2.2.2.1 hZ | omega))
    have h9 : b.fdiv (2 ^ F) * 2 ^ F = 2 ^ F * b.fdiv (2 ^ F) := Int.mul_comm _ _
    (first | exact omG11.2.2.2.2.2.2.2.2.1 h5 f1 f2 e2 this h9 | omega)
  have g0 : (0 : Int) < 2 ^ (F - 1) := Int.pow_pos (by (first | exact omG0.2.2.2.1 | omega))
  refine d3_one (by (first | exact omG11.2.2.2.2.2.2.2.2.2.1 hF2 | omega)) h0 h1 h2 h3 (by rw [Int.mul_comm]; exact f1) f2 f3 (by (first | exact omG11.2.2.2.2.2.2.2.2.2.2.1 g1 g0 | omega)) h5 fun hne => ?_
  by_cases hb : (Builtin.Int.intBits a12 : Int) - F ≤ 4000
  · exact d2_small (by (first | exact omG11.2.2.2.2.2.2.2.2.2.2.2 g1 g0 | omega)) hb (noPy _ (by (first | exact omG0.2.2.2.2.2.2.1 g1 g0 | omega)) g2 (by (first | exact omG12.1 hF2 | omega)))
  · refine d2_rec hF2 (by (first | exact omG12.2.1 hF | omega)) h0 ?_ g1 g2 hb
    refine an3 (fdiv_facts a12 hZ) ?_
    rintro u1 u2 u3
    false_or_by_contra
    have hc : b.fdiv (2 ^ F) * 2 ^ F ≤ a12 := by (first | exact omG2.2.2.1 (by with_reducible assumption) | omega)
    have h8 : 2 ^ F * (a12.fdiv (2 ^ F) - b.fdiv (2 ^ F)) < 2 ^ F * 1 := by
      rw [Int.mul_sub]; (first | exact omG12.2.2.1 h1 f1 f3 u1 u2 | omega)
    have h9 : -2 ^ F < 2 ^ F * (a12.fdiv (2 ^ F) - b.fdiv (2 ^ F)) := by
      have := Int.mul_comm (b.fdiv (2 ^ F)) (2 ^ F)
      rw [Int.mul_sub]; (first | exact omG12.2.2.2.1 u1 u3 (by with_reducible assumption) this | omega)
    have h10 := Int.lt_of_mul_lt_mul_left h8 (by (first | exact omG1.2.2.2.2.1 hZ | omega))
    have h11 : 2 ^ F * (-1) < 2 ^ F * (a12.fdiv (2 ^ F) - b.fdiv (2 ^ F)) := by omega
    have h12 := Int.lt_of_mul_lt_mul_left h11 (by (first | exact omG1.2.2.2.2.1 hZ | omega))
    exact hne (by (first | exact omG12.2.2.2.2.1 h10 h12 | omega))
end

section
open PySem PySem.W PySem.Calls PyProof.Rows
set_option maxRecDepth 100000
set_option maxHeartbeats 8000000

theorem far_tells {w : World} {mean : ExcName → Option Value} {mg mb : Str → Option Value} {k wd : Nat} {A : Around} {s : Shared} {Q E : Value → Shared → Prop} {P G : Addr} {pv gv : List Value} {e1 e2 : Nat} {ps gs : List Int} {place figure whole extra : Int} {t1 t2 t3 t4 t5 : Tok} (C : Cx w mean mg mb (k + 6) A s.heap)
    (hP : s.heap.get? P = some (W.listOf pv.toArray e1)) (hpI : IntsAre pv ps) (hG : s.heap.get? G = some (W.listOf gv.toArray e2)) (hgI : IntsAre gv gs) (H : Notes (2 ^ wd) whole figure place ps gs) (h63 : ps.length ≤ 63) (hw1 : 1 ≤ wd) (hw3 : wd ≤ 3)
    (hwl : 2 ^ (2 * wd - 1) ≤ whole) (hwh : whole < 2 ^ (2 * wd)) (hx0 : 0 ≤ extra) (hx1 : extra < 1000) (hf0 : 0 ≤ figure) (hf1 : figure < 2 ^ wd)
    (ret : ∀ h' tk', s.heap.StaysIn h' → Q (.bool true) { s with heap := h', toks := tk' }) :
    wpAny (model PySem.Challenge.rw_xi0003_01.row.prog w) A (call (.ref 128) [.ref P, .ref G, .int place t1, .int figure t2, .int (wd : Int) t3, .int whole t4, .int extra t5]) Q E s := by
  k_with_none
  k_with "om" => (with_reducible (first | assumption | exact nnA (by assumption) | exact nnB (by assumption) | exact nnC (by assumption) (by assumption) | exact nnD (by assumption) | exact nnE (by assumption) | exact omG21.2.2.2.1 (by assumption) (by assumption) | exact omG21.2.2.1 (by assumption) (by assumption) | exact omG30.2.2.2.2.1 (by assumption) (by assumption)))
  k_with "eval Name" => ((k_here; k_dflt (refine' ld ?k1 ?k2 ?_; (case k1 => k_asm); (case k2 => assumption); k_whole)))
  k_with "loadName" => ((k_here; k_dflt (refine' ldn ?k1 ?k2 ?_; (case k1 => k_asm); (case k2 => assumption); k_whole)))
  k_with "binaryOp Mult int int" => ((k_here; refine mul_int ?_ (by assumption)))
  k_with "binaryOp Pow int int" => ((k_here; refine pow_int (by first | assumption | omega) (by assumption) ?_))
  k_with "binaryOp FloorDiv int int" => ((k_here; refine floordiv_int (by assumption) ?_ (Or.inl (by assumption))))
  k_with "cell" => (k_dflt (refine' enterF ?hX ?hlim ?ho ?hcd ?hr ?hbind ?hloc ?_ ?c2 ?c3 ?c4 ?c5; (case hX => assumption); (case hlim => exact Top.nolimit (by assumption)); (case ho => k_is); (case hcd => k_is); (case hr => exact Cx.depth (by assumption)); (case hbind => exact BindsTo.of_eq rfl); (case hloc => exact locs rfl); (case c2 => decide); (case c3 => exact rfl); (case c4 => exact rfl); (case c5 => exact rfl); k_whole))
  obtain ⟨hd0, dp, fr, gd, un⟩ := A
  obtain rfl : hd0 = none := C.hand
  have X := C.X
  have T := C.T
  cell_enter
  intro L h₁ tk₀ F eL
  try dsimp only
  k_fold
  have NN : News s.heap L h₁ [] := News.nil
  have eW : (wd : Int).toNat = wd := Int.toNat_natCast wd
  have hB : (2 : Int) ≤ 2 ^ wd := by have := pow_mono (m := 1) (n := wd) hw1; simpa using this
  have hb2 : Builtin.Int.intBits 2 = 2 := by decide
  have s1 : (0 : Int) ≤ wd := by (first | exact omG3.2.2.2.2.2.2.2.2.2.1 | omega)
  have s2 : (Builtin.Int.intBits 2 : Int) * wd ≤ 2 ^ 27 := by rw [hb2]; (first | exact omG12.2.2.2.2.2.1 hw3 | omega)
  have hPl : s.heap.IsList P pv.toArray := ⟨_, hP, rfl, e1, rfl⟩
  have hGl : s.heap.IsList G gv.toArray := ⟨_, hG, rfl, e2, rfl⟩
  have hi0 := H.idx
  have hglen := H.len
  generalize hi0e : ps.idxOf place = i0 at *
  obtain ⟨sp, hsp⟩ : ∃ sp, sp = ps.length - i0 := ⟨_, rfl⟩
  obtain ⟨rn, hrn⟩ : ∃ rn, rn = 4100 / (wd * sp) + 1 := ⟨_, rfl⟩
  have p1 : 0 < sp := by (first | exact omG12.2.2.2.2.2.2.1 hi0 hsp | omega)
  have p2 : sp ≤ 63 := by (first | exact omG12.2.2.2.2.2.2.2.1 h63 hsp | omega)
  -- base, start, head, ring
  refine cut_at 2 (fun s' => ∃ h' tk' m', s' = { s with heap := h', toks := tk' } ∧ Fr s.heap L h' m' ∧ m' "path" = some (.ref P) ∧ m' "figures" = some (.ref G) ∧
    Has m' [("place", place), ("figure", figure), ("width", (wd : Int)), ("whole", whole), ("extra", extra), ("base", 2 ^ wd), ("start", (i0 : Int)), ("head", 0), ("ring", 0)]) ?_ ?_
  · intro R hR
    dsimp only [List.take]
    k_with "getMethod ref" => refine getMethod_list_of PySem.F.slot_list_index PySem.F.type_list_index (hPl.at fun o e => Fr.keep (by assumption) _ o e) ⟨_, Fr.keep (by assumption) _ _ hP, rfl⟩ ?_
    k_with "call builtin:list.index" => refine index_ints (hPl.at fun o e => Fr.keep (by assumption) _ o e) hpI h63 H.mem ?_
    k_steps
    refine hR _ ?_
    refine' xi3 _ _ _ ⟨rfl, ?aF, ?aP, ?aG, ?aH⟩
    case aF => assumption
    case aP => exact rfl
    case aG => exact rfl
    case aH => exact ⟨⟨_, rfl⟩, ⟨_, rfl⟩, ⟨_, rfl⟩, ⟨_, rfl⟩, ⟨_, rfl⟩, ⟨_, rfl⟩, ⟨_, by rw [← hi0e]; rfl⟩, ⟨_, rfl⟩, ⟨_, rfl⟩, trivial⟩
  · rintro s' xr2
    refine ex3 xr2 ?_
    clear xr2
    rintro h2 tk2 m2 xq1
    refine an5 xq1 ?_
    clear xq1
    rintro rfl F2 mP mG xq2
    refine Has.use9 xq2 ?_
    clear xq2
    intro u1 m1 u2 m2' u3 m3 u4 m4 u5 m5 u6 m6 u7 m7 u8 m8 u9 m9
    dsimp only [List.drop]
    have NN : News s.heap L h2 [] := News.nil
    clear F
    refine cut_at 3 (fun s' => ∃ head ring h' tk' m', s' = { s with heap := h', toks := tk' } ∧ Fr s.heap L h' m' ∧ FarAt (2 ^ wd) whole figure place ps ps.length head ring ∧ m' "path" = some (.ref P) ∧ m' "figures" = some (.ref G) ∧
      Has m' [("place", place), ("figure", figure), ("width", (wd : Int)), ("whole", whole), ("extra", extra), ("base", 2 ^ wd), ("start", (i0 : Int)), ("head", head), ("ring", ring), ("span", (sp : Int)), ("rounds", (rn : Int))]) ?_ ?_
    · intro R hR
      dsimp only [List.take]
      k_steps
      (rename PairSrcL _ _ _ _ _ _ _ _ _ _ _ _ => S0)
      (rename Fr _ _ _ _ => F0)
      (rename News _ _ _ _ => N0)
      refine (PairSrcL.at S0 _ rfl) _ _ _ _ (fun i m n => ∃ head ring, FarAt (2 ^ wd) whole figure place ps i head ring ∧ m "path" = some (.ref P) ∧ m "figures" = some (.ref G) ∧ Has m [("place", place), ("figure", figure), ("width", (wd : Int)), ("whole", whole), ("extra", extra), ("base", 2 ^ wd), ("start", (i0 : Int)), ("head", head), ("ring", ring)])
        ⟨0, 0, FarAt.zero H, mP, mG, ⟨_, m1⟩, ⟨_, m2'⟩, ⟨_, m3⟩, ⟨_, m4⟩, ⟨_, m5⟩, ⟨_, m6⟩, ⟨_, m7⟩, ⟨_, m8⟩, ⟨_, m9⟩, trivial⟩ ?turn ?done
      case turn =>
        clear mP mG m1 m2' m3 m4 m5 m6 m7 m8 m9 F0 N0 S0
        try clear F2
        try clear NN
        rintro i a t v m1 n1 s1 own xr3 hia hK xr4 - hown F1 N1
        refine ex2 xr3 ?_
        clear xr3
        rintro h2 tk2 rfl
        refine ex2 xr4 ?_
        clear xr4
        rintro head ring xq3
        refine an4 xq3 ?_
        clear xq3
        rintro hF mP mG xq4
        refine Has.use9 xq4 ?_
        clear xq4
        intro u1 m1 u2 m2' u3 m3 u4 m4 u5 m5 u6 m6 u7 m7 u8 m8 u9 m9
        obtain ⟨_, e'⟩ := ItemKind.int_is hK; subst e'
        obtain ⟨hil, hia'⟩ := List.getElem?_eq_some_iff.mp hia
        have hgd : gs.getD i 0 = a := by rw [List.getD_eq_getElem?_getD, hia, Option.getD_some]
        obtain ⟨hn1, hn2⟩ := FarAt.next H (by (first | exact omG12.2.2.2.2.2.2.2.2.1 hB | omega)) (by (first | exact omG12.2.2.2.2.2.2.2.2.2.1 hglen hil | omega)) hF
        refine an3 (FarAt.size H h63 hw3 (by (first | exact omG12.2.2.2.2.2.2.2.2.2.2.1 hglen hil | omega)) hF) ?_
        rintro ⟨b1, b2⟩ b3 b4
        rw [hgd, hi0e] at hn1 hn2
        have q0 : Builtin.Int.intBits ((2 : Int) ^ wd) ≤ 4 := bits_le' (Int.le_trans (by decide) hB) (Int.lt_of_le_of_lt (pow_mono hw3) (by decide))
        have q1 : IntMulOk head (2 ^ wd) := IntMulOk.of_bits (by have := bits_le' b1 b2; (first | exact omG12.2.2.2.2.2.2.2.2.2.2.2 this | omega)) (by (first | exact omG13.1 q0 | omega))
        have q2 : IntMulOk ring (2 ^ wd) := IntMulOk.of_bits (by have := bits_le' b3 b4; (first | exact omG12.2.2.2.2.2.2.2.2.2.2.2 this | omega)) (by (first | exact omG13.1 q0 | omega))
        show wpAny _ _ _ _ _ _
        k_fold
        k_steps
        rotate_left 2
        exact ring
        exact (head * 2 ^ wd + a)
        rotate_left 2
        exact (ring * 2 ^ wd + a)
        exact head
        · exact hn1 (by (first | exact omG13.2.1 (by with_reducible assumption) | omega))
        · exact ⟨⟨_, m1⟩, ⟨_, m2'⟩, ⟨_, m3⟩, ⟨_, m4⟩, ⟨_, m5⟩, ⟨_, m6⟩, ⟨_, m7⟩, ⟨_, rfl⟩, ⟨_, m9⟩, trivial⟩
        · exact hn2 (by (first | exact omG13.2.2.1 (by with_reducible assumption) | omega))
        · exact ⟨⟨_, m1⟩, ⟨_, m2'⟩, ⟨_, m3⟩, ⟨_, m4⟩, ⟨_, m5⟩, ⟨_, m6⟩, ⟨_, m7⟩, ⟨_, m8⟩, ⟨_, rfl⟩, trivial⟩
      case done =>
        have e_sp : (ps.length : Int) - i0 = sp := by (first | exact omG13.2.2.2.1 hi0 hsp | omega)
        have e_wsp : ((wd : Int) * ((ps.length : Int) - i0)) = ((wd * sp : Nat) : Int) := by rw [e_sp]; push_cast; rfl
        have e_rn : (4100 : Int).fdiv ((wd : Int) * ((ps.length : Int) - i0)) + 1 = rn := by
          rw [e_wsp, hrn, Int.fdiv_eq_ediv_of_nonneg _ (by (first | exact omG3.2.2.2.2.2.2.2.2.2.1 | omega))]; push_cast; rfl
        have q3 : (wd : Int) * ((ps.length : Int) - i0) ≠ 0 := Int.mul_ne_zero (by (first | exact omG13.2.2.2.2.1 hw1 | omega)) (by (first | exact omG13.2.2.2.2.2.1 hsp p1 | omega))
        have q4 : Builtin.divisionGoesByPylong 4100 ((wd : Int) * ((ps.length : Int) - i0)) = false := by
          rw [e_wsp]
          exact noPy (k := 8) _ (by (first | exact omG3.2.2.2.2.2.2.2.2.2.1 | omega)) (by have := Nat.mul_le_mul hw3 p2; (first | exact omG13.2.2.2.2.2.2.1 this | omega)) (by decide)
        rintro h2 tk2 m2 n2 F2 N2 - xr6
        refine ex2 xr6 ?_
        clear xr6
        rintro head ring xq5
        refine an4 xq5 ?_
        clear xq5
        rintro hF mP mG xq6
        refine Has.use9 xq6 ?_
        clear xq6
        intro u1 m1 u2 m2' u3 m3 u4 m4 u5 m5 u6 m6 u7 m7 u8 m8 u9 m9
        rw [hglen] at hF
        dsimp only
        k_steps
        refine hR _ ?_
        refine' xi5 head ring _ _ _ ⟨rfl, ?bF, hF, ?bP, ?bG, ?bH⟩
        case bF => assumption
        case bP => exact mP
        case bG => exact mG
        case bH =>
          refine ⟨⟨_, m1⟩, ⟨_, m2'⟩, ⟨_, m3⟩, ⟨_, m4⟩, ⟨_, m5⟩, ⟨_, m6⟩, ⟨_, m7⟩, ⟨_, m8⟩, ⟨_, m9⟩, ⟨_, congrArg (fun z => some (Value.int z _)) e_sp⟩, ⟨_, congrArg (fun z => some (Value.int z _)) e_rn⟩, trivial⟩
    · rintro s' xr7
      refine ex5 xr7 ?_
      clear xr7
      rintro head ring h2 tk2 m2 xq7
      refine an6 xq7 ?_
      clear xq7
      rintro rfl F2 hF mP mG xq8
      refine Has.use11 xq8 ?_
      clear xq8
      intro u1 m1 u2 m2' u3 m3 u4 m4 u5 m5 u6 m6 u7 m7 u8 m8 u9 m9 u10 m10 u11 m11
      dsimp only [List.drop]
      have NN : News s.heap L h2 [] := News.nil
      refine an4 (hF.last H) ?_
      rintro xr8 A4 A5 A6
      refine an3 xr8 ?_
      clear xr8
      rintro A1 A2 A3
      rw [hi0e, ← hsp] at A4 A6
      rw [hi0e] at A1 A3
      -- sizes
      obtain ⟨c, hc⟩ : ∃ c, c = wd * sp := ⟨_, rfl⟩
      obtain ⟨st, hst⟩ : ∃ st, st = i0 + sp * rn := ⟨_, rfl⟩
      obtain ⟨Fa, hFa⟩ : ∃ Fa, Fa = wd * st := ⟨_, rfl⟩
      have c1 : 1 ≤ c := by rw [hc]; exact Nat.mul_pos hw1 p1
      have c2 : c ≤ 189 := by rw [hc]; exact Nat.mul_le_mul hw3 p2
      have c3 : c * rn ≤ 4289 ∧ 4100 < c * rn := by
        rw [hrn, ← hc]
        have t1 := Nat.div_add_mod 4100 c
        have t2 := Nat.mod_lt 4100 (show 0 < c by (first | exact omG13.2.2.2.2.2.2.2.2.1 c1 | omega))
        rw [Nat.mul_add]; (first | exact omG13.2.2.2.2.2.2.2.2.2.1 c2 t1 t2 | omega)
      have c4 : rn ≤ 4289 := Nat.le_trans (by have := Nat.mul_le_mul c1 (Nat.le_refl rn); (first | exact omG13.2.2.2.2.2.2.2.2.2.2.1 this | omega)) c3.1
      have c5 : Fa = wd * i0 + c * rn := by rw [hFa, hst, hc, Nat.mul_add, Nat.mul_assoc]
      have c6 : wd * i0 ≤ 189 := Nat.mul_le_mul hw3 (show i0 ≤ 63 by (first | exact omG11.2.2.2.1 h63 hi0 | omega))
      have c7 : st ≤ Fa := by rw [hFa]; have := Nat.mul_le_mul hw1 (Nat.le_refl st); (first | exact omG13.2.2.2.2.2.2.2.2.2.2.1 this | omega)
      have c8 : 4100 < Fa ∧ Fa ≤ 4478 := by (first | exact omG13.2.2.2.2.2.2.2.2.2.2.2 c3 c5 c6 | omega)
      have b0 : ∀ n : Nat, Builtin.Int.intBits ((2 : Int) ^ n) ≤ n + 1 := fun n => bits_le' (Int.le_of_lt (Int.pow_pos (by decide))) (by rw [Int.pow_succ]; have : (0 : Int) < 2 ^ n := Int.pow_pos (by decide); (first | exact omG14.1 this | omega))
      have s3 : (0 : Int) ≤ sp := by (first | exact omG3.2.2.2.2.2.2.2.2.2.1 | omega)
      have s4 : (Builtin.Int.intBits ((2 : Int) ^ wd) : Int) * sp ≤ 2 ^ 27 := by
        have : (Builtin.Int.intBits ((2 : Int) ^ wd)) * sp ≤ 4 * 63 := Nat.mul_le_mul (by have := b0 wd; (first | exact omG14.2.1 hw3 this | omega)) (by (first | exact omG14.2.2.1 p2 | omega))
        exact Int.le_trans (Int.ofNat_le.mpr this) (by decide)
      refine cut_at 1 (fun s' => ∃ h' tk' m', s' = { s with heap := h', toks := tk' } ∧ Fr s.heap L h' m' ∧ m' "path" = some (.ref P) ∧
        Has m' [("place", place), ("figure", figure), ("width", (wd : Int)), ("whole", whole), ("extra", extra), ("base", 2 ^ wd), ("head", head), ("ring", ring), ("rounds", (rn : Int)), ("steps", (st : Int)), ("turn", (2 ^ wd) ^ sp)]) ?_ ?_
      · intro R hR
        dsimp only [List.take]
        k_steps
        refine hR _ ?_
        refine' xi3 _ _ _ ⟨rfl, ?cF, ?cP, ?cH⟩
        case cF => assumption
        case cP => exact mP
        case cH =>
          refine ⟨⟨_, m1⟩, ⟨_, m2'⟩, ⟨_, m3⟩, ⟨_, m4⟩, ⟨_, m5⟩, ⟨_, m6⟩, ⟨_, m8⟩, ⟨_, m9⟩, ⟨_, m11⟩, ⟨_, congrArg (fun z => some (Value.int z _)) (show (i0 : Int) + sp * rn = st by rw [hst]; push_cast; rfl)⟩, ⟨_, rfl⟩, trivial⟩
      · clear hF mP mG m1 m2' m3 m4 m5 m6 m7 m8 m9 m10 m11 NN F2
        rintro s' xr9
        refine ex3 xr9 ?_
        clear xr9
        rintro h2 tk2 m2 xq9
        refine an4 xq9 ?_
        clear xq9
        rintro rfl F2 mP xq10
        refine Has.use11 xq10 ?_
        clear xq10
        intro u1 m1 u2 m2' u3 m3 u4 m4 u5 m5 u6 m6 u7 m7 u8 m8 u9 m9 u10 m10 u11 m11
        dsimp only [List.drop]
        have NN : News s.heap L h2 [] := News.nil
        have eT : ((2 : Int) ^ wd) ^ sp = 2 ^ c := by rw [← Int.pow_mul, hc]
        have eTT : ((2 : Int) ^ c) ^ (rn : Int).toNat = 2 ^ (c * rn) := by rw [Int.toNat_natCast, ← Int.pow_mul]
        have eG : ((((2 : Int) ^ c) ^ (rn : Int).toNat) - 1).fdiv ((2 : Int) ^ c - 1) = geo (2 ^ c) rn := by
          rw [Int.toNat_natCast]; exact geo_div (by have := pow_mono c1; simpa using this) rn
        rw [eT] at m11
        have hc2 : (2 : Int) ≤ 2 ^ c := by have := pow_mono c1; simpa using this
        have s3 : (0 : Int) ≤ rn := by (first | exact omG3.2.2.2.2.2.2.2.2.2.1 | omega)
        have s4 : (Builtin.Int.intBits ((2 : Int) ^ c) : Int) * rn ≤ 2 ^ 27 := by
          have : (Builtin.Int.intBits ((2 : Int) ^ c)) * rn ≤ 190 * 4289 := Nat.mul_le_mul (by have := b0 c; (first | exact omG14.2.2.2.1 c2 this | omega)) (by (first | exact omG14.2.2.2.2.1 c4 | omega))
          exact Int.le_trans (Int.ofNat_le.mpr this) (by decide)
        obtain ⟨⟨z1, z2⟩, z3, z4⟩ : (0 ≤ head ∧ head < 2 ^ 192) ∧ 0 ≤ ring ∧ ring < 2 ^ 192 := ⟨⟨A2, pow_bound hw3 (by (first | exact omG11.2.2.2.1 h63 hi0 | omega)) A3⟩, A5, pow_bound hw3 (by (first | exact omG14.2.2.1 p2 | omega)) A6⟩
        have z5 := bits_le' z1 z2
        have z6 := bits_le' z3 z4
        have s5 : IntMulOk head (((2 : Int) ^ c) ^ (rn : Int).toNat) := by
          rw [eTT]; exact IntMulOk.of_bits (by (first | exact omG12.2.2.2.2.2.2.2.2.2.2.2 z5 | omega)) (by have := b0 (c * rn); (first | exact omG14.2.2.2.2.2.1 c3 this | omega))
        have g0 := geo_nonneg (show (0 : Int) ≤ 2 ^ c by (first | exact omG12.2.2.2.2.2.2.2.2.1 hc2 | omega)) rn
        have g1 : geo (2 ^ c) rn < 2 ^ (c * rn) := by
          have := geo_spec (2 ^ c) rn
          rw [← Int.pow_mul] at this
          have h9 : geo (2 ^ c) rn * 1 ≤ geo (2 ^ c) rn * (2 ^ c - 1) := Int.mul_le_mul_of_nonneg_left (by (first | exact omG14.2.2.2.2.2.2.1 hc2 | omega)) g0
          (first | exact omG14.2.2.2.2.2.2.2.1 this h9 | omega)
        have s6 : IntMulOk ring (((((2 : Int) ^ c) ^ (rn : Int).toNat) - 1).fdiv ((2 : Int) ^ c - 1)) := by
          rw [eG]; exact IntMulOk.of_bits (by (first | exact omG12.2.2.2.2.2.2.2.2.2.2.2 z6 | omega)) (by have := bits_le' g0 g1; (first | exact omG14.2.2.2.2.2.2.2.2.1 c3 this | omega))
        have s7 : ((2 : Int) ^ c - 1) ≠ 0 := by (first | exact omG7.2.2.2.2.2.2.2.2.2.1 hc2 | omega)
        have s8 : Builtin.divisionGoesByPylong ((((2 : Int) ^ c) ^ (rn : Int).toNat) - 1) ((2 : Int) ^ c - 1) = false := noPy (k := c) _ (by (first | exact omG14.2.2.2.2.2.2.2.2.2.1 hc2 | omega)) (by (first | exact omG14.2.2.2.2.2.2.2.2.2.2.1 | omega)) (by (first | exact omG14.2.2.2.2.2.2.2.2.2.2.2 c2 | omega))
        obtain ⟨quo, hquo⟩ : ∃ quo, quo = head * (2 ^ c) ^ rn + ring * geo (2 ^ c) rn := ⟨_, rfl⟩
        have e_quo : head * ((2 : Int) ^ c) ^ (rn : Int).toNat + ring * (((((2 : Int) ^ c) ^ (rn : Int).toNat) - 1).fdiv ((2 : Int) ^ c - 1)) = quo := by rw [eG, hquo, Int.toNat_natCast]
        refine cut_at 1 (fun s' => ∃ h' tk' m', s' = { s with heap := h', toks := tk' } ∧ Fr s.heap L h' m' ∧ m' "path" = some (.ref P) ∧
          Has m' [("place", place), ("figure", figure), ("width", (wd : Int)), ("whole", whole), ("extra", extra), ("base", 2 ^ wd), ("steps", (st : Int)), ("quotient", quo)]) ?_ ?_
        · intro R hR
          dsimp only [List.take]
          k_steps
          refine hR _ ?_
          refine' xi3 _ _ _ ⟨rfl, ?dF, ?dP, ?dH⟩
          case dF => assumption
          case dP => exact mP
          case dH =>
            refine ⟨⟨_, m1⟩, ⟨_, m2'⟩, ⟨_, m3⟩, ⟨_, m4⟩, ⟨_, m5⟩, ⟨_, m6⟩, ⟨_, m10⟩, ⟨_, congrArg (fun z => some (Value.int z _)) e_quo⟩, trivial⟩
        · clear mP m1 m2' m3 m4 m5 m6 m7 m8 m9 m10 m11 NN F2 s3 s4 s5 s6 s7 s8
          rintro s' xr10
          refine ex3 xr10 ?_
          clear xr10
          rintro h2 tk2 m2 xq11
          refine an4 xq11 ?_
          clear xq11
          rintro rfl F2 mP xq12
          refine Has.use8 xq12 ?_
          clear xq12
          intro u1 m1 u2 m2' u3 m3 u4 m4 u5 m5 u6 m6 u7 m7 u8 m8
          dsimp only [List.drop]
          have NN : News s.heap L h2 [] := News.nil
          have d0 : (0 : Int) ≤ st := by (first | exact omG3.2.2.2.2.2.2.2.2.2.1 | omega)
          have d1 : (Builtin.Int.intBits ((2 : Int) ^ wd) : Int) * st ≤ 2 ^ 27 := by
            have : (Builtin.Int.intBits ((2 : Int) ^ wd)) * st ≤ 4 * 4478 := Nat.mul_le_mul (by have := b0 wd; (first | exact omG14.2.1 hw3 this | omega)) (by (first | exact omG15.1 c7 c8 | omega))
            exact Int.le_trans (Int.ofNat_le.mpr this) (by decide)
          have eS : ((2 : Int) ^ wd) ^ (st : Int).toNat = 2 ^ Fa := by rw [Int.toNat_natCast, ← Int.pow_mul, hFa]
          have eH : ((((2 : Int) ^ wd) ^ (st : Int).toNat) - 1).fdiv ((2 : Int) ^ wd - 1) = geo (2 ^ wd) st := by
            rw [Int.toNat_natCast]; exact geo_div hB st
          have hp0 : 0 ≤ ps.getD 0 0 ∧ ps.getD 0 0 < whole := by
            rw [List.getD_eq_getElem?_getD, List.getElem?_eq_getElem (show 0 < ps.length by (first | exact omG10.1 hi0 | omega))]
            exact H.ps0 _ (List.getElem_mem _)
          have hwb : whole < 2 ^ 6 := Int.lt_of_lt_of_le hwh (pow_mono (by (first | exact omG15.2.1 hw3 | omega)))
          have d2 : IntMulOk (ps.getD 0 0) (((2 : Int) ^ wd) ^ (st : Int).toNat) := by
            rw [eS]; exact IntMulOk.of_bits (by have := bits_le' hp0.1 (Int.lt_trans hp0.2 hwb); (first | exact omG15.2.2.1 this | omega)) (by have := b0 Fa; (first | exact omG15.2.2.2.1 c8 this | omega))
          have d3 : ((2 : Int) ^ wd - 1) ≠ 0 := by (first | exact omG7.2.2.2.2.2.2.2.2.2.1 hB | omega)
          have d4 : Builtin.divisionGoesByPylong ((((2 : Int) ^ wd) ^ (st : Int).toNat) - 1) ((2 : Int) ^ wd - 1) = false := noPy (k := wd) _ (by (first | exact omG14.2.2.2.2.2.2.2.2.2.1 hB | omega)) (by (first | exact omG14.2.2.2.2.2.2.2.2.2.2.1 | omega)) (by (first | exact omG15.2.2.2.2.1 hw3 | omega))
          have k0 := geo_nonneg (show (0 : Int) ≤ 2 ^ wd by (first | exact omG12.2.2.2.2.2.2.2.2.1 hB | omega)) st
          have k1 : geo (2 ^ wd) st < 2 ^ Fa := by
            have := geo_spec (2 ^ wd) st
            rw [← Int.pow_mul, ← hFa] at this
            have h9 : geo (2 ^ wd) st * 1 ≤ geo (2 ^ wd) st * (2 ^ wd - 1) := Int.mul_le_mul_of_nonneg_left (by (first | exact omG14.2.2.2.2.2.2.1 hB | omega)) k0
            (first | exact omG14.2.2.2.2.2.2.2.1 this h9 | omega)
          have d5 : IntMulOk figure (((((2 : Int) ^ wd) ^ (st : Int).toNat) - 1).fdiv ((2 : Int) ^ wd - 1)) := by
            rw [eH]; exact IntMulOk.of_bits (by have := bits_le' hf0 (Int.lt_of_lt_of_le hf1 (pow_mono hw3)); (first | exact omG15.2.2.2.2.2.1 this | omega)) (by have := bits_le' k0 k1; (first | exact omG15.2.2.2.2.2.2.1 c8 this | omega))
          have eQ : ps.getD 0 0 * ((2 : Int) ^ wd) ^ st + figure * geo (2 ^ wd) st = quo * whole + place := by
            have := far_run A1 A4 rn
            rw [← hst, eT] at this
            rw [hquo]; exact this
          obtain ⟨run, hrun⟩ : ∃ run, run = quo * whole + place := ⟨_, rfl⟩
          have e_run : ps.getD 0 0 * ((2 : Int) ^ wd) ^ (st : Int).toNat + figure * (((((2 : Int) ^ wd) ^ (st : Int).toNat) - 1).fdiv ((2 : Int) ^ wd - 1)) = run := by rw [eH, Int.toNat_natCast, hrun, ← eQ]
          have e_far : (wd : Int) * st = Fa := by rw [hFa]; push_cast; rfl
          refine cut_at 2 (fun s' => ∃ h' tk' m', s' = { s with heap := h', toks := tk' } ∧ Fr s.heap L h' m' ∧
            Has m' [("place", place), ("width", (wd : Int)), ("whole", whole), ("extra", extra), ("quotient", quo), ("run", run), ("far", (Fa : Int))]) ?_ ?_
          · intro R hR
            dsimp only [List.take]
            k_steps
            refine hR _ ?_
            refine' xi3 _ _ _ ⟨rfl, ?fF, ?fH⟩
            case fF => assumption
            case fH => exact ⟨⟨_, m1⟩, ⟨_, m3⟩, ⟨_, m4⟩, ⟨_, m5⟩, ⟨_, m8⟩, ⟨_, congrArg (fun z => some (Value.int z _)) e_run⟩, ⟨_, congrArg (fun z => some (Value.int z _)) e_far⟩, trivial⟩
          · clear mP m1 m2' m3 m4 m5 m6 m7 m8 NN F2 d0 d1 d2 d3 d4 d5
            rintro s' xr11
            refine ex3 xr11 ?_
            clear xr11
            rintro h2 tk2 m2 xq13
            refine an3 xq13 ?_
            clear xq13
            rintro rfl F2 xq14
            refine Has.use7 xq14 ?_
            clear xq14
            intro u1 m1 u2 m2' u3 m3 u4 m4 u5 m5 u6 m6 u7 m7
            dsimp only [List.drop]
            have NN : News s.heap L h2 [] := News.nil
            have hb4 : Builtin.Int.intBits 4 = 3 := by decide
            have x0 : (0 : Int) ≤ Fa := by (first | exact omG3.2.2.2.2.2.2.2.2.2.1 | omega)
            have x1 : (0 : Int) ≤ (Fa : Int) - wd := by (first | exact omG15.2.2.2.2.2.2.2.1 hw3 c8 | omega)
            have x2 : (0 : Int) ≤ (Fa : Int) - 2 * wd := by (first | exact omG15.2.2.2.2.2.2.2.2.1 hw3 c8 | omega)
            have x3 : (Builtin.Int.intBits 4 : Int) * ((Fa : Int) - wd) ≤ 2 ^ 27 := by rw [hb4]; (first | exact omG15.2.2.2.2.2.2.2.2.2.1 c8 | omega)
            have x4 : (Builtin.Int.intBits 4 : Int) * ((Fa : Int) - 2 * wd) ≤ 2 ^ 27 := by rw [hb4]; (first | exact omG15.2.2.2.2.2.2.2.2.2.2.1 c8 | omega)
            have x5 : (Builtin.Int.intBits 2 : Int) * (Fa : Int) ≤ 2 ^ 27 := by rw [hb2]; (first | exact omG15.2.2.2.2.2.2.2.2.2.2.2 c8 | omega)
            have x6 : Builtin.divisionGoesByPylong (4 ^ ((Fa : Int) - 2 * wd).toNat) 3 = false := noPy (k := 2) _ (by decide) (by decide) (by decide)
            have x7 : (3 : Int) ≠ 0 := by decide
            obtain ⟨unit, hunit⟩ : ∃ unit, unit = (4 : Int) ^ (Fa - wd) + ((4 : Int) ^ (Fa - 2 * wd)).fdiv 3 - extra := ⟨_, rfl⟩
            have e_unit : (4 : Int) ^ ((Fa : Int) - wd).toNat + ((4 : Int) ^ ((Fa : Int) - 2 * wd).toNat).fdiv 3 - extra = unit := by
              rw [hunit, show ((Fa : Int) - wd).toNat = Fa - wd by (first | exact omG16.1 | omega), show ((Fa : Int) - 2 * wd).toNat = Fa - 2 * wd by (first | exact omG16.2.1 | omega)]
            refine cut_at 1 (fun s' => ∃ h' tk' m', s' = { s with heap := h', toks := tk' } ∧ Fr s.heap L h' m' ∧
              Has m' [("place", place), ("whole", whole), ("quotient", quo), ("run", run), ("far", (Fa : Int)), ("unit", unit), ("half", 2 ^ Fa)]) ?_ ?_
            · intro R hR
              dsimp only [List.take]
              k_steps
              refine hR _ ?_
              refine' xi3 _ _ _ ⟨rfl, ?gF, ?gH⟩
              case gF => assumption
              case gH => exact ⟨⟨_, m1⟩, ⟨_, m3⟩, ⟨_, m5⟩, ⟨_, m6⟩, ⟨_, m7⟩, ⟨_, congrArg (fun z => some (Value.int z _)) e_unit⟩, ⟨_, rfl⟩, trivial⟩
            · clear m1 m2' m3 m4 m5 m6 m7 NN F2 x0 x1 x2 x3 x4 x5 x6 x7
              rintro s' xr12
              refine ex3 xr12 ?_
              clear xr12
              rintro h2 tk2 m2 xq15
              refine an3 xq15 ?_
              clear xq15
              rintro rfl F2 xq16
              refine Has.use7 xq16 ?_
              clear xq16
              intro u1 m1 u2 m2' u3 m3 u4 m4 u5 m5 u6 m6 u7 m7
              dsimp only [List.drop]
              have NN : News s.heap L h2 [] := News.nil
              refine an3 (far_unit hw1 (show 4000 ≤ Fa by (first | exact omG16.2.2.2.1 c8 | omega)) hw3 hwl hwh hx0 hx1) ?_
              rintro w1 w2 w3
              rw [← hunit] at w1 w2 w3
              have y0 : (0 : Int) < 2 ^ Fa := Int.pow_pos (by decide)
              have y1 : (2 : Int) ^ Fa ≠ 0 := by (first | exact omG1.2.2.1 y0 | omega)
              have hpl0 : 0 ≤ place ∧ place < whole := H.ps0 _ H.mem
              have ub : unit < 2 ^ (2 * Fa) := by
                have : 1 * unit ≤ whole * unit := Int.mul_le_mul_of_nonneg_right (by (first | exact omG16.2.2.2.2.1 hpl0 | omega)) (by (first | exact omG16.2.2.2.2.2.1 w3 | omega))
                (first | exact omG16.2.2.2.2.2.2.1 w2 this | omega)
              -- the quotient is of far bits
              have q0 : 0 ≤ quo := by rw [hquo]; have v1 := Int.mul_nonneg z1 (Int.le_of_lt (Int.pow_pos (n := 2 ^ c) (m := rn) (by (first | exact omG16.2.2.2.2.2.2.2.1 hc2 | omega)))); have v2 := Int.mul_nonneg z3 g0; (first | exact omG16.2.2.2.2.2.2.2.2.1 v1 v2 | omega)
              have q1 : quo < 2 ^ Fa := by
                have r1 : ps.getD 0 0 * ((2 : Int) ^ wd) ^ st ≤ (whole - 1) * ((2 : Int) ^ wd) ^ st := Int.mul_le_mul_of_nonneg_right (by (first | exact omG16.2.2.2.2.2.2.2.2.2.1 hp0 | omega)) (Int.pow_nonneg (by (first | exact omG12.2.2.2.2.2.2.2.2.1 hB | omega)))
                have r2 : figure * geo (2 ^ wd) st ≤ (2 ^ wd - 1) * geo (2 ^ wd) st := Int.mul_le_mul_of_nonneg_right (by (first | exact omG16.2.2.2.2.2.2.2.2.2.2.1 hf1 | omega)) k0
                have r3 := geo_spec (2 ^ wd) st
                have r4 : ((2 : Int) ^ wd) ^ st = 2 ^ Fa := by rw [← Int.pow_mul, ← hFa]
                rw [r4] at r1 r3 eQ
                have r5 : quo * whole < 2 ^ Fa * whole := by
                  rw [Int.sub_mul] at r1
                  have v1 := Int.mul_comm (geo (2 ^ wd) st) (2 ^ wd - 1)
                  have v2 := Int.mul_comm whole (2 ^ Fa)
                  (first | exact omG16.2.2.2.2.2.2.2.2.2.2.2 eQ hpl0 r1 r2 r3 v1 v2 | omega)
                exact Int.lt_of_mul_lt_mul_right r5 (by (first | exact omG17.1 hpl0 | omega))
              have y2 : IntMulOk run unit := by
                refine IntMulOk.of_bits (bits_le' (by rw [hrun]; have := Int.mul_nonneg q0 (show 0 ≤ whole by (first | exact omG17.1 hpl0 | omega)); (first | exact omG10.2.2.2.2.2.1 hpl0 this | omega)) (show run < 2 ^ (Fa + 6 + 1) from ?_) |> fun h => by (first | exact omG17.2.2.1 c8 h | omega)) (by have := bits_le' (by (first | exact omG16.2.2.2.2.2.1 w3 | omega)) ub; (first | exact omG17.2.1 c8 this | omega))
                rw [hrun, Int.pow_succ, Int.pow_add]
                have : quo * whole ≤ 2 ^ Fa * 2 ^ 6 := Int.mul_le_mul (by (first | exact omG17.2.2.2.1 q1 | omega)) (by (first | exact omG17.2.2.2.2.1 hwb | omega)) (by (first | exact omG17.1 hpl0 | omega)) (by (first | exact omG1.2.2.2.2.1 y0 | omega))
                (first | exact omG17.2.2.2.2.2.1 hwb k0 k1 hpl0 this | omega)
              have y3 : IntMulOk whole unit := IntMulOk.of_bits (by have := bits_le' (show 0 ≤ whole by (first | exact omG17.1 hpl0 | omega)) hwb; (first | exact omG15.2.2.1 this | omega)) (by have := bits_le' (by (first | exact omG16.2.2.2.2.2.1 w3 | omega)) ub; (first | exact omG17.2.1 c8 this | omega))
              have y4 : Builtin.divisionGoesByPylong (run * unit) (2 ^ Fa) = false := noPy (k := Fa + 1) _ (by (first | exact omG1.2.2.2.2.1 y0 | omega)) (by rw [Int.pow_succ]; (first | exact omG14.1 y0 | omega)) (by (first | exact omG17.2.2.2.2.2.2.1 c8 | omega))
              have y5 : Builtin.divisionGoesByPylong (whole * unit) (2 ^ Fa) = false := noPy (k := Fa + 1) _ (by (first | exact omG1.2.2.2.2.1 y0 | omega)) (by rw [Int.pow_succ]; (first | exact omG14.1 y0 | omega)) (by (first | exact omG17.2.2.2.2.2.2.1 c8 | omega))
              have y6 : IntMulOk place unit := IntMulOk.of_bits (by have := bits_le' hpl0.1 (Int.lt_trans hpl0.2 hwb); (first | exact omG15.2.2.1 this | omega)) (by have := bits_le' (by (first | exact omG16.2.2.2.2.2.1 w3 | omega)) ub; (first | exact omG17.2.1 c8 this | omega))
              refine an3 (fdiv_facts (run * unit) y0) ?_
              rintro f1 f2 f3
              have f4 : run * unit = quo * (whole * unit) + place * unit := by rw [hrun, Int.add_mul, Int.mul_assoc]
              have f5 : place * unit < whole * unit := Int.mul_lt_mul_of_pos_right hpl0.2 (by (first | exact omG17.2.2.2.2.2.2.2.1 w3 | omega))
              have f6 : 0 ≤ place * unit := Int.mul_nonneg hpl0.1 (by (first | exact omG16.2.2.2.2.2.1 w3 | omega))
              have f7 : (quo + 1) * (whole * unit) ≤ 2 ^ Fa * (whole * unit) := Int.mul_le_mul_of_nonneg_right (by (first | exact omG1.2.2.2.2.2.2.2.2.2.1 q1 | omega)) (by (first | exact omG17.2.2.2.2.2.2.2.2.1 f5 f6 | omega))
              have f8 : 0 ≤ quo * (whole * unit) := Int.mul_nonneg q0 (by (first | exact omG17.2.2.2.2.2.2.2.2.1 f5 f6 | omega))
              have f9 : (run * unit).fdiv (2 ^ Fa) < whole * unit := by
                rw [Int.add_mul] at f7
                exact Int.lt_of_mul_lt_mul_left (a := 2 ^ Fa) (by (first | exact omG17.2.2.2.2.2.2.2.2.2.1 f1 f2 f4 f5 f7 | omega)) (by (first | exact omG1.2.2.2.2.1 y0 | omega))
              have f10 : 0 ≤ (run * unit).fdiv (2 ^ Fa) := Int.fdiv_nonneg (by (first | exact omG17.2.2.2.2.2.2.2.2.2.2.1 f4 f6 f8 | omega)) (by (first | exact omG1.2.2.2.2.1 y0 | omega))
              obtain ⟨j1, j2⟩ := div_of (V := (run * unit).fdiv (2 ^ Fa) * 2 ^ Fa + (run * unit).fmod (2 ^ Fa)) (b := whole * unit) (q := quo) (r := place * unit) (by rw [← f4]; have := Int.mul_comm ((run * unit).fdiv (2 ^ Fa)) (2 ^ Fa); (first | exact omG17.2.2.2.2.2.2.2.2.2.2.2 f1 this | omega)) f6 f5
              have hD3 := d3_far (w := w) (mean := mean) (mg := mg) (mb := mb) (k := k) (F := Fa) (by (first | exact omG18.1 c8 | omega)) (by (first | exact omG18.2.1 c8 | omega)) f10 f9 f2 f3 w1 w2
              rw [j1, j2] at hD3
              k_steps
              refine hD3.use ((C.push (by assumption)).less (by (first | exact omG18.2.2.1 | omega))) rfl rfl rfl rfl rfl rfl ?_
              intro D t u h' tk' hst2 hnew hD
              have F' := fr_on F2 hst2
              have N' := news_add F2 NN hst2 hnew hD
              k_steps
              (rename Fr _ _ _ _ => F9)
              (rename News _ _ _ _ => N9)
              have hu9 := C.units
              refine eq_dataH (by ke_read) (by ke_read) (by ke_shaped) (by ke_shaped) (by simp only [Around.deeper_units] at hu9 ⊢; (first | exact omG18.2.2.2.1 hu9 | omega)) ?_
              ke_norm
              k_steps
              exact ret _ _ F9.keep
end

section
open PySem PySem.W PySem.Calls PyProof.Rows
set_option maxRecDepth 100000
set_option maxHeartbeats 8000000


noncomputable def marksL : List Str := [Str.ofString "|", Str.ofString "!", Str.ofString ".", Str.ofString "x"]
noncomputable def fieldsL : List (Str × Str) := [(Str.ofString "", Str.ofString ""), (Str.ofString "1", Str.ofString "h"), (Str.ofString "(", Str.ofString " "), (Str.ofString "2", Str.ofString "-3")]
noncomputable def presL : List Str := [Str.ofString "", Str.ofString "0", Str.ofString "+", Str.ofString " "]

noncomputable def RJ1 (s : Shared) (L : Addr) (port dress : Int) (t1 t2 : Tok) : Flow → Shared → Prop := fun fl s' => Hold (∀ ZZ : Flow → Shared → Prop, (∀ (mk : Str) (tm : Tok) (h' : Heap) (tk' : Nat) (m' : Str → Option Value), Fr s.heap L h' m' → mk ∈ marksL → m' "mark" = some (.str mk tm) → m' "port" = some (.int port t1) → m' "dress" = some (.int dress t2) → ZZ .next { s with heap := h', toks := tk' }) → ZZ fl s')
noncomputable def RJ2 (s : Shared) (L : Addr) (port dress : Int) (t1 t2 : Tok) (mk : Str) (tm : Tok) : Flow → Shared → Prop := fun fl s' => Hold (∀ ZZ : Flow → Shared → Prop, (∀ (D : Addr) (f : Str × Str) (tf uf : Tok) (h' : Heap) (tk' : Nat) (m' : Str → Option Value), Fr s.heap L h' m' → News s.heap L h' [(D, W.listOf #[.str f.1 tf, .str f.2 uf] 0)] → f ∈ fieldsL → m' "fields" = some (.ref D) → m' "mark" = some (.str mk tm) → m' "port" = some (.int port t1) → m' "dress" = some (.int dress t2) → ZZ .next { s with heap := h', toks := tk' }) → ZZ fl s')
noncomputable def endsL (mk : Str) : List Str := [Str.ofString "", Str.ofString " ok", mk ++ Str.ofString "9" ++ mk ++ Str.ofString ")", Str.ofString "\n"]
noncomputable def headsL : List Str := [Str.ofString "229 (", Str.ofString "229 :) (", Str.ofString "229("]
noncomputable def RJ3 (s : Shared) (L : Addr) (dress : Int) (t2 : Tok) (mk : Str) (tm : Tok) (D : Addr) (oD : Obj) (port : Str) : Flow → Shared → Prop := fun fl s' => Hold (∀ ZZ : Flow → Shared → Prop, (∀ (pre : Str) (tp : Tok) (h' : Heap) (tk' : Nat) (m' : Str → Option Value), Fr s.heap L h' m' → News s.heap L h' [(D, oD)] → pre ∈ presL → m' "number" = some (.str (pre ++ port) tp) → m' "fields" = some (.ref D) → m' "mark" = some (.str mk tm) → m' "dress" = some (.int dress t2) → ZZ .next { s with heap := h', toks := tk' }) → ZZ fl s')
noncomputable def RJ4 (s : Shared) (L : Addr) (dress : Int) (t2 : Tok) (mk : Str) (tm : Tok) (D : Addr) (oD : Obj) (num : Str) : Flow → Shared → Prop := fun fl s' => Hold (∀ ZZ : Flow → Shared → Prop, (∀ (en : Str) (tn te : Tok) (h' : Heap) (tk' : Nat) (m' : Str → Option Value), Fr s.heap L h' m' → News s.heap L h' [(D, oD)] → en ∈ endsL mk → m' "number" = some (.str num tn) → m' "end" = some (.str en te) → m' "fields" = some (.ref D) → m' "mark" = some (.str mk tm) → m' "dress" = some (.int dress t2) → ZZ .next { s with heap := h', toks := tk' }) → ZZ fl s')
theorem marks_cases {mk : Str} (h : mk ∈ marksL) : mk = Str.ofString "|" ∨ mk = Str.ofString "!" ∨ mk = Str.ofString "." ∨ mk = Str.ofString "x" := by
  k_with_none
  k_with "om" => (with_reducible (first | assumption | exact nnA (by assumption) | exact nnB (by assumption) | exact nnC (by assumption) (by assumption) | exact nnD (by assumption) | exact nnE (by assumption) | exact omG21.2.2.2.1 (by assumption) (by assumption) | exact omG21.2.2.1 (by assumption) (by assumption) | exact omG30.2.2.2.2.1 (by assumption) (by assumption) | exact omG30.2.1 (by assumption) | exact omG30.2.2.1 (by assumption) | exact omG30.2.2.2.1 (by assumption)))
  k_with "eval Name" => ((k_here; k_dflt (refine' ld ?k1 ?k2 ?_; (case k1 => k_asm); (case k2 => assumption); k_whole)))
  k_with "loadName" => ((k_here; k_dflt (refine' ldn ?k1 ?k2 ?_; (case k1 => k_asm); (case k2 => assumption); k_whole)))
  k_with "binaryOp Add str str" => ((k_here; (refine PyProof.Rows.add_str ?_ (by first | assumption | decide)); intro _ _))
  k_with "cell" => (k_dflt (refine' enterF ?hX ?hlim ?ho ?hcd ?hr ?hbind ?hloc ?_ ?c2 ?c3 ?c4 ?c5; (case hX => assumption); (case hlim => exact Top.nolimit (by assumption)); (case ho => k_is); (case hcd => k_is); (case hr => exact Cx.depth (by assumption)); (case hbind => exact BindsTo.of_eq rfl); (case hloc => exact locs rfl); (case c2 => decide); (case c3 => exact rfl); (case c4 => exact rfl); (case c5 => exact rfl); k_whole))
  simpa only [marksL, List.mem_cons, List.not_mem_nil, or_false] using h
theorem mark_sizes {mk : Str} (h : mk ∈ marksL) : mk.length + (Str.ofString "9").length ≤ sizeLine ∧ (mk ++ Str.ofString "9").length + mk.length ≤ sizeLine ∧ (mk ++ Str.ofString "9" ++ mk).length + (Str.ofString ")").length ≤ sizeLine := by
  k_with_none
  k_with "om" => (with_reducible (first | assumption | exact nnA (by assumption) | exact nnB (by assumption) | exact nnC (by assumption) (by assumption) | exact nnD (by assumption) | exact nnE (by assumption) | exact omG21.2.2.2.1 (by assumption) (by assumption) | exact omG21.2.2.1 (by assumption) (by assumption) | exact omG30.2.2.2.2.1 (by assumption) (by assumption) | exact omG30.2.1 (by assumption) | exact omG30.2.2.1 (by assumption) | exact omG30.2.2.2.1 (by assumption)))
  k_with "eval Name" => ((k_here; k_dflt (refine' ld ?k1 ?k2 ?_; (case k1 => k_asm); (case k2 => assumption); k_whole)))
  k_with "loadName" => ((k_here; k_dflt (refine' ldn ?k1 ?k2 ?_; (case k1 => k_asm); (case k2 => assumption); k_whole)))
  k_with "binaryOp Add str str" => ((k_here; (refine PyProof.Rows.add_str ?_ (by first | assumption | decide)); intro _ _))
  k_with "cell" => (k_dflt (refine' enterF ?hX ?hlim ?ho ?hcd ?hr ?hbind ?hloc ?_ ?c2 ?c3 ?c4 ?c5; (case hX => assumption); (case hlim => exact Top.nolimit (by assumption)); (case ho => k_is); (case hcd => k_is); (case hr => exact Cx.depth (by assumption)); (case hbind => exact BindsTo.of_eq rfl); (case hloc => exact locs rfl); (case c2 => decide); (case c3 => exact rfl); (case c4 => exact rfl); (case c5 => exact rfl); k_whole))
  rcases marks_cases h with rfl | rfl | rfl | rfl <;> decide
theorem ends_size {mk en : Str} (h : mk ∈ marksL) (he : en ∈ endsL mk) : (Str.ofString ")").length + en.length ≤ sizeLine := by
  k_with_none
  k_with "om" => (with_reducible (first | assumption | exact nnA (by assumption) | exact nnB (by assumption) | exact nnC (by assumption) (by assumption) | exact nnD (by assumption) | exact nnE (by assumption) | exact omG21.2.2.2.1 (by assumption) (by assumption) | exact omG21.2.2.1 (by assumption) (by assumption) | exact omG30.2.2.2.2.1 (by assumption) (by assumption) | exact omG30.2.1 (by assumption) | exact omG30.2.2.1 (by assumption) | exact omG30.2.2.2.1 (by assumption)))
  k_with "eval Name" => ((k_here; k_dflt (refine' ld ?k1 ?k2 ?_; (case k1 => k_asm); (case k2 => assumption); k_whole)))
  k_with "loadName" => ((k_here; k_dflt (refine' ldn ?k1 ?k2 ?_; (case k1 => k_asm); (case k2 => assumption); k_whole)))
  k_with "binaryOp Add str str" => ((k_here; (refine PyProof.Rows.add_str ?_ (by first | assumption | decide)); intro _ _))
  k_with "cell" => (k_dflt (refine' enterF ?hX ?hlim ?ho ?hcd ?hr ?hbind ?hloc ?_ ?c2 ?c3 ?c4 ?c5; (case hX => assumption); (case hlim => exact Top.nolimit (by assumption)); (case ho => k_is); (case hcd => k_is); (case hr => exact Cx.depth (by assumption)); (case hbind => exact BindsTo.of_eq rfl); (case hloc => exact locs rfl); (case c2 => decide); (case c3 => exact rfl); (case c4 => exact rfl); (case c5 => exact rfl); k_whole))
  simp only [endsL, List.mem_cons, List.not_mem_nil, or_false] at he
  rcases he with rfl | rfl | rfl | rfl <;> rcases marks_cases h with rfl | rfl | rfl | rfl <;> decide
/-- the texts of a reply for this port -/
structure IsReply (port : Int) (x : Str) (mk hd : Str) (f : Str × Str) (pre en : Str) : Prop where
  hmk : mk ∈ marksL
  hhd : hd ∈ headsL
  hf : f ∈ fieldsL
  hpre : pre ∈ presL
  hen : en ∈ endsL mk
  eq : x = Txt.join mk [hd, f.1, f.2, pre ++ Str.ofString (toString port), Str.ofString ")" ++ en]
theorem port_len : ∀ n : Fin 64, (Str.ofString (toString ((n.val : Nat) : Int))).length ≤ 2 := by decide
theorem str_app_len (x y : Str) : (x ++ y).length = x.length + y.length := by
  k_with_none
  k_with "om" => (with_reducible (first | assumption | exact nnA (by assumption) | exact nnB (by assumption) | exact nnC (by assumption) (by assumption) | exact nnD (by assumption) | exact nnE (by assumption) | exact omG21.2.2.2.1 (by assumption) (by assumption) | exact omG21.2.2.1 (by assumption) (by assumption) | exact omG30.2.2.2.2.1 (by assumption) (by assumption) | exact omG30.2.1 (by assumption) | exact omG30.2.2.1 (by assumption) | exact omG30.2.2.2.1 (by assumption)))
  k_with "eval Name" => ((k_here; k_dflt (refine' ld ?k1 ?k2 ?_; (case k1 => k_asm); (case k2 => assumption); k_whole)))
  k_with "loadName" => ((k_here; k_dflt (refine' ldn ?k1 ?k2 ?_; (case k1 => k_asm); (case k2 => assumption); k_whole)))
  k_with "binaryOp Add str str" => ((k_here; (refine PyProof.Rows.add_str ?_ (by first | assumption | decide)); intro _ _))
  k_with "cell" => (k_dflt (refine' enterF ?hX ?hlim ?ho ?hcd ?hr ?hbind ?hloc ?_ ?c2 ?c3 ?c4 ?c5; (case hX => assumption); (case hlim => exact Top.nolimit (by assumption)); (case ho => k_is); (case hcd => k_is); (case hr => exact Cx.depth (by assumption)); (case hbind => exact BindsTo.of_eq rfl); (case hloc => exact locs rfl); (case c2 => decide); (case c3 => exact rfl); (case c4 => exact rfl); (case c5 => exact rfl); k_whole))
  show (x.cps ++ y.cps).size = _
  simp [Array.size_append]; rfl
theorem join_size {port : Int} (h0 : 0 ≤ port) (h1 : port < 64) {mk hd : Str} {f : Str × Str} {pre en : Str} (hmk : mk ∈ marksL) (hhd : hd ∈ headsL) (hf : f ∈ fieldsL) (hpre : pre ∈ presL) (hen : en ∈ endsL mk) :
    mk.length ≤ 64 ∧ (([hd, f.1, f.2, pre ++ Str.ofString (toString port), Str.ofString ")" ++ en].map (·.length)).sum + [hd, f.1, f.2, pre ++ Str.ofString (toString port), Str.ofString ")" ++ en].length * 64 ≤ 16777216) := by
  k_with_none
  k_with "om" => (with_reducible (first | assumption | exact nnA (by assumption) | exact nnB (by assumption) | exact nnC (by assumption) (by assumption) | exact nnD (by assumption) | exact nnE (by assumption) | exact omG21.2.2.2.1 (by assumption) (by assumption) | exact omG21.2.2.1 (by assumption) (by assumption) | exact omG30.2.2.2.2.1 (by assumption) (by assumption) | exact omG30.2.1 (by assumption) | exact omG30.2.2.1 (by assumption) | exact omG30.2.2.2.1 (by assumption)))
  k_with "eval Name" => ((k_here; k_dflt (refine' ld ?k1 ?k2 ?_; (case k1 => k_asm); (case k2 => assumption); k_whole)))
  k_with "loadName" => ((k_here; k_dflt (refine' ldn ?k1 ?k2 ?_; (case k1 => k_asm); (case k2 => assumption); k_whole)))
  k_with "binaryOp Add str str" => ((k_here; (refine PyProof.Rows.add_str ?_ (by first | assumption | decide)); intro _ _))
  k_with "cell" => (k_dflt (refine' enterF ?hX ?hlim ?ho ?hcd ?hr ?hbind ?hloc ?_ ?c2 ?c3 ?c4 ?c5; (case hX => assumption); (case hlim => exact Top.nolimit (by assumption)); (case ho => k_is); (case hcd => k_is); (case hr => exact Cx.depth (by assumption)); (case hbind => exact BindsTo.of_eq rfl); (case hloc => exact locs rfl); (case c2 => decide); (case c3 => exact rfl); (case c4 => exact rfl); (case c5 => exact rfl); k_whole))
  obtain ⟨n, rfl⟩ := Int.eq_ofNat_of_zero_le h0
  have hp := port_len ⟨n, by (first | exact omG29.2.2.2.2.2.2.2.2.2.2.1 h1 | omega)⟩
  have a1 : mk.length ≤ 1 := by rcases marks_cases hmk with rfl | rfl | rfl | rfl <;> decide
  have a2 : hd.length ≤ 8 := by
    simp only [headsL, List.mem_cons, List.not_mem_nil, or_false] at hhd
    rcases hhd with rfl | rfl | rfl <;> decide
  have a3 : f.1.length ≤ 1 ∧ f.2.length ≤ 2 := by
    simp only [fieldsL, List.mem_cons, List.not_mem_nil, or_false] at hf
    rcases hf with rfl | rfl | rfl | rfl <;> decide
  have a4 : pre.length ≤ 1 := by
    simp only [presL, List.mem_cons, List.not_mem_nil, or_false] at hpre
    rcases hpre with rfl | rfl | rfl | rfl <;> decide
  have a5 : en.length ≤ 4 := by
    simp only [endsL, List.mem_cons, List.not_mem_nil, or_false] at hen
    rcases hen with rfl | rfl | rfl | rfl <;> rcases marks_cases hmk with rfl | rfl | rfl | rfl <;> decide
  have a6 : (Str.ofString ")").length = 1 := by decide
  refine ⟨by (first | exact omG29.2.2.2.2.2.2.2.2.2.2.2 a1 | omega), ?_⟩
  simp only [List.map_cons, List.map_nil, List.sum_cons, List.sum_nil, List.length_cons, List.length_nil, str_app_len, a6]
  simp only at hp
  (first | exact omG30.1 hp a2 a3 a4 a5 | omega)
theorem RJ1.intro {s : Shared} {L : Addr} {port dress : Int} {t1 t2 : Tok} {mk : Str} {tm : Tok} {h' : Heap} {tk' : Nat} {m' : Str → Option Value} (F : Fr s.heap L h' m') (h1 : m' "mark" = some (.str mk tm)) (h2 : m' "port" = some (.int port t1)) (h3 : m' "dress" = some (.int dress t2)) (hk : mk ∈ marksL) :
    RJ1 s L port dress t1 t2 .next { s with heap := h', toks := tk' } := ⟨fun _ k => k _ _ _ _ _ F hk h1 h2 h3⟩
theorem RJ2.intro {s : Shared} {L : Addr} {port dress : Int} {t1 t2 : Tok} {mk : Str} {tm : Tok} {D : Addr} {f : Str × Str} {tf uf : Tok} {h' : Heap} {tk' : Nat} {m' : Str → Option Value} (F : Fr s.heap L h' m') (h0 : m' "fields" = some (.ref D)) (h1 : m' "mark" = some (.str mk tm)) (h2 : m' "port" = some (.int port t1)) (h3 : m' "dress" = some (.int dress t2))
    (N : News s.heap L h' [(D, W.listOf #[.str f.1 tf, .str f.2 uf] 0)]) (hk : f ∈ fieldsL) :
    RJ2 s L port dress t1 t2 mk tm .next { s with heap := h', toks := tk' } := ⟨fun _ k => k _ _ _ _ _ _ _ F N hk h0 h1 h2 h3⟩


theorem RJ3.intro {s : Shared} {L : Addr} {dress : Int} {t2 : Tok} {mk port pre : Str} {tm tp : Tok} {D : Addr} {oD : Obj} {h' : Heap} {tk' : Nat} {m' : Str → Option Value} (F : Fr s.heap L h' m') (N : News s.heap L h' [(D, oD)]) (hk : pre ∈ presL) (h : m' "number" = some (.str (pre ++ port) tp)) (h0 : m' "fields" = some (.ref D)) (h1 : m' "mark" = some (.str mk tm)) (h3 : m' "dress" = some (.int dress t2)) :
    RJ3 s L dress t2 mk tm D oD port .next { s with heap := h', toks := tk' } := ⟨fun _ k => k _ _ _ _ _ F N hk h h0 h1 h3⟩
theorem RJ4.intro {s : Shared} {L : Addr} {dress : Int} {t2 : Tok} {mk num en : Str} {tm tn te : Tok} {D : Addr} {oD : Obj} {h' : Heap} {tk' : Nat} {m' : Str → Option Value} (F : Fr s.heap L h' m') (N : News s.heap L h' [(D, oD)]) (hk : en ∈ endsL mk) (h : m' "number" = some (.str num tn)) (he : m' "end" = some (.str en te)) (h0 : m' "fields" = some (.ref D)) (h1 : m' "mark" = some (.str mk tm)) (h3 : m' "dress" = some (.int dress t2)) :
    RJ4 s L dress t2 mk tm D oD num .next { s with heap := h', toks := tk' } := ⟨fun _ k => k _ _ _ _ _ _ F N hk h he h0 h1 h3⟩
theorem RJ1.cut {s : Shared} {L : Addr} {port dress : Int} {t1 t2 : Tok} {M : Model} {A : Around} {T : Sem Flow} {s0 : Shared} {RR : Flow → Shared → Prop} {E : Value → Shared → Prop} (h1 : wpAny M A T (RJ1 s L port dress t1 t2) (fun _ _ => False) s0)
    (k : ∀ (mk : Str) (tm : Tok) (h' : Heap) (tk' : Nat) (m' : Str → Option Value), Fr s.heap L h' m' → mk ∈ marksL → m' "mark" = some (.str mk tm) → m' "port" = some (.int port t1) → m' "dress" = some (.int dress t2) → RR .next { s with heap := h', toks := tk' }) : wpAny M A T RR E s0 := wpAny_mono h1 (fun _ _ H => H.out _ k) fun _ _ h => h.elim
theorem RJ2.cut {s : Shared} {L : Addr} {port dress : Int} {t1 t2 : Tok} {mk : Str} {tm : Tok} {M : Model} {A : Around} {T : Sem Flow} {s0 : Shared} {RR : Flow → Shared → Prop} {E : Value → Shared → Prop} (h1 : wpAny M A T (RJ2 s L port dress t1 t2 mk tm) (fun _ _ => False) s0)
    (k : ∀ (D : Addr) (f : Str × Str) (tf uf : Tok) (h' : Heap) (tk' : Nat) (m' : Str → Option Value), Fr s.heap L h' m' → News s.heap L h' [(D, W.listOf #[.str f.1 tf, .str f.2 uf] 0)] → f ∈ fieldsL → m' "fields" = some (.ref D) → m' "mark" = some (.str mk tm) → m' "port" = some (.int port t1) → m' "dress" = some (.int dress t2) → RR .next { s with heap := h', toks := tk' }) : wpAny M A T RR E s0 := wpAny_mono h1 (fun _ _ H => H.out _ k) fun _ _ h => h.elim
theorem RJ3.cut {s : Shared} {L : Addr} {dress : Int} {t2 : Tok} {mk : Str} {tm : Tok} {D : Addr} {oD : Obj} {port : Str} {M : Model} {A : Around} {T : Sem Flow} {s0 : Shared} {RR : Flow → Shared → Prop} {E : Value → Shared → Prop} (h1 : wpAny M A T (RJ3 s L dress t2 mk tm D oD port) (fun _ _ => False) s0)
    (k : ∀ (pre : Str) (tp : Tok) (h' : Heap) (tk' : Nat) (m' : Str → Option Value), Fr s.heap L h' m' → News s.heap L h' [(D, oD)] → pre ∈ presL → m' "number" = some (.str (pre ++ port) tp) → m' "fields" = some (.ref D) → m' "mark" = some (.str mk tm) → m' "dress" = some (.int dress t2) → RR .next { s with heap := h', toks := tk' }) : wpAny M A T RR E s0 := wpAny_mono h1 (fun _ _ H => H.out _ k) fun _ _ h => h.elim
theorem RJ4.cut {s : Shared} {L : Addr} {dress : Int} {t2 : Tok} {mk : Str} {tm : Tok} {D : Addr} {oD : Obj} {num : Str} {M : Model} {A : Around} {T : Sem Flow} {s0 : Shared} {RR : Flow → Shared → Prop} {E : Value → Shared → Prop} (h1 : wpAny M A T (RJ4 s L dress t2 mk tm D oD num) (fun _ _ => False) s0)
    (k : ∀ (en : Str) (tn te : Tok) (h' : Heap) (tk' : Nat) (m' : Str → Option Value), Fr s.heap L h' m' → News s.heap L h' [(D, oD)] → en ∈ endsL mk → m' "number" = some (.str num tn) → m' "end" = some (.str en te) → m' "fields" = some (.ref D) → m' "mark" = some (.str mk tm) → m' "dress" = some (.int dress t2) → RR .next { s with heap := h', toks := tk' }) : wpAny M A T RR E s0 := wpAny_mono h1 (fun _ _ H => H.out _ k) fun _ _ h => h.elim
theorem reply_tells {w : World} {mean : ExcName → Option Value} {mg mb : Str → Option Value} {k : Nat} {A : Around} {s : Shared} {Q E : Value → Shared → Prop} {port dress : Int} {t1 t2 : Tok} (C : Cx w mean mg mb (k + 2) A s.heap)
    (h0 : 0 ≤ port) (h1 : port < 64)
    (ret : ∀ x t h' tk' mk hd f pre en, s.heap.StaysIn h' → IsReply port x mk hd f pre en → Q (.str x t) { s with heap := h', toks := tk' }) :
    wpAny (model PySem.Challenge.rw_xi0003_01.row.prog w) A (call (.ref 107) [.int port t1, .int dress t2]) Q E s := by
  k_with_none
  k_with "om" => (with_reducible (first | assumption | exact nnA (by assumption) | exact nnB (by assumption) | exact nnC (by assumption) (by assumption) | exact nnD (by assumption) | exact nnE (by assumption) | exact omG21.2.2.2.1 (by assumption) (by assumption) | exact omG21.2.2.1 (by assumption) (by assumption) | exact omG30.2.2.2.2.1 (by assumption) (by assumption) | exact omG30.2.1 (by assumption) | exact omG30.2.2.1 (by assumption) | exact omG30.2.2.2.1 (by assumption)))
  k_with "eval Name" => ((k_here; k_dflt (refine' ld ?k1 ?k2 ?_; (case k1 => k_asm); (case k2 => assumption); k_whole)))
  k_with "loadName" => ((k_here; k_dflt (refine' ldn ?k1 ?k2 ?_; (case k1 => k_asm); (case k2 => assumption); k_whole)))
  k_with "binaryOp Add str str" => ((k_here; (refine PyProof.Rows.add_str ?_ (by first | assumption | decide)); intro _ _))
  k_with "cell" => (k_dflt (refine' enterF ?hX ?hlim ?ho ?hcd ?hr ?hbind ?hloc ?_ ?c2 ?c3 ?c4 ?c5; (case hX => assumption); (case hlim => exact Top.nolimit (by assumption)); (case ho => k_is); (case hcd => k_is); (case hr => exact Cx.depth (by assumption)); (case hbind => exact BindsTo.of_eq rfl); (case hloc => exact locs rfl); (case c2 => decide); (case c3 => exact rfl); (case c4 => exact rfl); (case c5 => exact rfl); k_whole))
  obtain ⟨hd0, dp, fr, gd, un⟩ := A
  obtain rfl : hd0 = none := C.hand
  have X := C.X
  have T := C.T
  cell_enter
  intro L h₁ tk₀ F eL
  try dsimp only
  k_fold
  have NN : News s.heap L h₁ [] := News.nil
  refine execs_at 1 ?_
  dsimp only [List.take, List.drop]
  refine RJ1.cut (s := s) (L := L) (port := port) (dress := dress) (t1 := t1) (t2 := t2) ?_ ?_
  · k_steps
    all_goals (rename Fr _ _ _ _ => F9)
    all_goals (refine RJ1.intro F9 rfl rfl rfl ?_; first | exact .head _ | exact .tail _ (.head _) | exact .tail _ (.tail _ (.head _)) | exact .tail _ (.tail _ (.tail _ (.head _))))
  · intro mk tm h2 tk2 m2 F2 hmk m1 m2' m3
    dsimp only
    have NN : News s.heap L h2 [] := News.nil
    refine execs_at 1 ?_
    dsimp only [List.take, List.drop]
    clear F
    refine RJ2.cut (s := s) (L := L) (port := port) (dress := dress) (t1 := t1) (t2 := t2) (mk := mk) (tm := tm) ?_ ?_
    · k_steps
      all_goals (rename Fr _ _ _ _ => F9)
      all_goals (rename News _ _ _ _ => N9)
      · exact RJ2.intro (f := (Str.ofString "", Str.ofString "")) F9 rfl m1 m2' m3 (cb_drop N9 (List.forall_mem_cons.mpr ⟨by k_mem, List.forall_mem_nil _⟩)) (.head _)
      · exact RJ2.intro (f := (Str.ofString "1", Str.ofString "h")) F9 rfl m1 m2' m3 (cb_drop N9 (List.forall_mem_cons.mpr ⟨by k_mem, List.forall_mem_nil _⟩)) (.tail _ (.head _))
      · exact RJ2.intro (f := (Str.ofString "(", Str.ofString " ")) F9 rfl m1 m2' m3 (cb_drop N9 (List.forall_mem_cons.mpr ⟨by k_mem, List.forall_mem_nil _⟩)) (.tail _ (.tail _ (.head _)))
      · exact RJ2.intro (f := (Str.ofString "2", Str.ofString "-3")) F9 rfl m1 m2' m3 (cb_drop N9 (List.forall_mem_cons.mpr ⟨by k_mem, List.forall_mem_nil _⟩)) (.tail _ (.tail _ (.tail _ (.head _))))
    · intro D f tf uf h3 tk3 m3 F3 N3 hf m4 m5 m6 m7
      dsimp only
      clear F2 NN m1 m2'
      refine execs_at 1 ?_
      dsimp only [List.take, List.drop]
      generalize hoD : W.listOf (#[.str f.1 tf, .str f.2 uf] : Array Value) 0 = oD at N3
      refine RJ3.cut (s := s) (L := L) (dress := dress) (t2 := t2) (mk := mk) (tm := tm) (D := D) (oD := oD) (port := Str.ofString (toString port)) ?_ ?_
      · k_steps
        all_goals (rename Fr _ _ _ _ => F9)
        all_goals (rename News _ _ _ _ => N9)
        · exact RJ3.intro F9 (cb_drop N9 (List.forall_mem_cons.mpr ⟨by k_mem, List.forall_mem_nil _⟩)) (.head _) rfl m4 m5 m7
        · exact RJ3.intro F9 (cb_drop N9 (List.forall_mem_cons.mpr ⟨by k_mem, List.forall_mem_nil _⟩)) (.tail _ (.head _)) rfl m4 m5 m7
        · exact RJ3.intro F9 (cb_drop N9 (List.forall_mem_cons.mpr ⟨by k_mem, List.forall_mem_nil _⟩)) (.tail _ (.tail _ (.head _))) rfl m4 m5 m7
        · exact RJ3.intro F9 (cb_drop N9 (List.forall_mem_cons.mpr ⟨by k_mem, List.forall_mem_nil _⟩)) (.tail _ (.tail _ (.tail _ (.head _)))) rfl m4 m5 m7
      · clear F3 N3 m4 m5 m6 m7
        intro pre tp h3 tk3 m3 F3 N3 hpre m3' m4 m5 m7
        dsimp only
        refine execs_at 1 ?_
        dsimp only [List.take, List.drop]
        refine an3 (mark_sizes hmk) ?_
        rintro a1 a2 a3
        generalize hnum : pre ++ Str.ofString (toString port) = num at m3'
        refine RJ4.cut (s := s) (L := L) (dress := dress) (t2 := t2) (mk := mk) (tm := tm) (D := D) (oD := oD) (num := num) ?_ ?_
        · k_steps
          all_goals (rename Fr _ _ _ _ => F9)
          all_goals (rename News _ _ _ _ => N9)
          · exact RJ4.intro F9 (cb_drop N9 (List.forall_mem_cons.mpr ⟨by k_mem, List.forall_mem_nil _⟩)) (.head _) m3' rfl m4 m5 m7
          · exact RJ4.intro F9 (cb_drop N9 (List.forall_mem_cons.mpr ⟨by k_mem, List.forall_mem_nil _⟩)) (.tail _ (.head _)) m3' rfl m4 m5 m7
          · exact RJ4.intro F9 (cb_drop N9 (List.forall_mem_cons.mpr ⟨by k_mem, List.forall_mem_nil _⟩)) (.tail _ (.tail _ (.head _))) m3' rfl m4 m5 m7
          · exact RJ4.intro F9 (cb_drop N9 (List.forall_mem_cons.mpr ⟨by k_mem, List.forall_mem_nil _⟩)) (.tail _ (.tail _ (.tail _ (.head _)))) m3' rfl m4 m5 m7
        · clear F3 N3 m3' m4 m5 m7
          intro en tn te h3 tk3 m3 F3 N3 hen m3' me m4 m5 m7
          dsimp only
          subst hoD
          have a4 := ends_size hmk hen
          repeat' ((fail_if_success (with_reducible show wpAny _ _ (call (Value.builtin _) _) _ _ _)); first | (k_unfold; (try dsimp only)) | (k_end; kc_close) | walk1 | (dsimp only; walk1) | (leave1; (try dsimp only)) | fail "no step")
          all_goals (refine join_listC (News.isList (by assumption) (.head _)) (.cons _ _ (.cons _ _ (.cons _ _ (.cons _ _ (.cons _ _ .nil))))) ?_ ?_ ?_)
          · exact (join_size h0 h1 hmk (.head _) hf hpre hen).1
          · rw [← hnum]; exact (join_size h0 h1 hmk (.head _) hf hpre hen).2
          · intro _ _
            (rename Fr _ _ _ _ => F9)
            show Q _ _
            exact ret _ _ _ _ mk _ f pre en F9.keep ⟨hmk, (.head _), hf, hpre, hen, by rw [hnum]⟩
          · exact (join_size h0 h1 hmk (.tail _ (.head _)) hf hpre hen).1
          · rw [← hnum]; exact (join_size h0 h1 hmk (.tail _ (.head _)) hf hpre hen).2
          · intro _ _
            (rename Fr _ _ _ _ => F9)
            show Q _ _
            exact ret _ _ _ _ mk _ f pre en F9.keep ⟨hmk, (.tail _ (.head _)), hf, hpre, hen, by rw [hnum]⟩
          · exact (join_size h0 h1 hmk (.tail _ (.tail _ (.head _))) hf hpre hen).1
          · rw [← hnum]; exact (join_size h0 h1 hmk (.tail _ (.tail _ (.head _))) hf hpre hen).2
          · intro _ _
            (rename Fr _ _ _ _ => F9)
            show Q _ _
            exact ret _ _ _ _ mk _ f pre en F9.keep ⟨hmk, (.tail _ (.tail _ (.head _))), hf, hpre, hen, by rw [hnum]⟩
end

section
open PySem PySem.W PySem.Calls PyProof.Rows
set_option maxRecDepth 100000
set_option maxHeartbeats 8000000

/-- what parse229 finds in this text -/
structure Parses (x mk f0 f1 num body : Str) (left right port : Int) : Prop where
  len : x.length ≤ 64
  pre : Txt.slice x none (some 3) = Str.ofString "229"
  find : Txt.find x (Str.ofString "(") = left
  find3 : Txt.find3 x (Str.ofString ")") (left + 1) = right
  l0 : 0 ≤ left
  lr : left + 2 ≤ right
  rl : right < x.length
  i1 : Txt.item x (left + 1) = mk
  i2 : Txt.item x (right - 1) = mk
  sl : Txt.slice x (some (left + 1)) (some right) = body
  bl : body.length ≤ 64
  sp : Txt.split body mk = [Str.ofString "", f0, f1, num, Str.ofString ""]
  it : PySem.intText? num = some port
  nl : num.length ≤ 640
  ml : (mk.length == 0) = false

theorem five {a b c d e : Str} {l : List (Str × Tok)} (h : l.map (·.1) = [a, b, c, d, e]) : ∃ ta tb tc td te, l = [(a, ta), (b, tb), (c, tc), (d, td), (e, te)] := by
  k_with_none
  k_with "om" => (with_reducible (first | assumption | exact nnA (by assumption) | exact nnB (by assumption) | exact nnC (by assumption) (by assumption) | exact nnD (by assumption) | exact nnE (by assumption) | exact omG21.2.2.2.1 (by assumption) (by assumption) | exact omG21.2.2.1 (by assumption) (by assumption) | exact omG30.2.2.2.2.1 (by assumption) (by assumption)))
  k_with "eval Name" => ((k_here; k_dflt (refine' ld ?k1 ?k2 ?_; (case k1 => k_asm); (case k2 => assumption); k_whole)))
  k_with "loadName" => ((k_here; k_dflt (refine' ldn ?k1 ?k2 ?_; (case k1 => k_asm); (case k2 => assumption); k_whole)))
  k_with "cell" => (k_dflt (refine' enterF ?hX ?hlim ?ho ?hcd ?hr ?hbind ?hloc ?_ ?c2 ?c3 ?c4 ?c5; (case hX => assumption); (case hlim => exact Top.nolimit (by assumption)); (case ho => k_is); (case hcd => k_is); (case hr => exact Cx.depth (by assumption)); (case hbind => exact BindsTo.of_eq rfl); (case hloc => exact locs rfl); (case c2 => decide); (case c3 => exact rfl); (case c4 => exact rfl); (case c5 => exact rfl); k_whole))
  match l, h with
  | [(a', ta), (b', tb), (c', tc), (d', td), (e', te)], h =>
    simp only [List.map_cons, List.map_nil, List.cons.injEq, and_true] at h
    refine an5 h ?_
    clear h
    rintro rfl rfl rfl rfl rfl
    exact xi5 _ _ _ _ _ rfl
  | [], h => cases h
  | [_], h => cases h
  | [_, _], h => cases h
  | [_, _, _], h => cases h
  | [_, _, _, _], h => cases h
  | _ :: _ :: _ :: _ :: _ :: _ :: _, h => simp at h

theorem parse_tells {w : World} {mean : ExcName → Option Value} {mg mb : Str → Option Value} {k : Nat} {A : Around} {s : Shared} {Q E : Value → Shared → Prop} {x mk f0 f1 num body : Str} {left right port q whole : Int} {t t1 t2 : Tok} {P : Addr} (C : Cx w mean mg mb (k + 2) A s.heap)
    (H : Parses x mk f0 f1 num body left right port) (hP : s.heap.get? P = some (tup2 (.int q t1) (.int whole t2)))
    (ret : ∀ D h' tk' t u, s.heap.StaysIn h' → s.heap.get? D = none → h'.get? D = some (tup2 (.int q t) (.int port u)) → Q (.ref D) { s with heap := h', toks := tk' }) :
    wpAny (model PySem.Challenge.rw_xi0003_01.row.prog w) A (call (.ref 72) [.str x t, .ref P]) Q E s := by
  k_with_none
  k_with "om" => (with_reducible (first | assumption | exact nnA (by assumption) | exact nnB (by assumption) | exact nnC (by assumption) (by assumption) | exact nnD (by assumption) | exact nnE (by assumption) | exact omG21.2.2.2.1 (by assumption) (by assumption) | exact omG21.2.2.1 (by assumption) (by assumption) | exact omG30.2.2.2.2.1 (by assumption) (by assumption)))
  k_with "eval Name" => ((k_here; k_dflt (refine' ld ?k1 ?k2 ?_; (case k1 => k_asm); (case k2 => assumption); k_whole)))
  k_with "loadName" => ((k_here; k_dflt (refine' ldn ?k1 ?k2 ?_; (case k1 => k_asm); (case k2 => assumption); k_whole)))
  k_with "cell" => (k_dflt (refine' enterF ?hX ?hlim ?ho ?hcd ?hr ?hbind ?hloc ?_ ?c2 ?c3 ?c4 ?c5; (case hX => assumption); (case hlim => exact Top.nolimit (by assumption)); (case ho => k_is); (case hcd => k_is); (case hr => exact Cx.depth (by assumption)); (case hbind => exact BindsTo.of_eq rfl); (case hloc => exact locs rfl); (case c2 => decide); (case c3 => exact rfl); (case c4 => exact rfl); (case c5 => exact rfl); k_whole))
  obtain ⟨hd0, dp, fr, gd, un⟩ := A
  obtain rfl : hd0 = none := C.hand
  have X := C.X
  have T := C.T
  cell_enter
  intro L h₁ tk₀ F eL
  try dsimp only
  k_fold
  have NN : News s.heap L h₁ [] := News.nil
  obtain ⟨hlen, hpre, hfind, hfind3, hl0, hlr, hrl, hi1, hi2, hsl, hbl, hsp, hit, hnl, hml⟩ := H
  have hsz : x.length ≤ sizeLine := Nat.le_trans hlen (by decide)
  have hsz2 : body.length + 2 ≤ sizeLine := Nat.le_trans (Nat.add_le_add_right hbl 2) (by decide)
  have e1 : ((Str.ofString "229").cps.toList != (Str.ofString "229").cps.toList) = false := by decide
  have e2 : (mk.cps.toList != mk.cps.toList) = false := by simp
  k_with "subscriptTail Name Slice str ref" => ((with_reducible rename Fr _ _ _ _ => F'); (with_reducible rename News _ _ _ _ => N'); (first | refine slice_strN_ns (hsz := hsz) (s := ⟨_, _, _, _, _⟩) F' N' ?_ | refine slice_strN_ss (hsz := hsz) (s := ⟨_, _, _, _, _⟩) F' N' ?_); intro _ _ _ _ _; first | rw [hpre] | rw [hsl])
  k_with "compareOp NotEq str str" => (refine ne_str ?_; first | rw [e1] | rw [e2])
  have hfs : fitsSsize (left + 1) = true := fitsSsize_of (N := 9223372036854775808) (by (first | exact omG30.2.2.2.2.2.1 hl0 | omega)) (by (first | exact omG30.2.2.2.2.2.2.1 hlen hlr hrl | omega)) (Int.le_refl _)
  have hfs2 : fitsSsize (right - 1) = true := fitsSsize_of (N := 9223372036854775808) (by (first | exact omG30.2.2.2.2.2.2.2.1 hl0 hlr | omega)) (by (first | exact omG30.2.2.2.2.2.2.2.2.1 hlen hrl | omega)) (Int.le_refl _)
  k_with "subscriptTail Name BinOp str int" => (refine item_str (by assumption) (by (first | exact omG30.2.2.2.2.2.2.2.2.2.2.2 hl0 | exact omG31.2.1 hl0 hlr | omega)) (by (first | exact omG31.1 hlr hrl | exact omG31.2.2.1 hrl | omega)) ?_; intro _; first | rw [hi1] | rw [hi2])
  k_with "call builtin:str.find" => (first | (refine SC.find ?_; rw [hfind]) | (refine SC.find3 ?_; rw [hfind3]))
  repeat' ((fail_if_success (with_reducible show wpAny _ _ (call (Value.builtin "str.split") _) _ _ _)); first | (k_unfold; (try dsimp only)) | (k_end; kc_close) | walk1 | (dsimp only; walk1) | (leave1; (try dsimp only)) | fail "no step")
  refine splitN1A (hsz := hsz2) (by assumption) (by assumption) hml ?_
  intro l h' k' hl _ _ _ F' N'
  rw [hsp] at hl
  refine ex5 (five hl) ?_
  rintro ta tb tc td te rfl
  replace N' : News _ _ _ ((_, W.listOf #[.str (Str.ofString "") ta, .str f0 tb, .str f1 tc, .str num td, .str (Str.ofString "") te] 0) :: _) := N'
  try dsimp only
  repeat' ((fail_if_success (with_reducible show wpAny _ _ (subscriptTail _ _ _ _) _ _ _)); first | (k_unfold; (try dsimp only)) | (k_end; kc_close) | walk1 | (dsimp only; walk1) | (leave1; (try dsimp only)) | fail "no step")
  (rename Fr _ _ _ _ => F8)
  refine item_tuple (k := 0) (j := 0) ⟨_, Fr.keep F8 _ _ hP, rfl, _, rfl⟩ (by decide) (by decide) rfl rfl ?_
  repeat' ((fail_if_success (with_reducible show wpAny _ _ (call (Value.type "int") _) _ _ _)); first | (k_unfold; (try dsimp only)) | (k_end; kc_close) | walk1 | (dsimp only; walk1) | (leave1; (try dsimp only)) | fail "no step")
  refine KIN.call_text hit hnl ?_
  k_steps
  (rename Fr _ _ _ _ => F9)
  (rename News _ _ _ _ => N9)
  show Q _ _
  exact ret _ _ _ _ _ F9.keep (N9 _ (.head _)).2.2 (N9 _ (.head _)).1
end

section
open PySem PySem.W PySem.Calls PyProof.Rows
set_option maxRecDepth 100000
/-- the codes of a text -/
noncomputable abbrev cl (x : Str) : List Nat := x.cps.toList
theorem cl_app (a b : Str) : cl (a ++ b) = cl a ++ cl b := by show (a.cps ++ b.cps).toList = _; exact Array.toList_append
theorem cl_ext {a b : Str} (h : cl a = cl b) : a = b := by
  cases a; cases b; congr 1; exact Array.toList_inj.mp h
theorem cl_len (x : Str) : x.length = (cl x).length := by show x.cps.size = _; exact Array.length_toList.symm
theorem getD_cl (x : Str) (v : Nat) : x.cps.getD v 0 = (cl x).getD v 0 := by
  simp [Array.getD_eq_getD_getElem?, List.getD_eq_getElem?_getD]

theorem find3_first {x : Str} {c : Nat} {p1 p2 post : List Nat} {i : Int} (h : cl x = p1 ++ p2 ++ c :: post) (hc : c ∉ p2) (hi : i = p1.length) : Txt.find3 x ⟨#[c]⟩ i = ((p1.length + p2.length : Nat) : Int) := by
  have hl : x.length = p1.length + p2.length + 1 + post.length := by rw [cl_len, h]; simp; (first | exact omG31.2.2.2.1 | omega)
  have hfi : fromIndex x.length i = p1.length := by subst hi; unfold fromIndex; rw [if_neg (by (first | exact omG31.2.2.2.2.1 | omega))]; (first | exact omG31.2.2.2.2.2.1 | omega)
  have hat : x.cps.getD (p1.length + p2.length) 0 = c := by
    rw [getD_cl, h, List.getD_eq_getElem?_getD, List.getElem?_append_right (by simp)]; simp
  have hbefore : ∀ v, p1.length ≤ v → v < p1.length + p2.length → x.cps.getD v 0 ≠ c := by
    intro v h1 h2 he
    rw [getD_cl, h, List.getD_eq_getElem?_getD, List.append_assoc, List.getElem?_append_right h1, List.getElem?_append_left (by (first | exact omG31.2.2.2.2.2.2.1 h1 h2 | omega)), List.getElem?_eq_getElem (by (first | exact omG31.2.2.2.2.2.2.1 h1 h2 | omega)), Option.getD_some] at he
    exact hc (he ▸ List.getElem_mem _)
  rcases StrLaws.find3_spec x c i with ⟨_, hn⟩ | ⟨k, hk, h1, h2, h3, h4⟩
  · exact absurd hat (hn _ (by (first | exact omG31.2.2.2.2.2.2.2.1 hfi | omega)) (by (first | exact omG31.2.2.2.2.2.2.2.2.1 hl | omega)))
  · rw [hk]
    rw [hfi] at h1 h4
    rcases Nat.lt_trichotomy k (p1.length + p2.length) with hlt | he | hgt
    · exact absurd h3 (hbefore k h1 hlt)
    · rw [he]
    · exact absurd hat (h4 _ (by (first | exact omG31.2.2.2.2.2.2.2.2.2.1 | omega)) hgt)
theorem find_first {x : Str} {c : Nat} {p post : List Nat} (h : cl x = p ++ c :: post) (hc : c ∉ p) : Txt.find x ⟨#[c]⟩ = (p.length : Int) := by
  have := find3_first (p1 := []) (p2 := p) (i := 0) (by simpa using h) hc rfl
  simp only [List.length_nil, Nat.zero_add] at this
  exact this
theorem find3_none {x : Str} {c : Nat} {p1 p2 : List Nat} {i : Int} (h : cl x = p1 ++ p2) (hc : c ∉ p2) (hi : i = p1.length) : Txt.find3 x ⟨#[c]⟩ i = -1 := by
  have hl : x.length = p1.length + p2.length := by rw [cl_len, h]; simp
  have hfi : fromIndex x.length i = p1.length := by subst hi; unfold fromIndex; rw [if_neg (by (first | exact omG31.2.2.2.2.1 | omega))]; (first | exact omG31.2.2.2.2.2.1 | omega)
  rcases StrLaws.find3_spec x c i with ⟨hn, _⟩ | ⟨k, hk, h1, h2, h3, h4⟩
  · exact hn
  · rw [hfi] at h1
    rw [getD_cl, h, List.getD_eq_getElem?_getD, List.getElem?_append_right h1, List.getElem?_eq_getElem (by (first | exact omG31.2.2.2.2.2.2.2.2.2.2.1 hl h1 h2 | omega)), Option.getD_some] at h3
    exact absurd (h3 ▸ List.getElem_mem _) hc
theorem find_none {x : Str} {c : Nat} (hc : c ∉ cl x) : Txt.find x ⟨#[c]⟩ = -1 := find3_none (p1 := []) (p2 := cl x) (i := 0) rfl hc rfl
theorem item_at {x : Str} {c : Nat} {p post : List Nat} {i : Int} (h : cl x = p ++ c :: post) (hi : i = p.length) : Txt.item x i = ⟨#[c]⟩ := by
  subst hi
  have : x.cps[((p.length : Nat) : Int).toNat]? = some c := by
    rw [Int.toNat_natCast, ← Array.getElem?_toList]; show (cl x)[p.length]? = _; rw [h, List.getElem?_append_right (Nat.le_refl _)]; simp
  show (⟨#[((seqIndex? (p.length : Int) x.length).bind (x.cps[·]?)).getD 0]⟩ : Str) = _
  rw [StrLaws.at_nonneg (by (first | exact omG3.2.2.2.2.2.2.2.2.2.1 | omega)) this]; rfl
theorem slice_mid {x : Str} {p q r : List Nat} {i j : Int} (h : cl x = p ++ q ++ r) (hi : i = p.length) (hj : j = (p.length + q.length : Nat)) : Txt.slice x (some i) (some j) = ⟨q.toArray⟩ := by
  have hl : x.length = p.length + q.length + r.length := by rw [cl_len, h]; simp; (first | exact omG7.2.2.2.2.2.2.2.2.2.2.2 | omega)
  rw [beq_iff_eq.mp (slice_closesL (x := x) (i := i) (j := j) (by (first | exact omG13.2.2.2.2.2.2.2.1 hi | omega)) (by (first | exact omG31.2.2.2.2.2.2.2.2.2.2.2 hi hj | omega)) (by (first | exact omG32.1 hj hl | omega)))]
  congr 2
  subst hi hj
  show ((cl x).drop _).take _ = q
  rw [h, Int.toNat_natCast, List.append_assoc, List.drop_left, show (((p.length + q.length : Nat) : Int) - p.length).toNat = q.length by (first | exact omG32.2.1 | omega), List.take_left]
theorem slice_upto {x : Str} {p r : List Nat} {j : Int} (h : cl x = p ++ r) (hj : j = p.length) : Txt.slice x none (some j) = ⟨p.toArray⟩ := by
  have hl : (cl x).length = p.length + r.length := by rw [h]; simp
  rw [beq_iff_eq.mp (slice_closes_to (x := x) (j := j) ⟨by (first | exact omG13.2.2.2.2.2.2.2.1 hj | omega), by show j ≤ ((cl x).length : Int); (first | exact omG32.2.2.1 hj hl | omega)⟩)]
  congr 2
  subst hj
  show ((cl x).drop _).take _ = p
  rw [h, show ((p.length : Int) - 0).toNat = p.length by (first | exact omG32.2.2.2.1 | omega)]
  simp
theorem slice_on {x : Str} {p r : List Nat} {i : Int} (h : cl x = p ++ r) (hi : i = p.length) : Txt.slice x (some i) none = ⟨r.toArray⟩ := by
  have hl : (cl x).length = p.length + r.length := by rw [h]; simp
  rw [beq_iff_eq.mp (slice_closes_from (x := x) (i := i) ⟨by (first | exact omG13.2.2.2.2.2.2.2.1 hi | omega), by show i ≤ ((cl x).length : Int); (first | exact omG32.2.2.1 hi hl | omega)⟩)]
  congr 2
  subst hi
  show ((cl x).drop _).take (((cl x).length : Int) - p.length).toNat = r
  rw [hl, h, Int.toNat_natCast, List.drop_left, show (((p.length + r.length : Nat) : Int) - p.length).toNat = r.length by (first | exact omG32.2.1 | omega), List.take_length]

theorem cut_inj {c : Nat} : ∀ {a a' b b' : List Nat}, c ∉ a → c ∉ a' → a ++ c :: b = a' ++ c :: b' → a = a' ∧ b = b'
  | [], [], _, _, _, _, h => by simpa using h
  | [], y :: r, _, _, _, h2, h => by simp at h; exact absurd (h.1 ▸ List.mem_cons_self ..) h2
  | y :: r, [], _, _, h1, _, h => by simp at h; exact absurd (h.1 ▸ List.mem_cons_self ..) h1
  | y :: r, z :: t, b, b', h1, h2, h => by
    simp only [List.cons_append, List.cons.injEq] at h
    obtain ⟨e1, e2⟩ := cut_inj (fun x => h1 (List.mem_cons_of_mem _ x)) (fun x => h2 (List.mem_cons_of_mem _ x)) h.2
    exact ⟨by rw [h.1, e1], e2⟩
theorem cl_join (c : Nat) (y z : Str) (r : List Str) : cl (Str.join ⟨#[c]⟩ (y :: z :: r)) = cl y ++ c :: cl (Str.join ⟨#[c]⟩ (z :: r)) := by
  show cl (y ++ ⟨#[c]⟩ ++ Str.join ⟨#[c]⟩ (z :: r)) = _
  rw [cl_app, cl_app, show cl (⟨#[c]⟩ : Str) = [c] from rfl]; simp
theorem join_inj (c : Nat) : ∀ (ys zs : List Str), ys ≠ [] → zs ≠ [] → (∀ y ∈ ys, c ∉ cl y) → (∀ y ∈ zs, c ∉ cl y) → cl (Str.join ⟨#[c]⟩ ys) = cl (Str.join ⟨#[c]⟩ zs) → ys = zs
  | [], _, h, _, _, _, _ => absurd rfl h
  | _, [], _, h, _, _, _ => absurd rfl h
  | [y], [z], _, _, _, _, h => by rw [cl_ext (a := y) (b := z) h]
  | [y], z :: z' :: r, _, _, h1, _, h => by
    rw [cl_join] at h
    have : c ∈ cl y := by show c ∈ cl (Str.join ⟨#[c]⟩ [y]); rw [h]; simp
    exact absurd this (h1 y (.head _))
  | y :: y' :: r, [z], _, _, _, h2, h => by
    rw [cl_join] at h
    have : c ∈ cl z := by show c ∈ cl (Str.join ⟨#[c]⟩ [z]); rw [← h]; simp
    exact absurd this (h2 z (.head _))
  | y :: y' :: r, z :: z' :: t, _, _, h1, h2, h => by
    rw [cl_join, cl_join] at h
    obtain ⟨e1, e2⟩ := cut_inj (h1 y (.head _)) (h2 z (.head _)) h
    rw [cl_ext e1, join_inj c (y' :: r) (z' :: t) (by simp) (by simp) (fun q hq => h1 q (.tail _ hq)) (fun q hq => h2 q (.tail _ hq)) e2]
theorem split_ne (x y : Str) : Txt.split x y ≠ [] := by
  unfold Txt.split
  split
  · simp
  · split
    · simp
    · rw [StrLaws.partsBetween_eq]
      refine ex2 (StrLaws.partsFrom_ne x y.length 0 (Builtin.Str.occurrences x y 0 x.length (x.length + 1))) ?_
      rintro p r h
      rw [h]; simp
theorem split_of_join {c : Nat} {x : Str} {ys : List Str} (hy : ys ≠ []) (hc : ∀ y ∈ ys, c ∉ cl y) (h : cl x = cl (Str.join ⟨#[c]⟩ ys)) : Txt.split x ⟨#[c]⟩ = ys :=
  join_inj c _ _ (split_ne _ _) hy (StrLaws.split_free x c) hc (by rw [StrLaws.join_split, h])
end

section
open PySem PySem.W PySem.Calls PyProof.Rows
set_option maxRecDepth 100000
/-- the codes of a reply -/
structure Shape (x : Str) (H0 : List Nat) (m : Nat) (f0 f1 num en : List Nat) : Prop where
  eq : cl x = H0 ++ 40 :: ((m :: (f0 ++ m :: (f1 ++ m :: (num ++ [m])))) ++ 41 :: en)
  h229 : ∃ R, H0 = 50 :: 50 :: 57 :: R
  hlen : H0.length ≤ 7
  n40 : 40 ∉ H0
  nm : m ∉ H0
  m40 : m ≠ 40
  m41 : m ≠ 41
  mf0 : m ∉ f0
  mf1 : m ∉ f1
  mnum : m ∉ num
  r0 : 41 ∉ f0
  r1 : 41 ∉ f1
  rnum : 41 ∉ num
  len : f0.length ≤ 1 ∧ f1.length ≤ 2 ∧ num.length ≤ 3 ∧ en.length ≤ 4

theorem num_facts : ∀ p ∈ presL, ∀ n : Fin 64, PySem.intText? (p ++ Str.ofString (toString ((n.val : Nat) : Int))) = some ((n.val : Nat) : Int) ∧ (cl (p ++ Str.ofString (toString ((n.val : Nat) : Int)))).length ≤ 3 ∧
    (cl (p ++ Str.ofString (toString ((n.val : Nat) : Int)))).all (fun c => c == 32 || c == 43 || (48 ≤ c && c ≤ 57)) = true := by
  decide +kernel

theorem reply_shape {port : Int} {x mk hd : Str} {f : Str × Str} {pre en : Str} (h0 : 0 ≤ port) (h1 : port < 64) (H : IsReply port x mk hd f pre en) :
    ∃ H0 m, mk = ⟨#[m]⟩ ∧ Shape x H0 m (cl f.1) (cl f.2) (cl (pre ++ Str.ofString (toString port))) (cl en) ∧ PySem.intText? (pre ++ Str.ofString (toString port)) = some port := by
  obtain ⟨hmk, hhd, hf, hpre, hen, heq⟩ := H
  obtain ⟨n, rfl⟩ := Int.eq_ofNat_of_zero_le h0
  refine an3 (num_facts pre hpre ⟨n, by (first | exact omG29.2.2.2.2.2.2.2.2.2.2.1 h1 | omega)⟩) ?_
  rintro i1 i2 i3
  simp only at i1 i2 i3
  have hnum : ∀ c ∈ cl (pre ++ Str.ofString (toString ((n : Nat) : Int))), c = 32 ∨ c = 43 ∨ (48 ≤ c ∧ c ≤ 57) := by
    intro c hc
    have := List.all_eq_true.mp i3 c hc
    simp at this
    (first | exact omG32.2.2.2.2.1 this | omega)
  generalize hnu : pre ++ Str.ofString (toString ((n : Nat) : Int)) = num at *
  obtain ⟨m, hm, hmv⟩ : ∃ m, mk = ⟨#[m]⟩ ∧ (m = 124 ∨ m = 33 ∨ m = 46 ∨ m = 120) := by
    rcases marks_cases hmk with rfl | rfl | rfl | rfl
    · exact ⟨124, rfl, .inl rfl⟩
    · exact ⟨33, rfl, .inr (.inl rfl)⟩
    · exact ⟨46, rfl, .inr (.inr (.inl rfl))⟩
    · exact ⟨120, rfl, .inr (.inr (.inr rfl))⟩
  obtain ⟨H0, hH, hHv⟩ : ∃ H0, cl hd = H0 ++ [40] ∧ (H0 = [50, 50, 57, 32] ∨ H0 = [50, 50, 57, 32, 58, 41, 32] ∨ H0 = [50, 50, 57]) := by
    simp only [headsL, List.mem_cons, List.not_mem_nil, or_false] at hhd
    rcases hhd with rfl | rfl | rfl
    · exact ⟨_, rfl, .inl rfl⟩
    · exact ⟨_, rfl, .inr (.inl rfl)⟩
    · exact ⟨_, rfl, .inr (.inr rfl)⟩
  have hfv : (cl f.1 = [] ∧ cl f.2 = []) ∨ (cl f.1 = [49] ∧ cl f.2 = [104]) ∨ (cl f.1 = [40] ∧ cl f.2 = [32]) ∨ (cl f.1 = [50] ∧ cl f.2 = [45, 51]) := by
    simp only [fieldsL, List.mem_cons, List.not_mem_nil, or_false] at hf
    rcases hf with rfl | rfl | rfl | rfl
    · exact .inl ⟨rfl, rfl⟩
    · exact .inr (.inl ⟨rfl, rfl⟩)
    · exact .inr (.inr (.inl ⟨rfl, rfl⟩))
    · exact .inr (.inr (.inr ⟨rfl, rfl⟩))
  have hel : (cl en).length ≤ 4 := by
    simp only [endsL, List.mem_cons, List.not_mem_nil, or_false] at hen
    rcases hen with rfl | rfl | rfl | rfl <;> rcases marks_cases hmk with rfl | rfl | rfl | rfl <;> decide
  refine xi2 H0 m ⟨hm, ⟨?_, ?_, ?_, ?_, ?_, ?_, ?_, ?_, ?_, ?_, ?_, ?_, ?_, ?_⟩, i1⟩
  · rw [heq, show Txt.join = fun a b => Builtin.Str.glued a b from rfl]
    show cl (Builtin.Str.glued mk _) = _
    rw [StrLaws.glued_eq_join, hm, cl_join, cl_join, cl_join, cl_join, hH]
    show H0 ++ [40] ++ m :: (cl f.1 ++ m :: (cl f.2 ++ m :: (cl num ++ m :: cl (Str.ofString ")" ++ en)))) = _
    rw [cl_app, show cl (Str.ofString ")") = [41] from rfl]
    simp
  · rcases hHv with rfl | rfl | rfl <;> exact ⟨_, rfl⟩
  · rcases hHv with rfl | rfl | rfl <;> decide
  · rcases hHv with rfl | rfl | rfl <;> decide
  · rcases hHv with rfl | rfl | rfl <;> rcases hmv with rfl | rfl | rfl | rfl <;> decide
  · (first | exact omG32.2.2.2.2.2.1 hmv | omega)
  · (first | exact omG32.2.2.2.2.2.2.1 hmv | omega)
  · rcases hfv with ⟨e, _⟩ | ⟨e, _⟩ | ⟨e, _⟩ | ⟨e, _⟩ <;> rw [e] <;> simp <;> (first | exact omG32.2.2.2.2.2.2.2.1 hmv | exact omG32.2.2.2.2.2.2.2.2.1 hmv | exact omG32.2.2.2.2.2.2.2.2.2.1 hmv | omega)
  · rcases hfv with ⟨_, e⟩ | ⟨_, e⟩ | ⟨_, e⟩ | ⟨_, e⟩ <;> rw [e] <;> simp <;> (first | exact omG32.2.2.2.2.2.2.2.2.2.2.1 hmv | exact omG32.2.2.2.2.2.2.2.2.2.2.2 hmv | exact omG33.1 hmv | omega)
  · intro h; have := hnum m h; (first | exact omG33.2.1 hmv this | omega)
  · rcases hfv with ⟨e, _⟩ | ⟨e, _⟩ | ⟨e, _⟩ | ⟨e, _⟩ <;> rw [e] <;> simp
  · rcases hfv with ⟨_, e⟩ | ⟨_, e⟩ | ⟨_, e⟩ | ⟨_, e⟩ <;> rw [e] <;> simp
  · intro h; have := hnum 41 h; (first | exact omG33.2.2.1 this | omega)
  · refine ⟨?_, ?_, i2, hel⟩
    · rcases hfv with ⟨e, _⟩ | ⟨e, _⟩ | ⟨e, _⟩ | ⟨e, _⟩ <;> rw [e] <;> decide
    · rcases hfv with ⟨_, e⟩ | ⟨_, e⟩ | ⟨_, e⟩ | ⟨_, e⟩ <;> rw [e] <;> decide

theorem shape_parses {x : Str} {H0 en : List Nat} {m : Nat} {f0 f1 num : Str} {port : Int} (S : Shape x H0 m (cl f0) (cl f1) (cl num) en) (hi : PySem.intText? num = some port) :
    ∃ body left right, Parses x ⟨#[m]⟩ f0 f1 num body left right port := by
  obtain ⟨heq, ⟨R, hR⟩, hlen, n40, nm, m40, m41, mf0, mf1, mnum, r0, r1, rnum, l0, l1, l2, l3⟩ := S
  have e40 : Str.ofString "(" = ⟨#[40]⟩ := rfl
  have e41 : Str.ofString ")" = ⟨#[41]⟩ := rfl
  generalize hB : m :: (cl f0 ++ m :: (cl f1 ++ m :: (cl num ++ [m]))) = B at heq
  have hBl : B.length = (cl f0).length + (cl f1).length + (cl num).length + 4 := by rw [← hB]; simp; (first | exact omG33.2.2.2.1 | omega)
  have hB41 : 41 ∉ B := by rw [← hB]; simp [r0, r1, rnum, Ne.symm m41]
  have hxl : x.length = H0.length + 1 + B.length + 1 + en.length := by rw [cl_len, heq]; simp; (first | exact omG33.2.2.2.2.1 | omega)
  refine xi3 ⟨B.toArray⟩ (H0.length : Int) ((H0.length + 1 + B.length : Nat) : Int) ⟨?_, ?_, ?_, ?_, ?_, ?_, ?_, ?_, ?_, ?_, ?_, ?_, hi, ?_, rfl⟩
  · (first | exact omG33.2.2.2.2.2.1 hlen l0 l1 l2 l3 hBl hxl | omega)
  · exact slice_upto (p := [50, 50, 57]) (r := R ++ 40 :: (B ++ 41 :: en)) (j := 3) (by rw [heq, hR]; rfl) rfl
  · rw [e40]; exact find_first heq n40
  · rw [e41, find3_first (p1 := H0 ++ [40]) (p2 := B) (post := en) (by rw [heq]; simp) hB41 (by simp)]
    simp
  · (first | exact omG3.2.2.2.2.2.2.2.2.2.1 | omega)
  · (first | exact omG33.2.2.2.2.2.2.1 hBl | omega)
  · (first | exact omG33.2.2.2.2.2.2.2.1 hxl | omega)
  · exact item_at (p := H0 ++ [40]) (post := cl f0 ++ m :: (cl f1 ++ m :: (cl num ++ [m])) ++ 41 :: en) (by rw [heq, ← hB]; simp) (by simp)
  · exact item_at (p := H0 ++ 40 :: m :: (cl f0 ++ m :: (cl f1 ++ m :: cl num))) (post := 41 :: en) (by rw [heq, ← hB]; simp) (by rw [hBl]; simp; (first | exact omG33.2.2.2.2.2.2.2.2.1 | omega))
  · exact slice_mid (p := H0 ++ [40]) (q := B) (r := 41 :: en) (by rw [heq]; simp) (by simp) (by simp)
  · show B.toArray.size ≤ 64
    rw [List.size_toArray]; (first | exact omG33.2.2.2.2.2.2.2.2.2.1 l0 l1 l2 hBl | omega)
  · refine split_of_join (by simp) ?_ ?_
    · intro y hy
      simp only [List.mem_cons, List.not_mem_nil, or_false] at hy
      rcases hy with rfl | rfl | rfl | rfl | rfl
      · show m ∉ ([] : List Nat); simp
      · exact mf0
      · exact mf1
      · exact mnum
      · show m ∉ ([] : List Nat); simp
    · rw [cl_join, cl_join, cl_join, cl_join]
      show B = [] ++ m :: (cl f0 ++ m :: (cl f1 ++ m :: (cl num ++ m :: [])))
      rw [← hB]; simp
  · show num.cps.size ≤ 640
    rw [← Array.length_toList]; exact Nat.le_trans l2 (by decide)
end

section
open PySem PySem.W PySem.Calls PyProof.Rows
set_option maxRecDepth 100000
section
variable {prog : Program} {w : World} {A : Around} {s : Shared} {K : Frag}
/-- a call of a def of the written part that has cells, and whose body raises nothing -/
theorem enterC {R : Result → Shared → Prop} {name qual : Str} {params : Arguments} {body : List Stmt} {scope : Scope} {dV kV doc pm cdv ct oc : Value} {an od : Option Addr} {osl : Array (Option Value)} {f : Addr} {args : List Value} {binds : List (Str × Value)}
    (X : K.In s.heap) (hlim : s.heap.NoLimit)
    (ho : K.lookup f = some ⟨oc, od, .func (fnOf name qual params body scope dV kV doc pm an cdv ct), osl⟩) (hcd : codeIn K cdv qual = true) (hroom : A.depth < recursionLimit)
    (hbind : BindsTo s (fnOf name qual params body scope dV kV doc pm an cdv ct) ⟨args, []⟩ binds)
    (hkind : ∀ n, ∀ x ∈ binds, scope.names.lookup x.1 = some .local ∨ (scope.names.lookup x.1 = some .cell ∧ ((cellsFrom n scope.names []).lookup x.1).isSome = true))
    (hnd : ((cellsFrom 0 scope.names []).map (·.1)).Nodup)
    (h : ∀ L h₁ tk cells, Fr s.heap L h₁ (bindL (envOfC qual scope L f cdv).kindOf binds fun _ => none) → News s.heap L h₁ cells → CellsAre (bindC (envOfC qual scope L f cdv).kindOf binds fun _ => none) (cellsFrom (L + 1) scope.names []) cells → s.heap.objs.size = L →
      wpAny (model prog w) (A.deeper (envOfC qual scope L f cdv)) (execs body (envOfC qual scope L f cdv))
        (fun fl s' => R (.ok (.ret (match fl with | .ret v => v | _ => .none))) s') (fun _ _ => False) { s with heap := h₁, toks := tk })
    (hco : scope.isCoroutine = false) (hgen : scope.isGenerator = false) (hk : scope.kind = .function) : codeAny (model prog w) A (.call (.ref f) ⟨args, []⟩) R s := by
  refine codeAny_call_function hroom (X _ _ ho) rfl hco hgen rfl (codeRec_of X hcd) (hbind _ _ _ _ ?_)
  refine wpAny_newFunctionEnv_cells hk (hkind _) fun env' he s' x => ?_
  subst he
  refine ⟨hlim.keeps x.toInCall.keep, codeAny_func ?_⟩
  obtain ⟨h₁, tk, rfl, _⟩ := x.done
  obtain ⟨cells, NC, Y⟩ := Cl.news (h₀ := s.heap) (Nat.le_refl _) fun n c hm => ⟨x.cell n c (lookup_of_mem_nodup (cellsFrom_names scope.names 0 (s.heap.objs.size + 1) [] [] rfl ▸ hnd) hm), x.above n c hm⟩
  exact wpAny_mono (h s.heap.objs.size h₁ tk cells ⟨x.toInCall.ns, x.toInCall.keep, x.toInCall.fresh⟩ NC Y rfl) (fun _ _ q => q) fun _ _ q => q.elim
end
theorem Cx.pushE {w : World} {mean : ExcName → Option Value} {mg mb : Str → Option Value} {n : Nat} {A : Around} {h h' : Heap} {env : Env} {L : Addr} {m : Str → Option Value} (C : Cx w mean mg mb (n + 1) A h) (F : Fr h L h' m) (hf : env.frame = some L) (hk : env.scope.kind = .function) : Cx w mean mg mb n (A.deeper env) h' := by
  obtain ⟨base, outer, B⟩ := C.below
  have hnew : base.get? L = none := by
    cases hq : base.get? L with
    | none => rfl
    | some o => exact absurd (Nat.lt_of_lt_of_le (Heap.lt_size (B.stays L o hq)) F.above) (Nat.lt_irrefl _)
  refine ⟨⟨base, _, Around.frames_deeper B.stack, fun b o e => F.keep b o (B.stays b o e), .cons (by rw [hk]; decide) hf F.ns hnew (B.frames.of_keeps fun b o e _ => ⟨o, F.keep b o e, rfl⟩)⟩, C.X.keeps F.keep, C.T.keeps F.keep, ?_, ?_, C.hand⟩
  · have := C.room; simp only [depth_deeper]; (first | exact omG2.2.2.2.2.2.2.2.1 this | omega)
  · have := C.units; simp only [Around.deeper_units]; (first | exact omG2.2.2.2.2.2.2.2.2.1 this | omega)
end

section
open PySem PySem.W PySem.Calls PyProof.Rows
set_option maxRecDepth 100000
section
variable {prog : Program} {w : World} {A : Around} {E : Value → Shared → Prop} {s : Shared} {h₀ : Heap} {L : Addr} {m : Str → Option Value} {rest : List (Addr × Obj)}
noncomputable abbrev rngIt (x left : Int) : Obj := { cls := .type "range_iterator", dict := none, data := .fields #[rawInt x, rawInt left, rawInt 1], slots := #[] }

theorem news_put {h h' : Heap} {d : Addr} {o o' : Obj} (N : News h₀ L h ((d, o) :: rest)) (hap : ∀ q ∈ rest, q.1 ≠ d) (hs : Heap.SameBut d h h') (ho : h'.get? d = some o') : News h₀ L h' ((d, o') :: rest) :=
  N.setAt (own := []) (fun _ h => by cases h) hap hs ho
theorem news_ext {h h' : Heap} {d : Addr} {o : Obj} (N : News h₀ L h ((d, o) :: rest)) (hap : ∀ q ∈ rest, q.1 ≠ d) (hs : Heap.ExtBut d h h') : News h₀ L h' rest := fun q hq =>
  ⟨hs _ _ (hap q hq) (N q (.tail _ hq)).1, (N q (.tail _ hq)).2⟩
theorem fr_ext {h h' : Heap} {d : Addr} (F : Fr h₀ L h m) (hs : Heap.ExtBut d h h') (hL : d ≠ L) (hn : h₀.get? d = none) : Fr h₀ L h' m :=
  ⟨F.ns.at' fun o x => hs _ o (Ne.symm hL) x, fun b o x => hs b o (fun q => by rw [q, hn] at x; cases x) (F.keep b o x), F.above⟩

theorem range_next {it : Addr} {x left : Int} {Q : Option Value → Shared → Prop} (hh : A.handled = none) (F : Fr h₀ L s.heap m) (N : News h₀ L s.heap ((it, rngIt x left) :: rest)) (hap : ∀ q ∈ rest, q.1 ≠ it)
    (item : 0 < left → ∀ h', Fr h₀ L h' m → News h₀ L h' ((it, rngIt (x + 1) (left - 1)) :: rest) → Q (some (.int x s.toks)) { s with heap := h', toks := s.toks + 1 })
    (done : left ≤ 0 → ∀ h', Fr h₀ L h' m → News h₀ L h' rest → Q none { s with heap := h' }) : wpAny (model prog w) A (pyNext (.ref it)) Q E s := by
  have hN := N _ (.head _)
  by_cases hl : 0 < left
  · exact wpAny_pyNext_range_item hN.1 hl fun h' hi hs => item hl h' (F.change hs hN.2.1 hN.2.2) (news_put N hap hs hi)
  · exact wpAny_pyNext_range_end hh hN.1 (by (first | exact omG2.2.2.2.1 hl | omega)) fun h' hs => done (by (first | exact omG2.2.2.2.1 hl | omega)) h' (fr_ext F hs hN.2.1 hN.2.2) (news_ext N hap hs)

noncomputable def LstIt (o : Obj) (l : Addr) (i : Nat) : Prop := o.cls = .type "list_iterator" ∧ o.data = .fields #[.ref l, .int i 0]
theorem list_next {it l : Addr} {o : Obj} {i : Nat} {items : Array Value} {Q : Option Value → Shared → Prop} (hh : A.handled = none) (F : Fr h₀ L s.heap m) (N : News h₀ L s.heap ((it, o) :: rest)) (ho : LstIt o l i) (hap : ∀ q ∈ rest, q.1 ≠ it)
    (hl : s.heap.IsList l items)
    (item : ∀ x, items[i]? = some x → ∀ h' o', LstIt o' l (i + 1) → Fr h₀ L h' m → News h₀ L h' ((it, o') :: rest) → Q (some x) { s with heap := h' })
    (done : items[i]? = none → ∀ h', Fr h₀ L h' m → News h₀ L h' rest → Q none { s with heap := h' }) : wpAny (model prog w) A (pyNext (.ref it)) Q E s := by
  have hN := N _ (.head _)
  cases hx : items[i]? with
  | some x =>
    refine wpAny_pyNext_list_item ⟨_, hN.1, ho⟩ hl hx fun h' hi hs => ?_
    obtain ⟨o', h1, h2⟩ := hi
    exact item x hx h' o' h2 (F.change hs hN.2.1 hN.2.2) (news_put N hap hs h1)
  | none => exact wpAny_pyNext_list_end hh ⟨_, hN.1, ho⟩ hl hx fun h' hs => done hx h' (fr_ext F hs hN.2.1 hN.2.2) (news_ext N hap hs)
theorem iter_new {o : Obj} (F : Fr h₀ L s.heap m) (N : News h₀ L s.heap rest) (ho : Obj.isFreed o = false) : Fr h₀ L (s.heap.push o) m ∧ News h₀ L (s.heap.push o) ((s.heap.objs.size, o) :: rest) ∧ (∀ q ∈ rest, q.1 ≠ s.heap.objs.size) := by
  have k : s.heap.StaysIn (s.heap.push o) := fun b x e => Heap.get?_push_of_some _ e
  refine ⟨fr_on F k, ?_, fun q hq => Nat.ne_of_lt (Heap.lt_size (N q hq).1)⟩
  intro q hq
  rcases List.mem_cons.mp hq with rfl | hq
  · exact ⟨Heap.get?_push_size _ ho, Nat.ne_of_gt F.ns.lt, none_size F⟩
  · exact news_on N k q hq
theorem iter_range {r : Addr} {a b : Int} {t u v : Tok} {Q : Value → Shared → Prop} (hr : IsRange s.heap r a b 1 t u v) (hsmall : Builtin.Range.small a b 1 = true) (F : Fr h₀ L s.heap m) (N : News h₀ L s.heap rest)
    (h : ∀ it h', Fr h₀ L h' m → News h₀ L h' ((it, rngIt a (Builtin.Range.rangeSize a b 1)) :: rest) → (∀ q ∈ rest, q.1 ≠ it) → Q (.ref it) { s with heap := h' }) : wpAny (model prog w) A (pyIter (.ref r)) Q E s := by
  refine wpAny_pyIter_range hr hsmall ?_
  obtain ⟨F', N', hne⟩ := iter_new (o := rngIt a (Builtin.Range.rangeSize a b 1)) F N rfl
  exact h _ _ F' N' hne
theorem iter_list {l : Addr} {items : Array Value} {Q : Value → Shared → Prop} (hl : s.heap.IsList l items) (F : Fr h₀ L s.heap m) (N : News h₀ L s.heap rest)
    (h : ∀ it h' o, LstIt o l 0 → Fr h₀ L h' m → News h₀ L h' ((it, o) :: rest) → (∀ q ∈ rest, q.1 ≠ it) → s.heap.StaysIn h' → Q (.ref it) { s with heap := h' }) : wpAny (model prog w) A (pyIter (.ref l)) Q E s := by
  refine wpAny_pyIter_list hl ?_
  obtain ⟨F', N', hne⟩ := iter_new (o := { cls := .type "list_iterator", data := .fields #[.ref l, .int 0 0] }) F N rfl
  exact h _ _ _ ⟨rfl, rfl⟩ F' N' hne fun b x e => Heap.get?_push_of_some _ e
end
end

section
open PySem PySem.W PySem.Calls PyProof.Rows
set_option maxRecDepth 100000
/-- a tuple of the book and the pair that it is -/
noncomputable def IsEnt (p : Addr × Obj) (e : Int × Int) : Prop := ∃ t u, p.2 = tup2 (.int e.1 t) (.int e.2 u)
inductive Ents : List (Addr × Obj) → List (Int × Int) → Prop
  | nil : Ents [] []
  | cons {p e bk es} : IsEnt p e → Ents bk es → Ents (p :: bk) (e :: es)
theorem Ents.snoc {p : Addr × Obj} {e : Int × Int} (h : IsEnt p e) : ∀ {bk es}, Ents bk es → Ents (bk ++ [p]) (es ++ [e])
  | _, _, .nil => .cons h .nil
  | _, _, .cons a r => .cons a (r.snoc h)
theorem Ents.length : ∀ {bk es}, Ents bk es → bk.length = es.length
  | _, _, .nil => rfl
  | _, _, .cons _ r => by simp [r.length]
theorem Ents.get : ∀ {bk es} (_ : Ents bk es) (i : Nat) {e : Int × Int}, es[i]? = some e → ∃ p, bk[i]? = some p ∧ IsEnt p e
  | _, _, .cons a r, 0, e, h => by simp at h; exact ⟨_, rfl, h ▸ a⟩
  | _, _, .cons a r, i + 1, e, h => by simpa using r.get i (by simpa using h)
/-- the refs of the book -/
noncomputable abbrev refsOf (bk : List (Addr × Obj)) : List Value := bk.map fun p => .ref p.1
/-- every entry is what division tells of its place -/
noncomputable def Told (b whole figure : Int) (es : List (Int × Int)) : Prop := ∀ (i : Nat) (e : Int × Int), es[i]? = some e → (i : Int) * b + figure = e.1 * whole + e.2 ∧ 0 ≤ e.2 ∧ e.2 < whole ∧ 0 ≤ e.1
theorem Told.snoc {b whole figure : Int} {es : List (Int × Int)} {e : Int × Int} (T : Told b whole figure es) (h : (es.length : Int) * b + figure = e.1 * whole + e.2 ∧ 0 ≤ e.2 ∧ e.2 < whole ∧ 0 ≤ e.1) : Told b whole figure (es ++ [e]) := by
  intro i e' hi
  rcases Nat.lt_trichotomy i es.length with h1 | h1 | h1
  · exact T i e' (by rwa [List.getElem?_append_left h1] at hi)
  · subst h1
    rw [List.getElem?_append_right (Nat.le_refl _), Nat.sub_self] at hi
    cases hi; exact h
  · rw [List.getElem?_eq_none (by simp; (first | exact omG0.2.2.1 h1 | omega))] at hi; cases hi
theorem book_first {b whole figure q r : Int} (h1 : q * whole ≤ r * b + figure) (h2 : r * b + figure < q * whole + b) : (figure - q * whole).fmod b = r * b + figure - q * whole :=
  (div_of (q := -r) (by have u := Int.neg_mul r b; (first | exact omG39.2.2.2.2.2.2.2.1 u | omega)) (by (first | exact omG3.1 h1 | omega)) (by (first | exact omG3.2.1 h2 | omega))).2
theorem book_next {b whole figure q r first : Int} {more : Nat} (hb : 0 < b) (hf : r * b + figure = q * whole + first) (h2 : first < b) (h3 : b ≤ whole) (hm : ((whole - 1 - first).fdiv b).toNat = more) :
    (q + 1) * whole ≤ (r + (more + 1)) * b + figure ∧ (r + (more + 1)) * b + figure < (q + 1) * whole + b := by
  obtain ⟨e1, e2, e3⟩ := fdiv_facts (whole - 1 - first) hb
  have h0 : 0 ≤ (whole - 1 - first).fdiv b := Int.fdiv_nonneg (by (first | exact omG3.2.2.1 h2 h3 | omega)) (by (first | exact omG1.2.2.2.2.1 hb | omega))
  have e4 : (whole - 1 - first).fdiv b = more := by (first | exact omG3.2.2.2.1 hm h0 | omega)
  rw [e4] at e1
  have u1 := Int.add_mul q 1 whole
  have u2 := Int.add_mul r (more + 1) b
  have u3 := Int.add_mul (more : Int) 1 b
  have u4 := Int.mul_comm b (more : Int)
  constructor <;> (first | exact omG39.2.2.2.2.2.2.2.2.1 hf e1 e3 u1 u2 u3 u4 | exact omG39.2.2.2.2.2.2.2.2.2.1 hf e1 e2 u1 u2 u3 u4 | omega)
theorem book_end {b whole figure r : Int} (hb : 0 < b) (h1 : b * whole ≤ r * b + figure) (h2 : r * b + figure < b * whole + b) (h3 : 0 ≤ figure) (h4 : figure < b) : r = whole := by
  have a1 : b * (whole - 1) < b * r := by
    have u1 := Int.mul_sub b whole 1
    have u2 := Int.mul_comm b r
    (first | exact omG39.2.2.2.2.2.2.2.2.2.2.1 h1 h4 u1 u2 | omega)
  have a2 : b * r < b * (whole + 1) := by
    have u1 := Int.mul_add b whole 1
    have u2 := Int.mul_comm b r
    (first | exact omG39.2.2.2.2.2.2.2.2.2.2.2 h2 h3 u1 u2 | omega)
  have v1 := Int.lt_of_mul_lt_mul_left a1 (by (first | exact omG1.2.2.2.2.1 hb | omega))
  have v2 := Int.lt_of_mul_lt_mul_left a2 (by (first | exact omG1.2.2.2.2.1 hb | omega))
  (first | exact omG3.2.2.2.2.1 v1 v2 | omega)
end

section
open PySem PySem.W PySem.Calls PyProof.Rows
set_option maxRecDepth 100000
/-- the last reply of the book -/
noncomputable def LastR (v : Value) : Prop := ∃ x t port mk hd f pre en, v = .str x t ∧ 0 ≤ port ∧ port < 64 ∧ IsReply port x mk hd f pre en
/-- the book as it stands -/
structure BookAt (L B D : Addr) (bk : List (Addr × Obj)) (es : List (Int × Int)) (wd : Nat) (whole figure : Int) (oc : Obj) : Prop where
  ents : Ents bk es
  told : Told (2 ^ wd) whole figure es
  cell : ∃ v, oc.data = .cell (some v) ∧ (es ≠ [] → LastR v)
  hBD : B ≠ D
  hBL : B ≠ L + 1
  hDL : D ≠ L + 1
  bkB : ∀ q ∈ bk, q.1 ≠ B
  bkD : ∀ q ∈ bk, q.1 ≠ D
  bkL : ∀ q ∈ bk, q.1 ≠ L + 1
/-- the state at the head of the turn for q -/
noncomputable def OutJ (s : Shared) (L it B D : Addr) (oD : Obj) (wd : Nat) (whole figure dress : Int) (q : Int) (s1 : Shared) : Prop :=
  Hold (∀ ZZ : Shared → Prop, (∀ (h : Heap) (tk : Nat) (gens : Array GenState) (m1 : Str → Option Value) (bk : List (Addr × Obj)) (es : List (Int × Int)) (e : Nat) (oc : Obj) (v1 v2 v3 v4 v5 : Tok), (AllBare s.gens → AllBare gens) → Fr s.heap L h m1 →
      News s.heap L h ((it, rngIt q (2 ^ wd - q)) :: (B, W.listOf (refsOf bk).toArray e) :: (L + 1, oc) :: (D, oD) :: bk) → it ≠ B → it ≠ L + 1 → it ≠ D → (∀ p ∈ bk, p.1 ≠ it) → BookAt L B D bk es wd whole figure oc → 0 ≤ q → q ≤ 2 ^ wd → q * whole ≤ es.length * 2 ^ wd + figure →
      (es.length : Int) * 2 ^ wd + figure < q * whole + 2 ^ wd → m1 "book" = some (.ref B) → m1 "cells" = some (.ref D) →
      m1 "width" = some (.int (wd : Int) v1) → m1 "base" = some (.int (2 ^ wd) v2) → m1 "whole" = some (.int whole v3) → m1 "figure" = some (.int figure v4) → m1 "dress" = some (.int dress v5) → ZZ { s with heap := h, toks := tk, gens := gens }) → ZZ s1)
noncomputable def LJ4 (s : Shared) (L B D : Addr) (oD : Obj) (wd : Nat) (whole figure dress : Int) : Flow → Shared → Prop := fun fl s1 => Hold (∀ ZZ : Flow → Shared → Prop, (∀ (h : Heap) (tk : Nat) (gens : Array GenState) (m1 : Str → Option Value) (bk : List (Addr × Obj)) (es : List (Int × Int)) (e : Nat) (oc : Obj) (v1 v2 v3 v4 v5 : Tok), (AllBare s.gens → AllBare gens) → Fr s.heap L h m1 →
      News s.heap L h ((B, W.listOf (refsOf bk).toArray e) :: (L + 1, oc) :: (D, oD) :: bk) → BookAt L B D bk es wd whole figure oc → (es.length : Int) = whole → m1 "book" = some (.ref B) → m1 "cells" = some (.ref D) →
      m1 "width" = some (.int (wd : Int) v1) → m1 "base" = some (.int (2 ^ wd) v2) → m1 "whole" = some (.int whole v3) → m1 "figure" = some (.int figure v4) → m1 "dress" = some (.int dress v5) → ZZ .next { s with heap := h, toks := tk, gens := gens }) → ZZ fl s1)
theorem small_rng {wd : Nat} (h1 : 1 ≤ wd) (h3 : wd ≤ 3) : Builtin.Range.small 0 (2 ^ wd) 1 = true ∧ Builtin.Range.rangeSize 0 (2 ^ wd) 1 = 2 ^ wd := by
  have : wd = 1 ∨ wd = 2 ∨ wd = 3 := by (first | exact omG3.2.2.2.2.2.1 h1 h3 | omega)
  rcases this with rfl | rfl | rfl <;> decide
end

section
open PySem PySem.W PySem.Calls PyProof.Rows
set_option maxRecDepth 100000
theorem ints_at : ∀ {vs : List Value} {ns : List Int} (_ : IntsAre vs ns) (i : Nat) {x : Value}, vs.toArray[i]? = some x → ∃ z t, x = .int z t ∧ ns[i]? = some z := by
  intro vs ns h i x hx
  rw [List.getElem?_toArray] at hx
  induction h generalizing i with
  | nil => simp at hx
  | cons z t _ ih =>
    cases i with
    | zero => simp at hx; exact ⟨_, _, hx.symm, by simp⟩
    | succ i => simpa using ih i (by simpa using hx)
theorem ints_no {vs : List Value} {ns : List Int} (h : IntsAre vs ns) {i : Nat} (hx : vs.toArray[i]? = none) : ns.length ≤ i := by
  rw [List.getElem?_toArray, List.getElem?_eq_none_iff, h.length] at hx; exact hx
/-- the state at the head of the turn for a mark -/
noncomputable def InJ (s : Shared) (L it B D M it2 : Addr) (oIt oD oM : Obj) (wd : Nat) (whole figure dress q : Int) (gens : Array GenState) (r0 i : Nat) (s1 : Shared) : Prop :=
  Hold (∀ ZZ : Shared → Prop, (∀ (h : Heap) (tk : Nat) (m1 : Str → Option Value) (bk : List (Addr × Obj)) (es : List (Int × Int)) (e : Nat) (oc o2 : Obj) (tq v1 v2 v3 v4 v5 : Tok), Fr s.heap L h m1 →
      News s.heap L h ((it2, o2) :: (B, W.listOf (refsOf bk).toArray e) :: (L + 1, oc) :: (D, oD) :: (it, oIt) :: (M, oM) :: bk) → LstIt o2 M i → BookAt L B D bk es wd whole figure oc → (∀ p ∈ bk, p.1 ≠ it) → (∀ p ∈ bk, p.1 ≠ it2) → es.length = r0 + i →
      m1 "book" = some (.ref B) → m1 "cells" = some (.ref D) → m1 "q" = some (.int q tq) →
      m1 "width" = some (.int (wd : Int) v1) → m1 "base" = some (.int (2 ^ wd) v2) → m1 "whole" = some (.int whole v3) → m1 "figure" = some (.int figure v4) → m1 "dress" = some (.int dress v5) → ZZ { s with heap := h, toks := tk, gens := gens }) → ZZ s1)
/-- what a turn for a mark leaves -/
noncomputable def TurnJ (s : Shared) (L B : Addr) (rest bk : List (Addr × Obj)) (q port whole figure dress : Int) (wd : Nat) (gens : Array GenState) (D : Addr) : Flow → Shared → Prop := fun fl s1 => Hold (∀ ZZ : Flow → Shared → Prop, (∀ (h : Heap) (tk : Nat) (m1 : Str → Option Value) (e : Nat) (oc : Obj) (P : Addr) (t u : Tok) (x : Value) (tq v1 v2 v3 v4 v5 : Tok), Fr s.heap L h m1 →
      News s.heap L h ((B, W.listOf ((refsOf bk).toArray.push (.ref P)) e) :: (L + 1, oc) :: (P, tup2 (.int q t) (.int port u)) :: rest) → P ≠ B → P ≠ L + 1 → (∀ p ∈ rest, p.1 ≠ P) → oc.data = .cell (some x) → LastR x →
      m1 "book" = some (.ref B) → m1 "cells" = some (.ref D) → m1 "q" = some (.int q tq) →
      m1 "width" = some (.int (wd : Int) v1) → m1 "base" = some (.int (2 ^ wd) v2) → m1 "whole" = some (.int whole v3) → m1 "figure" = some (.int figure v4) → m1 "dress" = some (.int dress v5) → ZZ .next { s with heap := h, toks := tk, gens := gens }) → ZZ fl s1)
theorem BookAt.snoc {L B D : Addr} {bk : List (Addr × Obj)} {es : List (Int × Int)} {wd : Nat} {whole figure q port : Int} {oc oc' : Obj} {P : Addr} {t u : Tok} {x : Value} (H : BookAt L B D bk es wd whole figure oc)
    (h : (es.length : Int) * 2 ^ wd + figure = q * whole + port) (h0 : 0 ≤ port) (h1 : port < whole) (hq : 0 ≤ q) (hc : oc'.data = .cell (some x)) (hx : LastR x) (hPB : P ≠ B) (hPL : P ≠ L + 1) (hPD : P ≠ D) :
    BookAt L B D (bk ++ [(P, tup2 (.int q t) (.int port u))]) (es ++ [(q, port)]) wd whole figure oc' := by
  obtain ⟨a, b, _, c1, c2, c3, d1, d2, d3⟩ := H
  have app : ∀ {A : Addr}, (∀ p ∈ bk, p.1 ≠ A) → P ≠ A → ∀ p ∈ bk ++ [(P, tup2 (.int q t) (.int port u))], p.1 ≠ A := fun h1 h2 p hp => by
    rcases List.mem_append.mp hp with hp | hp
    · exact h1 p hp
    · rcases List.mem_singleton.mp hp with rfl; exact h2
  exact ⟨a.snoc ⟨t, u, rfl⟩, b.snoc ⟨h, h0, h1, hq⟩, ⟨x, hc, fun _ => hx⟩, c1, c2, c3, app d1 hPB, app d2 hPD, app d3 hPL⟩
end

section
open PySem PySem.W PySem.Calls PyProof.Rows
set_option maxRecDepth 100000
section
variable {s s1 : Shared} {L it B D M it2 : Addr} {oD oIt oM : Obj} {wd : Nat} {whole figure dress q : Int} {fl : Flow} {h : Heap} {tk : Nat} {gens gens₀ : Array GenState} {m1 : Str → Option Value} {bk : List (Addr × Obj)} {es : List (Int × Int)} {e : Nat} {oc o2 : Obj} {v1 v2 v3 v4 v5 tq : Tok} {r0 i : Nat}
theorem LJ4.mk' (hB : AllBare s.gens → AllBare gens) (F : Fr s.heap L h m1) (N : News s.heap L h ((B, W.listOf (refsOf bk).toArray e) :: (L + 1, oc) :: (D, oD) :: bk)) (K : BookAt L B D bk es wd whole figure oc) (hl : (es.length : Int) = whole)
    (b1 : m1 "book" = some (.ref B)) (b2 : m1 "cells" = some (.ref D)) (n1 : m1 "width" = some (.int (wd : Int) v1)) (n2 : m1 "base" = some (.int (2 ^ wd) v2)) (n3 : m1 "whole" = some (.int whole v3)) (n4 : m1 "figure" = some (.int figure v4)) (n5 : m1 "dress" = some (.int dress v5)) :
    LJ4 s L B D oD wd whole figure dress .next { s with heap := h, toks := tk, gens := gens } := ⟨fun _ k => k h tk gens m1 bk es e oc _ _ _ _ _ hB F N K hl b1 b2 n1 n2 n3 n4 n5⟩
theorem LJ4.elim {P : Flow → Shared → Prop} (H : LJ4 s L B D oD wd whole figure dress fl s1)
    (k : ∀ (h : Heap) (tk : Nat) (gens : Array GenState) (m1 : Str → Option Value) (bk : List (Addr × Obj)) (es : List (Int × Int)) (e : Nat) (oc : Obj) (v1 v2 v3 v4 v5 : Tok), (AllBare s.gens → AllBare gens) → Fr s.heap L h m1 →
      News s.heap L h ((B, W.listOf (refsOf bk).toArray e) :: (L + 1, oc) :: (D, oD) :: bk) → BookAt L B D bk es wd whole figure oc → (es.length : Int) = whole → m1 "book" = some (.ref B) → m1 "cells" = some (.ref D) →
      m1 "width" = some (.int (wd : Int) v1) → m1 "base" = some (.int (2 ^ wd) v2) → m1 "whole" = some (.int whole v3) → m1 "figure" = some (.int figure v4) → m1 "dress" = some (.int dress v5) → P .next { s with heap := h, toks := tk, gens := gens }) : P fl s1 := H.out _ k
theorem LJ4.cut {M : Model} {A : Around} {T : Sem Flow} {s0 : Shared} {P : Flow → Shared → Prop} {E : Value → Shared → Prop}
    (h1 : wpAny M A T (LJ4 s L B D oD wd whole figure dress) (fun _ _ => False) s0)
    (k : ∀ (h : Heap) (tk : Nat) (gens : Array GenState) (m1 : Str → Option Value) (bk : List (Addr × Obj)) (es : List (Int × Int)) (e : Nat) (oc : Obj) (v1 v2 v3 v4 v5 : Tok), (AllBare s.gens → AllBare gens) → Fr s.heap L h m1 →
      News s.heap L h ((B, W.listOf (refsOf bk).toArray e) :: (L + 1, oc) :: (D, oD) :: bk) → BookAt L B D bk es wd whole figure oc → (es.length : Int) = whole → m1 "book" = some (.ref B) → m1 "cells" = some (.ref D) →
      m1 "width" = some (.int (wd : Int) v1) → m1 "base" = some (.int (2 ^ wd) v2) → m1 "whole" = some (.int whole v3) → m1 "figure" = some (.int figure v4) → m1 "dress" = some (.int dress v5) → P .next { s with heap := h, toks := tk, gens := gens }) : wpAny M A T P E s0 :=
  wpAny_mono h1 (fun _ _ H => H.elim k) fun _ _ h => h.elim
theorem OutJ.mk' (hB : AllBare s.gens → AllBare gens) (F : Fr s.heap L h m1) (N : News s.heap L h ((it, rngIt q (2 ^ wd - q)) :: (B, W.listOf (refsOf bk).toArray e) :: (L + 1, oc) :: (D, oD) :: bk)) (i1 : it ≠ B) (i2 : it ≠ L + 1) (i3 : it ≠ D) (i4 : ∀ p ∈ bk, p.1 ≠ it)
    (K : BookAt L B D bk es wd whole figure oc) (q0 : 0 ≤ q) (q1 : q ≤ 2 ^ wd) (lo : q * whole ≤ es.length * 2 ^ wd + figure) (hi : (es.length : Int) * 2 ^ wd + figure < q * whole + 2 ^ wd)
    (b1 : m1 "book" = some (.ref B)) (b2 : m1 "cells" = some (.ref D)) (n1 : m1 "width" = some (.int (wd : Int) v1)) (n2 : m1 "base" = some (.int (2 ^ wd) v2)) (n3 : m1 "whole" = some (.int whole v3)) (n4 : m1 "figure" = some (.int figure v4)) (n5 : m1 "dress" = some (.int dress v5)) :
    OutJ s L it B D oD wd whole figure dress q { s with heap := h, toks := tk, gens := gens } := ⟨fun _ k => k h tk gens m1 bk es e oc _ _ _ _ _ hB F N i1 i2 i3 i4 K q0 q1 lo hi b1 b2 n1 n2 n3 n4 n5⟩
theorem OutJ.elim {P : Shared → Prop} (H : OutJ s L it B D oD wd whole figure dress q s1)
    (k : ∀ (h : Heap) (tk : Nat) (gens : Array GenState) (m1 : Str → Option Value) (bk : List (Addr × Obj)) (es : List (Int × Int)) (e : Nat) (oc : Obj) (v1 v2 v3 v4 v5 : Tok), (AllBare s.gens → AllBare gens) → Fr s.heap L h m1 →
      News s.heap L h ((it, rngIt q (2 ^ wd - q)) :: (B, W.listOf (refsOf bk).toArray e) :: (L + 1, oc) :: (D, oD) :: bk) → it ≠ B → it ≠ L + 1 → it ≠ D → (∀ p ∈ bk, p.1 ≠ it) → BookAt L B D bk es wd whole figure oc → 0 ≤ q → q ≤ 2 ^ wd → q * whole ≤ es.length * 2 ^ wd + figure →
      (es.length : Int) * 2 ^ wd + figure < q * whole + 2 ^ wd → m1 "book" = some (.ref B) → m1 "cells" = some (.ref D) →
      m1 "width" = some (.int (wd : Int) v1) → m1 "base" = some (.int (2 ^ wd) v2) → m1 "whole" = some (.int whole v3) → m1 "figure" = some (.int figure v4) → m1 "dress" = some (.int dress v5) → P { s with heap := h, toks := tk, gens := gens }) : P s1 := H.out _ k
theorem InJ.mk' (F : Fr s.heap L h m1) (N : News s.heap L h ((it2, o2) :: (B, W.listOf (refsOf bk).toArray e) :: (L + 1, oc) :: (D, oD) :: (it, oIt) :: (M, oM) :: bk)) (hO : LstIt o2 M i) (K : BookAt L B D bk es wd whole figure oc) (i1 : ∀ p ∈ bk, p.1 ≠ it) (i2 : ∀ p ∈ bk, p.1 ≠ it2) (hl : es.length = r0 + i)
    (b1 : m1 "book" = some (.ref B)) (b2 : m1 "cells" = some (.ref D)) (b3 : m1 "q" = some (.int q tq)) (n1 : m1 "width" = some (.int (wd : Int) v1)) (n2 : m1 "base" = some (.int (2 ^ wd) v2)) (n3 : m1 "whole" = some (.int whole v3)) (n4 : m1 "figure" = some (.int figure v4)) (n5 : m1 "dress" = some (.int dress v5)) :
    InJ s L it B D M it2 oIt oD oM wd whole figure dress q gens r0 i { s with heap := h, toks := tk, gens := gens } := ⟨fun _ k => k h tk m1 bk es e oc o2 tq _ _ _ _ _ F N hO K i1 i2 hl b1 b2 b3 n1 n2 n3 n4 n5⟩
theorem InJ.elim {P : Shared → Prop} (H : InJ s L it B D M it2 oIt oD oM wd whole figure dress q gens r0 i s1)
    (k : ∀ (h : Heap) (tk : Nat) (m1 : Str → Option Value) (bk : List (Addr × Obj)) (es : List (Int × Int)) (e : Nat) (oc o2 : Obj) (tq v1 v2 v3 v4 v5 : Tok), Fr s.heap L h m1 →
      News s.heap L h ((it2, o2) :: (B, W.listOf (refsOf bk).toArray e) :: (L + 1, oc) :: (D, oD) :: (it, oIt) :: (M, oM) :: bk) → LstIt o2 M i → BookAt L B D bk es wd whole figure oc → (∀ p ∈ bk, p.1 ≠ it) → (∀ p ∈ bk, p.1 ≠ it2) → es.length = r0 + i →
      m1 "book" = some (.ref B) → m1 "cells" = some (.ref D) → m1 "q" = some (.int q tq) →
      m1 "width" = some (.int (wd : Int) v1) → m1 "base" = some (.int (2 ^ wd) v2) → m1 "whole" = some (.int whole v3) → m1 "figure" = some (.int figure v4) → m1 "dress" = some (.int dress v5) → P { s with heap := h, toks := tk, gens := gens }) : P s1 := H.out _ k
theorem TurnJ.mk' {rest : List (Addr × Obj)} {port : Int} {P : Addr} {t u : Tok} {x : Value} (F : Fr s.heap L h m1) (N : News s.heap L h ((B, W.listOf ((refsOf bk).toArray.push (.ref P)) e) :: (L + 1, oc) :: (P, tup2 (.int q t) (.int port u)) :: rest)) (p1 : P ≠ B) (p2 : P ≠ L + 1) (p3 : ∀ p ∈ rest, p.1 ≠ P)
    (hc : oc.data = .cell (some x)) (hx : LastR x) (b1 : m1 "book" = some (.ref B)) (b2 : m1 "cells" = some (.ref D)) (b3 : m1 "q" = some (.int q tq)) (n1 : m1 "width" = some (.int (wd : Int) v1)) (n2 : m1 "base" = some (.int (2 ^ wd) v2)) (n3 : m1 "whole" = some (.int whole v3)) (n4 : m1 "figure" = some (.int figure v4)) (n5 : m1 "dress" = some (.int dress v5)) :
    TurnJ s L B rest bk q port whole figure dress wd gens D .next { s with heap := h, toks := tk, gens := gens } := ⟨fun _ k => k h tk m1 e oc P t u x tq _ _ _ _ _ F N p1 p2 p3 hc hx b1 b2 b3 n1 n2 n3 n4 n5⟩
theorem TurnJ.cut {MM : Model} {A : Around} {T : Sem Flow} {s0 : Shared} {R : Flow → Shared → Prop} {E : Value → Shared → Prop} {rest : List (Addr × Obj)} {port : Int} (h1 : wpAny MM A T (TurnJ s L B rest bk q port whole figure dress wd gens D) (fun _ _ => False) s0)
    (k : ∀ (h : Heap) (tk : Nat) (m1 : Str → Option Value) (e : Nat) (oc : Obj) (P : Addr) (t u : Tok) (x : Value) (tq v1 v2 v3 v4 v5 : Tok), Fr s.heap L h m1 →
      News s.heap L h ((B, W.listOf ((refsOf bk).toArray.push (.ref P)) e) :: (L + 1, oc) :: (P, tup2 (.int q t) (.int port u)) :: rest) → P ≠ B → P ≠ L + 1 → (∀ p ∈ rest, p.1 ≠ P) → oc.data = .cell (some x) → LastR x →
      m1 "book" = some (.ref B) → m1 "cells" = some (.ref D) → m1 "q" = some (.int q tq) →
      m1 "width" = some (.int (wd : Int) v1) → m1 "base" = some (.int (2 ^ wd) v2) → m1 "whole" = some (.int whole v3) → m1 "figure" = some (.int figure v4) → m1 "dress" = some (.int dress v5) → R .next { s with heap := h, toks := tk, gens := gens }) : wpAny MM A T R E s0 := wpAny_mono h1 (fun _ _ H => H.out _ k) fun _ _ h => h.elim
end
end

section
open PySem PySem.W PySem.Calls PyProof.Rows
set_option maxRecDepth 100000
/-- a heap that keeps all but the slots of some frames -/
structure SlotsOf (fs : List Addr) (h h' : Heap) : Prop where
  other : ∀ b o, h.get? b = some o → b ∉ fs → h'.get? b = some o
  frame : ∀ b o, h.get? b = some o → b ∈ fs → ∃ sl, h'.get? b = some { o with slots := sl }
theorem SlotsOf.refl {fs : List Addr} {h : Heap} : SlotsOf fs h h := ⟨fun _ _ e _ => e, fun _ o e _ => ⟨o.slots, e⟩⟩
theorem SlotsOf.up {fs : List Addr} {h h' : Heap} (S : SlotsOf fs h h') {b : Addr} {o : Obj} (e : h.get? b = some o) : ∃ sl, h'.get? b = some { o with slots := sl } := by
  by_cases m : b ∈ fs
  · exact S.frame b o e m
  · exact ⟨o.slots, S.other b o e m⟩
theorem SlotsOf.trans {fs : List Addr} {h h' h'' : Heap} (S : SlotsOf fs h h') (S' : SlotsOf fs h' h'') : SlotsOf fs h h'' :=
  ⟨fun b o e m => S'.other b o (S.other b o e m) m, fun b o e m => by
    obtain ⟨s1, h1⟩ := S.frame b o e m
    obtain ⟨s2, h2⟩ := S'.frame b _ h1 m
    exact ⟨s2, h2⟩⟩
theorem SlotsOf.of_stays {fs : List Addr} {h h' : Heap} (k : h.StaysIn h') : SlotsOf fs h h' := ⟨fun b o e _ => k b o e, fun b o e _ => ⟨o.slots, k b o e⟩⟩
section
variable {h₀ h h' : Heap} {L : Addr} {m : Str → Option Value} {news : List (Addr × Obj)} {fs : List Addr}
theorem fr_slots (F : Fr h₀ L h m) (S : SlotsOf fs h h') (hf : ∀ b ∈ fs, h₀.get? b = none) : Fr h₀ L h' m := by
  obtain ⟨oL, es, ep, hL, hd, hk, hq⟩ := F.ns
  obtain ⟨sl, hs⟩ := S.up hL
  exact ⟨⟨_, es, ep, hs, hd, hk, hq⟩, fun b o e => S.other b o (F.keep b o e) (fun hm => by rw [hf b hm] at e; cases e), F.above⟩
theorem news_slots (N : News h₀ L h news) (S : SlotsOf fs h h') (hf : ∀ q ∈ news, q.1 ∉ fs) : News h₀ L h' news := fun q hq => ⟨S.other _ _ (N q hq).1 (hf q hq), (N q hq).2⟩
theorem ns_slots {b : Addr} {mm : Str → Option Value} (F : h.Ns b mm) (S : SlotsOf fs h h') : h'.Ns b mm := by
  obtain ⟨oL, es, ep, hL, hd, hk, hq⟩ := F
  obtain ⟨sl, hs⟩ := S.up hL
  exact ⟨_, es, ep, hs, hd, hk, hq⟩
theorem kd_law (F : Fr h₀ L h m) : KtsDicts [L] h := fun b hb => by
  rcases List.mem_singleton.mp hb with rfl
  obtain ⟨oL, es, ep, hL, hd, _⟩ := F.ns
  exact ⟨oL, es, ep, hL, hd⟩
theorem fr_law (F : Fr h₀ L h m) (S : SlotsOf [L] h h') : Fr h₀ L h' m := fr_slots F S fun b hb => by rcases List.mem_singleton.mp hb with rfl; exact kts_self F
theorem news_law (N : News h₀ L h news) (S : SlotsOf [L] h h') : News h₀ L h' news := news_slots N S fun q hq h => (N q hq).2.1 (List.mem_singleton.mp h)
end
end

section
open PySem PySem.W PySem.Calls PyProof.Rows
set_option maxRecDepth 100000
noncomputable abbrev framesOf (l : List Env) : List Addr := l.filterMap (·.frame)
/-- parse229 raises at this text: an exception of the class at this address -/
inductive PFail (x : Str) : Addr → Prop
  | code (hl : x.length ≤ 80) (h : Txt.slice x none (some 3) ≠ Str.ofString "229") : PFail x 51
  | noleft (hl : x.length ≤ 80) (h : Txt.slice x none (some 3) = Str.ofString "229") (hf : Txt.find x (Str.ofString "(") < 0) : PFail x 63
  | noright {left : Int} (hl : x.length ≤ 80) (h : Txt.slice x none (some 3) = Str.ofString "229") (hf : Txt.find x (Str.ofString "(") = left) (h0 : 0 ≤ left) (hr : Txt.find3 x (Str.ofString ")") (left + 1) < 0) : PFail x 63
  | ends {left right : Int} (hl : x.length ≤ 80) (h : Txt.slice x none (some 3) = Str.ofString "229") (hf : Txt.find x (Str.ofString "(") = left) (h0 : 0 ≤ left) (hr : Txt.find3 x (Str.ofString ")") (left + 1) = right) (hlr : left + 2 ≤ right) (hrl : right < x.length)
      (hne : Txt.item x (left + 1) ≠ Txt.item x (right - 1)) : PFail x 63
  | parts {left right : Int} {m body : Str} {ps : List Str} (hl : x.length ≤ 80) (h : Txt.slice x none (some 3) = Str.ofString "229") (hf : Txt.find x (Str.ofString "(") = left) (h0 : 0 ≤ left) (hr : Txt.find3 x (Str.ofString ")") (left + 1) = right) (hlr : left + 2 ≤ right) (hrl : right < x.length)
      (h1 : Txt.item x (left + 1) = m) (h2 : Txt.item x (right - 1) = m) (hs : Txt.slice x (some (left + 1)) (some right) = body) (hbl : body.length ≤ 80) (hsp : Txt.split body m = ps) (hps : ps.length ≠ 5) (hpl : ps.length ≤ 80) (hml : (m.length == 0) = false) : PFail x 63

theorem PFail.len {x : Str} {c : Addr} (H : PFail x c) : x.length ≤ 80 := by cases H <;> assumption
noncomputable def preOf (c : Addr) : Str := if c = 63 then Str.ofString "proto " else Str.ofString "reply "
end

section
open PySem PySem.W PySem.Calls PyProof.Rows
set_option maxRecDepth 100000
theorem d3_book {w : World} {mean : ExcName → Option Value} {mg mb : Str → Option Value} {k wd : Nat} {r figure whole q port : Int} (hw1 : 1 ≤ wd) (hw3 : wd ≤ 3) (hwl : 2 ^ (2 * wd - 1) ≤ whole) (hwh : whole < 2 ^ (2 * wd)) (h0 : 0 ≤ r) (h1 : r < whole) (hf0 : 0 ≤ figure) (hf1 : figure < 2 ^ wd)
    (he : r * 2 ^ wd + figure = q * whole + port) (hp0 : 0 ≤ port) (hp1 : port < whole) :
    D3 w mean mg mb (k + 1) r figure whole (whole.fdiv (2 ^ wd)) (whole.fmod (2 ^ wd)) wd q port := by
  have hb : (0 : Int) < 2 ^ wd := Int.pow_pos (by decide)
  have hb3 : (2 : Int) ^ wd ≤ 2 ^ 3 := pow_mono hw3
  have hw6 : whole < 2 ^ 6 := Int.lt_of_lt_of_le hwh (pow_mono (by (first | exact omG15.2.1 hw3 | omega)))
  have hbw : (2 : Int) ^ wd ≤ whole := Int.le_trans (pow_mono (by (first | exact omG4.2.2.2.2.2.2.2.2.2.2.2 | omega))) hwl
  obtain ⟨f1, f2, f3⟩ := fdiv_facts whole hb
  have hpos : 0 < whole.fdiv (2 ^ wd) := by
    false_or_by_contra
    have : 2 ^ wd * whole.fdiv (2 ^ wd) ≤ 0 := Int.mul_nonpos_of_nonneg_of_nonpos (by (first | exact omG1.2.2.2.2.1 hb | omega)) (by (first | exact omG2.2.2.2.1 (by with_reducible assumption) | omega))
    (first | exact omG28.2.2.2.2.1 hbw f1 f3 this | omega)
  have hle : whole.fdiv (2 ^ wd) < 2 ^ 6 := by
    have : 1 * whole.fdiv (2 ^ wd) ≤ 2 ^ wd * whole.fdiv (2 ^ wd) := Int.mul_le_mul_of_nonneg_right (by (first | exact omG0.2.2.2.2.2.2.2.2.2.2.2 hb | omega)) (by (first | exact omG1.2.2.2.2.1 hpos | omega))
    (first | exact omG28.2.2.2.2.2.1 hw6 f1 f2 this | omega)
  obtain ⟨j1, j2⟩ := div_of (V := r * 2 ^ wd + figure) (b := whole) (q := q) (r := port) he.symm hp0 hp1
  have H := d3_one (w := w) (mean := mean) (mg := mg) (mb := mb) (k := k) (N := wd) (a12 := r) (a3 := figure) (b := whole) (b1 := whole.fdiv (2 ^ wd)) (b2 := whole.fmod (2 ^ wd)) (by (first | exact omG28.2.2.2.2.2.2.1 hw3 | omega)) h0 h1 hf0 hf1 (by rw [Int.mul_comm]; (first | exact omG28.2.2.2.2.2.2.2.1 f1 | omega)) f2 f3 hpos hwh
    (fun _ => d2_small (by (first | exact omG1.2.2.1 hpos | omega)) (by have := bits_le' h0 (k := 6) (by (first | exact omG28.2.2.2.2.2.2.2.2.1 h1 hw6 | omega)); (first | exact omG28.2.2.2.2.2.2.2.2.2.1 this | omega)) (noPy (k := 6) _ (by (first | exact omG1.2.2.2.2.1 hpos | omega)) hle (by decide)))
  rw [j1, j2] at H
  exact H
end

section
open PySem PySem.W PySem.Calls PyProof.Rows
set_option maxRecDepth 100000
section
variable {prog : Program} {w : World} {A : Around} {E : Value → Shared → Prop} {s : Shared} {h₀ : Heap} {L : Addr} {m : Str → Option Value} {env : Env}
/-- a comprehension's turns over a list, whose element raises nothing and keeps all but the frame's slots -/
theorem comp_core {news : List (Addr × Obj)} {elt iter : Expr} {x : Str} {px : Pos} {scope : Scope} {cl : List (Str × Addr)} {pos : Pos} {RR : Value → Addr → Result → Shared → Prop} {P : Nat → Value → Prop} {s₁ : Shared} {ql : Addr × Obj} {items : Array Value} (hh : A.handled = none)
    (hcell : ∀ y ∈ scope.names, y.2 ≠ .cell) (hkind : scope.kind = .function) (hx : scope.names.lookup x = some .local)
    (hl : s₁.heap.IsList ql.1 items) (hsz : items.size ≤ sizeLine) (F : Fr h₀ L s₁.heap m) (N : News h₀ L s₁.heap news) (hlN : ∀ h', News h₀ L h' news → h'.IsList ql.1 items)
    (hel : ∀ i v, items[i]? = some v → ∀ C h₃ tk₃ m₃, Fr h₀ L h₃ m → News h₀ L h₃ news → h₃.Ns C m₃ → m₃ x = some v → wpAny (model prog w) A (eval elt (compEnvC scope cl C env)) (fun y s₄ => P i y ∧ ∃ h₄ tk₄, s₄ = { s₁ with heap := h₄, toks := tk₄ } ∧ SlotsOf [L] h₃ h₄) (fun _ _ => False) { s₁ with heap := h₃, toks := tk₃ })
    (ret : ∀ D C oC ys e h' tk' mm, Fr h₀ L h' m → News h₀ L h' ((D, W.listOf ys e) :: (C, oC) :: news) → h'.Ns C mm → C ≠ L → h₀.get? C = none → D ≠ C → (∀ q ∈ news, q.1 ≠ C) → ys.size = items.size → (∀ (i : Nat) v, ys[i]? = some v → P i v) → RR (.ref D) C (.ok .next) { s₁ with heap := h', toks := tk' }) :
    wpAny (model prog w) A (pyIter (.ref ql.1)) (fun it s₂ => wpAny (model prog w) A (newList []) (fun acc s₃ => wpAny (model prog w) A (newFunctionEnv scope env.globals cl [] env.qual none .none (some env)) (fun cenv s₄ =>
      codeAny (model prog w) A (.compStart (.ListComp elt [⟨.Name x px, iter, [], 0⟩] scope pos) 0 it acc { cenv with scope := relabel scope env }) (RR acc cenv.locals) s₄) E s₃) E s₂) E s₁ := by
  k_with_none
  k_with "om" => (with_reducible (first | assumption | exact nnA (by assumption) | exact nnB (by assumption) | exact nnC (by assumption) (by assumption) | exact nnD (by assumption) | exact nnE (by assumption) | exact omG21.2.2.2.1 (by assumption) (by assumption) | exact omG21.2.2.1 (by assumption) (by assumption) | exact omG30.2.2.2.2.1 (by assumption) (by assumption)))
  refine iter_list hl F N ?_
  intro it h2 o hO F2 N2 hne2 k2
  refine wpAny_newObj_type (wpAny_newFunctionEnv hcell (by intro y hy; simp at hy) (fun h₁ hns₁ hsb₁ => ?_) hkind)
  dsimp only at hns₁ hsb₁ ⊢
  have hDn : h2.get? h2.objs.size = none := Heap.get?_none_of_le (Nat.le_refl _)
  have hD' := news_ne N2 hDn
  have kp : h2.StaysIn (h2.push { cls := .type "list", dict := none, data := .seq ([] : List Value).toArray }) := fun b o e => Heap.get?_push_of_some _ e
  have hDg := Heap.get?_push_size h2 (o := { cls := .type "list", dict := none, data := .seq ([] : List Value).toArray }) rfl
  generalize hp3 : h2.push { cls := .type "list", dict := none, data := .seq ([] : List Value).toArray } = h3 at *
  have N3 := news_add F2 N2 kp hDn hDg
  have F3 := fr_on F2 kp
  generalize h2.objs.size = D at *
  clear F2 N2
  have hCn : h3.get? h3.objs.size = none := Heap.get?_none_of_le (Nat.le_refl _)
  have k3 : h3.StaysIn h₁ := fun b o e => hsb₁.extBut b o (Nat.ne_of_lt (Heap.lt_size e)) (Heap.get?_push_of_some _ e)
  have hneC := news_ne N3 hCn
  have hC0 : h₀.get? h3.objs.size = none := none_size F3
  have hCL : h3.objs.size ≠ L := Nat.ne_of_gt F3.ns.lt
  have N4 := news_on N3 k3
  have F4 := fr_on F3 k3
  generalize h3.objs.size = C at *
  have itD : it ≠ D := hD' _ (.head _)
  have itC : it ≠ C := hneC _ (.tail _ (.head _))
  have DC : D ≠ C := hneC _ (.head _)
  have nwC : ∀ q ∈ news, q.1 ≠ C := fun q hq => hneC q (.tail _ (.tail _ hq))
  have nwD : ∀ q ∈ news, q.1 ≠ D := fun q hq => hD' q (.tail _ hq)
  have loop : ∀ tk, codeAny (model prog w) A (.compLoop (.ListComp elt [⟨.Name x px, iter, [], 0⟩] scope pos) 0 (.ref it) (.ref D) (compEnvC scope cl C env)) (RR (.ref D) C) { s₁ with heap := h₁, toks := tk } := by
    intro tk
    refine ex3 hns₁ ?_
    clear hns₁
    rintro oC esC epC xq1
    refine an2 xq1 ?_
    clear xq1
    rintro hoC rC
    refine codeAny_compLoop_list (fun n s' => ∃ i, n + i = items.size ∧ ∃ h tk ys e o mm oC, s' = { s₁ with heap := h, toks := tk } ∧ Fr h₀ L h m ∧ News h₀ L h ((it, o) :: (D, W.listOf ys e) :: (C, oC) :: news) ∧ LstIt o ql.1 i ∧ (∀ h : Heap, h.get? C = some oC → h.Ns C mm) ∧ ys.size = i ∧ ∀ (j : Nat) v, ys[j]? = some v → P j v) ?turn items.size
      ⟨0, rfl, h₁, tk, #[], 0, o, _, oC, rfl, F4, ?_, hO, fun h e => ⟨oC, esC, epC, e, rC⟩, rfl, fun j v hv => by simp at hv⟩
    case turn =>
      rintro n s' xr2
      refine ex1 xr2 ?_
      clear xr2
      rintro i xq2
      refine an2 xq2 ?_
      clear xq2
      rintro hn xq3
      refine ex7 xq3 ?_
      clear xq3
      rintro h tk ys e o mm oC xq4
      refine an7 xq4 ?_
      clear xq4
      rintro rfl F N hO hC hys hP
      refine list_next hh F N hO (List.forall_mem_cons.mpr ⟨Ne.symm itD, List.forall_mem_cons.mpr ⟨Ne.symm itC, fun q hq => Ne.symm (hne2 q hq) |> Ne.symm⟩⟩) (hlN h fun q hq => N q (.tail _ (.tail _ (.tail _ hq)))) ?item ?done
      case item =>
        intro v hv h5 o5 hO5 F5 N5
        dsimp only
        refine wpAny_assign_Name (wpAny_storeName_local (lookup_relabel_local hx) (hC h5 (N5 _ (.tail _ (.tail _ (.head _)))).1) (fun h6 hn6 hs6 => ?_) (by simp [compEnvC, relabel, hkind]))
        refine ex3 hn6 ?_
        clear hn6
        rintro oC6 es6 ep6 xq5
        refine an2 xq5 ?_
        clear xq5
        rintro ho6 r6
        have F6 := F5.change hs6 hCL hC0
        have N6 : News h₀ L h6 ((it, o5) :: (D, W.listOf ys e) :: (C, oC6) :: news) := N5.setAt (own := [(it, o5), (D, W.listOf ys e)]) (List.forall_mem_cons.mpr ⟨itC, List.forall_mem_cons.mpr ⟨DC, List.forall_mem_nil _⟩⟩) nwC hs6 ho6
        refine wpAny_mono (hel i v hv C h6 _ _ F6 (fun q hq => N6 q (.tail _ (.tail _ (.tail _ hq)))) ⟨oC6, es6, ep6, ho6, r6⟩ (by simp)) (fun y s₄ hy => ?_) (fun _ _ h => h.elim)
        refine an2 hy ?_
        clear hy
        rintro hPy xq6
        refine ex2 xq6 ?_
        clear xq6
        rintro h7 tk7 xq7
        refine an2 xq7 ?_
        clear xq7
        rintro rfl S7
        have F7 := fr_law F6 S7
        have N7 := news_law N6 S7
        have hi : i < items.size := by
          false_or_by_contra
          rw [Array.getElem?_eq_none (by (first | exact omG10.2.2.2.2.2.2.2.2.1 (by with_reducible assumption) | omega))] at hv; cases hv
        refine append_K F7 N7 (.tail itD (.head (List.forall_mem_cons.mpr ⟨Ne.symm DC, nwD⟩))) (fun h8 F8 N8 => ?_) (by (first | exact omG28.2.2.2.2.2.2.2.2.2.2.1 hsz hn hys | omega))
        refine xi1 (n - 1) ⟨by (first | exact omG28.2.2.2.2.2.2.2.2.2.2.2 hn hi | omega), xi1 (i + 1) ⟨by (first | exact omG29.1 hn hi | omega), xi7 h8 tk7 (ys.push y) _ o5 _ oC6 ⟨rfl, F8, N8, hO5, fun h e => ⟨oC6, es6, ep6, e, r6⟩, by simp [hys], fun j v' hj => ?_⟩⟩⟩
        rw [Array.getElem?_push] at hj
        split at hj
        · cases hj; subst j; rw [hys]; exact hPy
        · exact hP j v' hj
      case done =>
        intro hv h5 F5 N5
        have hi : items.size ≤ i := by rwa [Array.getElem?_eq_none_iff] at hv
        exact ret D C oC ys e h5 tk mm F5 N5 (hC h5 (N5 _ (.tail _ (.head _))).1) hCL hC0 DC nwC (by (first | exact omG29.2.1 hn hys hi | omega)) hP
    · intro q hq
      rcases List.mem_cons.mp hq with rfl | hq
      · exact N4 _ (.tail _ (.head _))
      · rcases List.mem_cons.mp hq with rfl | hq
        · exact N4 _ (.head _)
        · rcases List.mem_cons.mp hq with rfl | hq
          · exact ⟨hoC, hCL, hC0⟩
          · exact N4 _ (.tail _ (.tail _ hq))
  exact codeAny_compStart_list (loop _) (wpAny_pyIter_listiter ⟨o, (N4 _ (.tail _ (.head _))).1, hO⟩ (loop _))
/-- a comprehension over a list, whose element raises nothing and keeps all but the frame's slots -/
theorem comp_list {elt iter : Expr} {x : Str} {px : Pos} {scope : Scope} {cl : List (Str × Addr)} {pos : Pos} {Q : Value → Shared → Prop} (P : Nat → Value → Prop) (_F : Fr h₀ L s.heap m) (hh : A.handled = none)
    (hclos : closureFor scope env = pure cl) (hcell : ∀ y ∈ scope.names, y.2 ≠ .cell) (hkind : scope.kind = .function)
    (hnames : ∀ y ∈ scope.names, y.2 = .local → scope.names.lookup y.1 = some .local) (hx : scope.names.lookup x = some .local)
    (h : wpAny (model prog w) A (eval iter env) (fun xv s₁ => ∃ (news : List (Addr × Obj)) (l : Addr) (items : Array Value), xv = .ref l ∧ s₁.heap.IsList l items ∧ items.size ≤ sizeLine ∧ Fr h₀ L s₁.heap m ∧ News h₀ L s₁.heap news ∧ (∃ q ∈ news, q.1 = l) ∧ (∀ h', News h₀ L h' news → h'.IsList l items) ∧
      (∀ i v, items[i]? = some v → ∀ C h₃ tk₃ m₃, Fr h₀ L h₃ m → News h₀ L h₃ news → h₃.Ns C m₃ → m₃ x = some v → wpAny (model prog w) A (eval elt (compEnvC scope cl C env)) (fun y s₄ => P i y ∧ ∃ h₄ tk₄, s₄ = { s₁ with heap := h₄, toks := tk₄ } ∧ SlotsOf [L] h₃ h₄) (fun _ _ => False) { s₁ with heap := h₃, toks := tk₃ }) ∧
      (∀ D ys e h' tk', Fr h₀ L h' m → News h₀ L h' ((D, W.listOf ys e) :: news) → ys.size = items.size → (∀ (i : Nat) v, ys[i]? = some v → P i v) → Q (.ref D) { s₁ with heap := h', toks := tk' })) E s)
    (hs : ∀ x, foldedSetIterable iter env x = pure x) :
    wpAny (model prog w) A (eval (.ListComp elt [⟨.Name x px, iter, [], 0⟩] scope pos) env) Q E s := by
  k_with_none
  k_with "om" => (with_reducible (first | assumption | exact nnA (by assumption) | exact nnB (by assumption) | exact nnC (by assumption) (by assumption) | exact nnD (by assumption) | exact nnE (by assumption) | exact omG21.2.2.2.1 (by assumption) (by assumption) | exact omG21.2.2.1 (by assumption) (by assumption) | exact omG30.2.2.2.2.1 (by assumption) (by assumption)))
  rw [eval_ListComp]
  refine wpAny_comprehension_free (use := none) rfl hs hclos hkind hnames (wpAny_mono h (fun xv s₁ h₁ => ?_) fun _ _ e => e)
  refine ex3 h₁ ?_
  clear h₁
  rintro news l items xq8
  refine an9 xq8 ?_
  clear xq8
  rintro rfl hl hsz F N hln hlN hel ret
  refine ex1 hln ?_
  clear hln
  rintro ql xq9
  refine an2 xq9 ?_
  clear xq9
  rintro hql rfl
  refine comp_core (RR := fun acc C => compPost (model prog w) A E none Q acc C) hh hcell hkind hx hl hsz F N hlN hel ?_
  intro D C oC ys e h' tk' mm F5 N5 hns hCL hC0 DC nwC hsz' hP
  refine ⟨mm, hns, fun h' hs' => ?_⟩
  refine ret D ys e h' tk' (F5.change hs' hCL hC0) (fun q hq => ?_) hsz' hP
  rcases List.mem_cons.mp hq with rfl | hq
  · exact ⟨(hs'.2 _ DC).trans (N5 _ (.head _)).1, (N5 _ (.head _)).2⟩
  · exact ⟨(hs'.2 _ (nwC q hq)).trans (N5 _ (.tail _ (.tail _ hq))).1, (N5 _ (.tail _ (.tail _ hq))).2⟩
/-- the same, whose list goes to a local name -/
theorem comp_assign {elt iter : Expr} {x y : Str} {px py : Pos} {scope : Scope} {cl : List (Str × Addr)} {pos spos : Pos} {Q : Flow → Shared → Prop} (P : Nat → Value → Prop) (_F : Fr h₀ L s.heap m) (hh : A.handled = none) (hEL : env.locals = L)
    (hsw : swapsWith (.ListComp elt [⟨.Name x px, iter, [], 0⟩] scope pos) (some (.Name y py)) spos.line env = pure true)
    (hclos : closureFor scope env = pure cl) (hcell : ∀ y ∈ scope.names, y.2 ≠ .cell) (hkind : scope.kind = .function)
    (hnames : ∀ y ∈ scope.names, y.2 = .local → scope.names.lookup y.1 = some .local) (hx : scope.names.lookup x = some .local)
    (hy : env.kindOf y = some .local) (hp : (env.scope.kind == .class || (env.scope.kind == .module && env.locals != env.globals)) = false)
    (h : wpAny (model prog w) A (eval iter env) (fun xv s₁ => ∃ (news : List (Addr × Obj)) (l : Addr) (items : Array Value), xv = .ref l ∧ s₁.heap.IsList l items ∧ items.size ≤ sizeLine ∧ Fr h₀ L s₁.heap m ∧ News h₀ L s₁.heap news ∧ (∃ q ∈ news, q.1 = l) ∧ (∀ h', News h₀ L h' news → h'.IsList l items) ∧
      (∀ i v, items[i]? = some v → ∀ C h₃ tk₃ m₃, Fr h₀ L h₃ m → News h₀ L h₃ news → h₃.Ns C m₃ → m₃ x = some v → wpAny (model prog w) A (eval elt (compEnvC scope cl C env)) (fun y s₄ => P i y ∧ ∃ h₄ tk₄, s₄ = { s₁ with heap := h₄, toks := tk₄ } ∧ SlotsOf [L] h₃ h₄) (fun _ _ => False) { s₁ with heap := h₃, toks := tk₃ }) ∧
      (∀ D ys e h' tk', Fr h₀ L h' (fun z => if z = y then some (.ref D) else m z) → News h₀ L h' ((D, W.listOf ys e) :: news) → ys.size = items.size → (∀ (i : Nat) v, ys[i]? = some v → P i v) → Q .next { s₁ with heap := h', toks := tk' })) E s)
    (hs : ∀ x, foldedSetIterable iter env x = pure x) :
    wpAny (model prog w) A (exec (.Assign [.Name y py] (.ListComp elt [⟨.Name x px, iter, [], 0⟩] scope pos) spos) env) Q E s := by
  k_with_none
  k_with "om" => (with_reducible (first | assumption | exact nnA (by assumption) | exact nnB (by assumption) | exact nnC (by assumption) (by assumption) | exact nnD (by assumption) | exact nnE (by assumption) | exact omG21.2.2.2.1 (by assumption) (by assumption) | exact omG21.2.2.1 (by assumption) (by assumption) | exact omG30.2.2.2.2.1 (by assumption) (by assumption)))
  rw [exec_Assign_Name_used _ _ _ _ hsw]
  refine wpAny_bind (wpAny_standAt (wpAny_bind ?_))
  show wpAny _ A (do let _ ← comprehension (.ListComp elt [⟨.Name x px, iter, [], 0⟩] scope pos) scope env _ (newList []) false (eval iter env) (some (assign (.Name y py) env))) _ _ s
  refine wpAny_bind (wpAny_mono (wpAny_comprehension_free (use := some (assign (.Name y py) env)) (Q := fun _ s' => Q .next s') rfl hs hclos hkind hnames
    (wpAny_mono h (fun xv s₁ h₁ => ?_) fun _ _ e => e)) (fun _ s' hq => wpAny_pure (wpAny_pure hq)) fun _ _ e => e)
  refine ex3 h₁ ?_
  clear h₁
  rintro news l items xq10
  refine an9 xq10 ?_
  clear xq10
  rintro rfl hl hsz F N hln hlN hel ret
  refine ex1 hln ?_
  clear hln
  rintro ql xq11
  refine an2 xq11 ?_
  clear xq11
  rintro hql rfl
  refine comp_core (RR := fun acc C => compPost (model prog w) A E (some (assign (.Name y py) env)) (fun _ s' => Q .next s') acc C) hh hcell hkind hx hl hsz F N hlN hel ?_
  intro D C oC ys e h' tk' mm F5 N5 hns hCL hC0 DC nwC hsz' hP
  show wpAny _ A (assign (.Name y py) env (.ref D)) _ _ _
  refine wpAny_assign_Name (wpAny_storeName_local hy (by rw [hEL]; exact F5.ns) (fun h₂ hn₂ hs₂ => ?_) hp)
  rw [hEL] at hn₂ hs₂
  have F6 := F5.set hn₂ hs₂
  have N6 := N5.set hs₂
  refine ⟨mm, hns.sameBut hs₂ hCL, fun h' hs' => ?_⟩
  refine ret D ys e h' _ (F6.change hs' hCL hC0) (fun q hq => ?_) hsz' hP
  rcases List.mem_cons.mp hq with rfl | hq
  · exact ⟨(hs'.2 _ DC).trans (N6 _ (.head _)).1, (N6 _ (.head _)).2⟩
  · exact ⟨(hs'.2 _ (nwC q hq)).trans (N6 _ (.tail _ (.tail _ hq))).1, (N6 _ (.tail _ (.tail _ hq))).2⟩
end
end

section
open PySem PySem.W PySem.Calls PyProof.Rows
set_option maxRecDepth 100000
theorem ks_depthAll : ∀ ns : List Str, PyData.depthAll (ns.map PyData.str) = 0
  | [] => rfl
  | _ :: r => by simp [PyData.depthAll, PyData.depth, ks_depthAll r]
theorem ks_shaped {ns : List Str} (h : ∀ y ∈ ns, PyData.strOk y = true) : SeqAt.shaped (.list (ns.map PyData.str)) = true := by
  simp only [SeqAt.shaped, PyData.canLay0, PyData.depth, ks_depthAll, canLayAll_strs', List.all_eq_true]
  simp [List.all_eq_true.mpr h]
theorem strOk_app {a b : Str} (ha : PyData.strOk a = true) (hb : PyData.strOk b = true) : PyData.strOk (a ++ b) = true := by
  unfold PyData.strOk at *
  show (a.cps ++ b.cps).all _ = true
  rw [Array.all_append, ha, hb]; rfl
theorem ks_eqvAll : ∀ ns : List Str, PyData.eqvAll (ns.map PyData.str) (ns.map PyData.str) = true
  | [] => rfl
  | _ :: r => by rw [List.map_cons, PyData.eqvAll, ks_eqvAll r]; simp [PyData.eqv]
theorem ks_carried : ∀ {vs : List Value} {ns : List Str}, StrsAre vs ns → CarriedAll vs (ns.map PyData.str)
  | _, _, .nil => .nil
  | _, _, .cons _ t r => .cons (.str _ t) (ks_carried r)
section
variable {prog : Program} {w : World} {A : Around} {E : Value → Shared → Prop} {s : Shared} {a b : Addr} {xs ys : List Value} {zs : List Str} {Q : Value → Shared → Prop}
theorem ne_strs_same (ha : s.heap.IsList a xs.toArray) (hb : s.heap.IsList b ys.toArray) (hi : StrsAre xs zs) (hj : StrsAre ys zs) (hok : ∀ y ∈ zs, PyData.strOk y = true) (hu : A.units + 64 < cLine) (h : Q (.bool false) s) :
    wpAny (model prog w) A (compareOp .NotEq (.ref a) (.ref b)) Q E s := by
  refine ne_dataH (reads_newData ha (ks_carried hi)) (reads_newData hb (ks_carried hj)) (ks_shaped hok) (ks_shaped hok) hu ?_
  rw [PyData.eqv, ks_eqvAll]
  exact h
end
theorem strs_of {f : Str → Str} : ∀ {vs : List Value} {ys : List Str}, vs.length = ys.length → (∀ (i : Nat) v, vs[i]? = some v → ∃ y t, ys[i]? = some y ∧ v = .str (f y) t) → StrsAre vs (ys.map f)
  | [], [], _, _ => .nil
  | [], _ :: _, h, _ => by cases h
  | _ :: _, [], h, _ => by cases h
  | v :: vs, y :: ys, hl, H => by
    obtain ⟨y', t, e, rfl⟩ := H 0 v rfl
    cases e
    exact .cons _ t (strs_of (by simpa using hl) fun i v' hv => by simpa using H (i + 1) v' (by simpa using hv))
section
variable {prog : Program} {w : World} {A : Around} {E : Value → Shared → Prop} {s : Shared} {value slice : Expr} {x : Str} {t : Tok} {h₁ : Heap} {Q : Value → Shared → Prop}
theorem keptStays : KeptH (fun h => h₁.StaysIn h) := fun _ _ a b o e => Heap.get?_push_of_some _ (a b o e)
theorem slice_keep_sn {i : Int} {ui : Tok} (hK : h₁.StaysIn s.heap) (h : ∀ h' t' k, h₁.StaysIn h' → Q (.str (Txt.slice x (some i) none) t') { s with heap := h', toks := k })
    (hs : subscripted slice false (.str x t) (.ref s.heap.objs.size) = operate [.ref s.heap.objs.size, .str x t] (getItem (.str x t) (.ref s.heap.objs.size)) := by with_unfolding_all rfl)
    (ht : ∀ r, letTemporaryGo value (.str x t) r = pure () := by intro _; with_unfolding_all rfl) (hsz : x.length ≤ sizeLine := by size_fits) :
    wpAny (model prog w) A (subscriptTail value slice (.str x t) (.ref s.heap.objs.size)) Q E { s with heap := s.heap.push { cls := .type "slice", data := .fields #[.int i ui, .none, .none] } } :=
  tail_of_ItemOn (SBH.sliceItem_sn keptStays hK (fun h' t' k a => h h' t' k a) hsz) hs ht
end
end

section
open PySem PySem.W PySem.Calls PyProof.Rows
set_option maxRecDepth 100000
section
variable {A : Around} {s : Shared} {env : Env}
/-- a while whose turns raise nothing -/
theorem while_turns {test : Expr} {body : List Stmt} {pos : Pos} {Q : Flow → Shared → Prop} {prog : Program} {w : World}
    (h : ∃ (I : Nat → Shared → Prop) (n : Nat), I n s ∧ ∀ n s, I n s → wpAny (model prog w) A (isTrue test env (eval test env)) (fun b s₂ =>
      if b = true then wpAny (model prog w) A (execs body env) (fun f s₃ => match f with
        | .next | .cont => Hold (∃ m, m < n ∧ I m s₃)
        | .brk => Q .next s₃
        | .ret v => Q (.ret v) s₃) (fun _ _ => False) s₂
      else Q .next s₂) (fun _ _ => False) s) : wpAny (model prog w) A (exec (.While test body [] pos) env) Q (fun _ _ => False) s := by
  obtain ⟨I, n, h0, step⟩ := h
  refine wpAny_While (codeAny_whileLoop I (fun n s hI => wpAny_mono (step n s hI) (fun b s₂ hb => ?_) fun _ _ e => e.elim) n h0)
  split
  · rw [if_pos (by assumption)] at hb
    exact wpAny_mono hb (fun f s₃ h₃ => by cases f <;> first | exact h₃ | exact h₃.out) fun _ _ e => e.elim
  · rw [if_neg (by assumption)] at hb
    exact wpAny_execs_nil hb
end
theorem nodup_le : ∀ (n : Nat) (l : List Nat), l.Nodup → (∀ x ∈ l, x < n) → l.length ≤ n
  | 0, [], _, _ => Nat.le_refl _
  | 0, _ :: _, _, h => absurd (h _ (.head _)) (Nat.not_lt_zero _)
  | n + 1, l, hd, h => by
    by_cases hm : n ∈ l
    · have e1 := nodup_le n (l.erase n) (hd.erase n) (fun x hx => by
        have v := (hd.mem_erase_iff).mp hx
        exact Nat.lt_of_le_of_ne (Nat.le_of_lt_succ (h x v.2)) v.1)
      rw [List.length_erase_of_mem hm] at e1
      (first | exact omG29.2.2.1 e1 | omega)
    · have := nodup_le n l hd (fun x hx => by
        have h1 := h x hx
        have : x ≠ n := fun e => hm (e ▸ hx)
        (first | exact omG29.2.2.2.1 h1 this | omega))
      (first | exact omG29.2.2.2.2.1 this | omega)
structure Pre (B whole figure place : Int) (ps gs : List Int) : Prop where
  ps0 : ∀ p ∈ ps, 0 ≤ p ∧ p < whole
  gs0 : ∀ g ∈ gs, 0 ≤ g ∧ g < B
  len : gs.length = ps.length
  nd : ps.Nodup
  pl : 0 ≤ place ∧ place < whole
  step : ∀ i, i < ps.length → (ps ++ [place]).getD i 0 * B + figure = gs.getD i 0 * whole + (ps ++ [place]).getD (i + 1) 0
section
variable {B whole figure place : Int} {ps gs : List Int}
theorem Pre.le (H : Pre B whole figure place ps gs) : (ps.length : Int) ≤ whole := by
  have h0 := H.pl
  have := nodup_le whole.toNat (ps.map Int.toNat) (by
    rw [List.nodup_iff_pairwise_ne, List.pairwise_map]
    have := H.nd
    rw [List.nodup_iff_pairwise_ne] at this
    refine List.Pairwise.imp_of_mem (fun {a b} ha hb hab e => ?_) this
    have v1 := H.ps0 a ha
    have v2 := H.ps0 b hb
    (first | exact omG29.2.2.2.2.2.1 hab e v1 v2 | omega)) (fun x hx => by
    obtain ⟨p, hp, rfl⟩ := List.mem_map.mp hx
    have := H.ps0 p hp
    (first | exact omG29.2.2.2.2.2.2.1 this | omega))
  rw [List.length_map] at this
  (first | exact omG29.2.2.2.2.2.2.2.1 h0 this | omega)
theorem Pre.snoc (H : Pre B whole figure place ps gs) (hn : place ∉ ps) {g p : Int} (he : place * B + figure = g * whole + p) (hg : 0 ≤ g ∧ g < B) (hp : 0 ≤ p ∧ p < whole) : Pre B whole figure p (ps ++ [place]) (gs ++ [g]) := by
  refine ⟨?_, ?_, by simp [H.len], ?_, hp, ?_⟩
  · intro x hx
    rcases List.mem_append.mp hx with hx | hx
    · exact H.ps0 x hx
    · rcases List.mem_singleton.mp hx with rfl; exact H.pl
  · intro x hx
    rcases List.mem_append.mp hx with hx | hx
    · exact H.gs0 x hx
    · rcases List.mem_singleton.mp hx with rfl; exact hg
  · rw [List.nodup_append]
    exact ⟨H.nd, by simp, fun a ha b hb e => by rcases List.mem_singleton.mp hb with rfl; exact hn (e ▸ ha)⟩
  · intro i hi
    rw [List.length_append, List.length_singleton] at hi
    by_cases h : i < ps.length
    · have e1 : ∀ j, j ≤ ps.length → (ps ++ [place] ++ [p]).getD j 0 = (ps ++ [place]).getD j 0 := fun j hj => by
        rw [List.getD_eq_getElem?_getD, List.getD_eq_getElem?_getD, List.getElem?_append_left (by simp; (first | exact omG29.2.2.2.2.2.2.2.2.1 hj | omega))]
      have e2 : (gs ++ [g]).getD i 0 = gs.getD i 0 := by
        rw [List.getD_eq_getElem?_getD, List.getD_eq_getElem?_getD, List.getElem?_append_left (by rw [H.len]; exact h)]
      rw [e1 i (by (first | exact omG10.2.2.2.2.1 h | omega)), e1 (i + 1) (by (first | exact omG0.2.2.1 h | omega)), e2]
      exact H.step i h
    · obtain rfl : i = ps.length := by (first | exact omG29.2.2.2.2.2.2.2.2.2.1 hi h | omega)
      have e1 : (ps ++ [place] ++ [p]).getD ps.length 0 = place := by simp [List.getD_eq_getElem?_getD]
      have e2 : (ps ++ [place] ++ [p]).getD (ps.length + 1) 0 = p := by simp [List.getD_eq_getElem?_getD]
      have e3 : (gs ++ [g]).getD ps.length 0 = g := by rw [← H.len]; simp [List.getD_eq_getElem?_getD]
      rw [e1, e2, e3]; exact he
theorem Pre.notes (H : Pre B whole figure place ps gs) (hm : place ∈ ps) : Notes B whole figure place ps gs := ⟨H.ps0, H.gs0, H.len, hm, H.step⟩
theorem Pre.start (h : 0 ≤ place ∧ place < whole) : Pre B whole figure place [] [] := ⟨fun _ h => (by cases h), fun _ h => (by cases h), rfl, .nil, h, fun _ h => absurd h (Nat.not_lt_zero _)⟩
end
end

section
open PySem PySem.W PySem.Calls PyProof.Rows
set_option maxRecDepth 100000
set_option maxHeartbeats 8000000
section
variable {prog : Program} {w : World} {A : Around} {s : Shared} {K : Frag}
/-- a call of a def, whose body may raise -/
theorem enterE {Q E : Value → Shared → Prop} {name qual : Str} {params : Arguments} {body : List Stmt} {scope : Scope} {dV kV doc pm cdv ct oc : Value} {an od : Option Addr} {osl : Array (Option Value)} {f : Addr} {args : List Value} {binds : List (Str × Value)}
    (X : K.In s.heap) (hlim : s.heap.NoLimit)
    (ho : K.lookup f = some ⟨oc, od, .func (fnOf name qual params body scope dV kV doc pm an cdv ct), osl⟩) (hcd : codeIn K cdv qual = true) (hroom : A.depth < recursionLimit)
    (hbind : BindsTo s (fnOf name qual params body scope dV kV doc pm an cdv ct) ⟨args, []⟩ binds) (hloc : ∀ y ∈ binds, scope.names.lookup y.1 = some .local)
    (h : ∀ L h₁ (tk : Tok), Fr s.heap L h₁ (fun y => binds.reverse.lookup y) → s.heap.objs.size = L →
      wpAny (model prog w) (A.deeper (envOf qual scope L f cdv)) (execs body (envOf qual scope L f cdv))
        (fun fl s' => Q (match fl with | .ret v => v | _ => .none) s')
        (fun e s' => wpAny (model prog w) (A.deeper (envOf qual scope L f cdv)) (leaving (envOf qual scope L f cdv) e) (fun _ s'' => E e s'') (fun e' s'' => E e' s'') s')
        { s with heap := h₁, toks := tk })
    (hcell : ∀ x ∈ scope.names, x.2 ≠ .cell) (hco : scope.isCoroutine = false) (hgen : scope.isGenerator = false) (hk : scope.kind = .function) : wpAny (model prog w) A (call (.ref f) args) Q E s :=
  wpAny_call (enter X hlim ho hcd hroom hbind hloc (fun L h₁ F e => h L h₁ _ F e) hcell hco hgen hk)
end
theorem raisedS_nil {base G : Heap} {l : List Env} {e : Addr} {cls : Value} {t : Addr} {vs : List Value} {news : List (Addr × Obj)} {h : Heap} (R : RaisedS base G l e cls t vs news h) : RaisedS base G l e cls t vs [] h := by
  k_with_none
  k_with "om" => (with_reducible (first | assumption | exact nnA (by assumption) | exact nnB (by assumption) | exact nnC (by assumption) (by assumption) | exact nnD (by assumption) | exact nnE (by assumption) | exact omG21.2.2.2.1 (by assumption) (by assumption) | exact omG21.2.2.1 (by assumption) (by assumption) | exact omG30.2.2.2.2.1 (by assumption) (by assumption)))
  k_with "eval Name" => ((k_here; k_dflt (refine' ld ?k1 ?k2 ?_; (case k1 => k_asm); (case k2 => assumption); k_whole)))
  k_with "loadName" => ((k_here; k_dflt (refine' ldn ?k1 ?k2 ?_; (case k1 => k_asm); (case k2 => assumption); k_whole)))
  obtain ⟨⟨B, a, b, _, c, d⟩, f⟩ := R
  exact ⟨⟨B, a, b, (fun _ h => nomatch h), c, d⟩, f⟩

/-- the same, nested as the text asks -/
theorem PFail.split {x : Str} {c : Addr} (H : PFail x c) : x.length ≤ 80 ∧ ((Txt.slice x none (some 3) ≠ Str.ofString "229" ∧ c = 51) ∨ (Txt.slice x none (some 3) = Str.ofString "229" ∧ c = 63 ∧ (Txt.find x (Str.ofString "(") < 0 ∨
    ∃ left, Txt.find x (Str.ofString "(") = left ∧ 0 ≤ left ∧ (Txt.find3 x (Str.ofString ")") (left + 1) < 0 ∨ ∃ right, Txt.find3 x (Str.ofString ")") (left + 1) = right ∧ left + 2 ≤ right ∧ right < x.length ∧ (Txt.item x (left + 1) ≠ Txt.item x (right - 1) ∨
      ∃ m body ps, Txt.item x (left + 1) = m ∧ Txt.item x (right - 1) = m ∧ Txt.slice x (some (left + 1)) (some right) = body ∧ body.length ≤ 80 ∧ Txt.split body m = ps ∧ ps.length ≠ 5 ∧ ps.length ≤ 80 ∧ (m.length == 0) = false))))) := by
  k_with_none
  k_with "om" => (with_reducible (first | assumption | exact nnA (by assumption) | exact nnB (by assumption) | exact nnC (by assumption) (by assumption) | exact nnD (by assumption) | exact nnE (by assumption) | exact omG21.2.2.2.1 (by assumption) (by assumption) | exact omG21.2.2.1 (by assumption) (by assumption) | exact omG30.2.2.2.2.1 (by assumption) (by assumption)))
  k_with "eval Name" => ((k_here; k_dflt (refine' ld ?k1 ?k2 ?_; (case k1 => k_asm); (case k2 => assumption); k_whole)))
  k_with "loadName" => ((k_here; k_dflt (refine' ldn ?k1 ?k2 ?_; (case k1 => k_asm); (case k2 => assumption); k_whole)))
  cases H with
  | code hl h => exact ⟨hl, .inl ⟨h, rfl⟩⟩
  | noleft hl h hf => exact ⟨hl, .inr ⟨h, rfl, .inl hf⟩⟩
  | @noright left hl h hf h0 hr => exact ⟨hl, .inr ⟨h, rfl, .inr ⟨left, hf, h0, .inl hr⟩⟩⟩
  | @ends left right hl h hf h0 hr hlr hrl hne => exact ⟨hl, .inr ⟨h, rfl, .inr ⟨left, hf, h0, .inr ⟨right, hr, hlr, hrl, .inl hne⟩⟩⟩⟩
  | @parts left right m body ps hl h hf h0 hr hlr hrl h1 h2 hs hbl hsp hps hpl hml => exact ⟨hl, .inr ⟨h, rfl, .inr ⟨left, hf, h0, .inr ⟨right, hr, hlr, hrl, .inr ⟨m, body, ps, h1, h2, hs, hbl, hsp, hps, hpl, hml⟩⟩⟩⟩⟩

theorem parse_raises {w : World} {mean : ExcName → Option Value} {mg mb : Str → Option Value} {k : Nat} {A : Around} {s : Shared} {Q E : Value → Shared → Prop} {x : Str} {c : Addr} {t1 : Tok} {P : Addr} {g : Heap} {outer : List Env} (C : Cx w mean mg mb (k + 2) A s.heap)
    (B : Below A g outer s.heap) (H : PFail x c)
    (ret : ∀ e t h' tk' tx, RaisedS g s.heap outer e (.ref c) t [.str x tx] [] h' → s.heap.UpToSlots h' → E (.ref e) { s with heap := h', toks := tk' }) :
    wpAny (model PySem.Challenge.rw_xi0003_01.row.prog w) A (call (.ref 72) [.str x t1, .ref P]) Q E s := by
  k_with_none
  k_with "om" => (with_reducible (first | assumption | exact nnA (by assumption) | exact nnB (by assumption) | exact nnC (by assumption) (by assumption) | exact nnD (by assumption) | exact nnE (by assumption) | exact omG21.2.2.2.1 (by assumption) (by assumption) | exact omG21.2.2.1 (by assumption) (by assumption) | exact omG30.2.2.2.2.1 (by assumption) (by assumption)))
  k_with "eval Name" => ((k_here; k_dflt (refine' ld ?k1 ?k2 ?_; (case k1 => k_asm); (case k2 => assumption); k_whole)))
  k_with "loadName" => ((k_here; k_dflt (refine' ldn ?k1 ?k2 ?_; (case k1 => k_asm); (case k2 => assumption); k_whole)))
  obtain ⟨hd0, dp, fr, gd, un⟩ := A
  obtain rfl : hd0 = none := C.hand
  have X := C.X
  have T := C.T
  k_dflt (refine' enterE ?hX ?hlim ?ho ?hcd ?hr ?hbind ?hloc ?_ ?c2 ?c3 ?c4 ?c5; (case hX => assumption); (case hlim => exact Top.nolimit (by assumption)); (case ho => k_is); (case hcd => k_is); (case hr => exact Cx.depth (by assumption)); (case hbind => exact BindsTo.of_eq rfl); (case hloc => exact locs rfl); (case c2 => decide); (case c3 => exact rfl); (case c4 => exact rfl); (case c5 => exact rfl); k_whole)
  intro L h₁ tk₀ F eL
  try dsimp only
  k_fold
  have NN : News s.heap L h₁ [] := News.nil
  refine an2 H.split ?_
  clear H
  intro hl H
  have hsz : x.length ≤ sizeLine := Nat.le_trans hl (by decide)
  k_with "leaving ref" => (refine leave_raiseS B (by assumption) (by assumption) (by assumption) ?_; intro h' t' RS' RK' U'; (try dsimp only))
  k_with "subscriptTail Name Slice str ref" => ((with_reducible rename Fr _ _ _ _ => F'); (with_reducible rename News _ _ _ _ => N'); (first | refine slice_strN_ns (hsz := hsz) (s := ⟨_, _, _, _, _⟩) F' N' ?_ | refine slice_strN_ss (hsz := hsz) (s := ⟨_, _, _, _, _⟩) F' N' ?_); intro _ _ _ _ _)
  refine H.elim ?_ ?_
  · clear H
    intro H
    refine an2 H ?_
    clear H
    rintro h rfl
    have e1 : (Txt.slice x none (some 3) != Str.ofString "229") = true := bne_iff_ne.mpr h
    k_with "compareOp NotEq str str" => (refine PyProof.Rows.ne_str ?_; rw [e1])
    k_steps
    exact ret _ _ _ _ _ (by assumption) (by assumption)
  · clear H
    intro H
    refine an3 H ?_
    clear H
    rintro h rfl H
    have e1 : (Txt.slice x none (some 3) != Str.ofString "229") = false := by rw [h]; simp
    refine cut_at 1 (fun s' => ∃ h' tk' m', s' = { s with heap := h', toks := tk' } ∧ Fr s.heap L h' m' ∧ m' "resp" = some (.str x t1)) ?_ ?_
    · intro R hR
      k_with "compareOp NotEq str str" => (refine PyProof.Rows.ne_str ?_; rw [e1])
      dsimp only [List.take]
      k_steps
      exact hR _ (xi3 _ _ _ ⟨rfl, by assumption, rfl⟩)
    clear F NN
    intro s0 hq
    refine ex3 hq ?_
    clear hq
    intro h2 tk2 m2 hq
    refine an3 hq ?_
    clear hq
    rintro rfl F2 m2r
    dsimp only [List.drop]
    have NN : News s.heap L h2 [] := News.nil
    refine H.elim ?_ ?_
    · clear H
      intro hf
      obtain ⟨left, hle⟩ : ∃ left, Txt.find x (Str.ofString "(") = left := ⟨_, rfl⟩
      rw [hle] at hf
      k_with "call builtin:str.find" => (refine SC.find ?_; rw [hle])
      k_steps
      exact ret _ _ _ _ _ (by assumption) (by assumption)
    clear H
    intro H
    refine ex1 H ?_
    clear H
    intro left H
    refine an3 H ?_
    clear H
    intro hf h0 H
    have hl0 : ¬ left < 0 := by (first | exact omG30.2.2.2.2.2.2.2.2.2.1 h0 | omega)
    refine cut_at 2 (fun s' => ∃ h' tk' m' tl, s' = { s with heap := h', toks := tk' } ∧ Fr s.heap L h' m' ∧ m' "resp" = some (.str x t1) ∧ m' "left" = some (.int left tl)) ?_ ?_
    · intro R hR
      k_with "call builtin:str.find" => (refine SC.find ?_; rw [hf])
      dsimp only [List.take]
      k_steps
      exact hR _ (xi4 _ _ _ _ ⟨rfl, by assumption, by assumption, rfl⟩)
    clear F2 NN m2r
    intro s0 hq
    refine ex4 hq ?_
    clear hq
    intro h3 tk3 m3 tl hq
    refine an4 hq ?_
    clear hq
    rintro rfl F3 m3r m3l
    dsimp only [List.drop]
    have NN : News s.heap L h3 [] := News.nil
    refine H.elim ?_ ?_
    · clear H
      intro hr
      obtain ⟨right, hre⟩ : ∃ right, Txt.find3 x (Str.ofString ")") (left + 1) = right := ⟨_, rfl⟩
      rw [hre] at hr
      k_with "call builtin:str.find" => (refine SC.find3 ?_; rw [hre])
      k_steps
      exact ret _ _ _ _ _ (by assumption) (by assumption)
    clear H
    intro H
    refine ex1 H ?_
    clear H
    intro right H
    refine an4 H ?_
    clear H
    intro hr hlr hrl H
    have hr0 : ¬ right < 0 := by (first | exact omG30.2.2.2.2.2.2.2.2.2.2.1 h0 hlr | omega)
    have hfs : fitsSsize (left + 1) = true := fitsSsize_of (N := 9223372036854775808) (by (first | exact omG30.2.2.2.2.2.1 h0 | omega)) (by (first | exact omG36.2.2.2.2.2.2.2.2.1 hl hlr hrl | omega)) (Int.le_refl _)
    have hfs2 : fitsSsize (right - 1) = true := fitsSsize_of (N := 9223372036854775808) (by (first | exact omG36.2.2.2.2.2.2.2.2.2.1 hr0 | omega)) (by (first | exact omG36.2.2.2.2.2.2.2.2.2.2.1 hl hrl | omega)) (Int.le_refl _)
    refine cut_at 2 (fun s' => ∃ h' tk' m' tl tr, s' = { s with heap := h', toks := tk' } ∧ Fr s.heap L h' m' ∧ m' "resp" = some (.str x t1) ∧ m' "left" = some (.int left tl) ∧ m' "right" = some (.int right tr)) ?_ ?_
    · intro R hR
      k_with "call builtin:str.find" => (refine SC.find3 ?_; rw [hr])
      dsimp only [List.take]
      k_steps
      exact hR _ (xi5 _ _ _ _ _ ⟨rfl, by assumption, by assumption, by assumption, rfl⟩)
    clear F3 NN m3r m3l
    intro s0 hq
    refine ex5 hq ?_
    clear hq
    intro h4 tk4 m4 tl4 tr4 hq
    refine an5 hq ?_
    clear hq
    rintro rfl F4 m4r m4l m4t
    dsimp only [List.drop]
    have NN : News s.heap L h4 [] := News.nil
    refine H.elim ?_ ?_
    · clear H
      intro hne
      have e2 : (Txt.item x (left + 1) != Txt.item x (right - 1)) = true := bne_iff_ne.mpr hne
      k_with "compareOp NotEq str str" => (refine PyProof.Rows.ne_str ?_; rw [e2])
      k_with "subscriptTail Name BinOp str int" => (refine item_str (by assumption) (by (first | exact omG30.2.2.2.2.2.2.2.2.2.2.2 h0 | exact omG31.2.1 h0 hlr | omega)) (by (first | exact omG31.1 hlr hrl | exact omG31.2.2.1 hrl | omega)) ?_; intro _)
      k_steps
      exact ret _ _ _ _ _ (by assumption) (by assumption)
    clear H
    intro H
    refine ex3 H ?_
    clear H
    intro m body ps H
    refine an8 H ?_
    clear H
    intro h1 h2' hs hbl hsp hps hpl hml
    have e2 : (m != m) = false := by simp
    have hsz2 : body.length + 2 ≤ sizeLine := Nat.le_trans (Nat.add_le_add_right hbl 2) (by decide)
    k_with "subscriptTail Name Slice str ref" => ((with_reducible rename Fr _ _ _ _ => F'); (with_reducible rename News _ _ _ _ => N'); refine slice_strN_ss (hsz := hsz) (s := ⟨_, _, _, _, _⟩) F' N' ?_; intro _ _ _ _ _; rw [hs])
    k_with "compareOp NotEq str str" => (refine PyProof.Rows.ne_str ?_; rw [e2])
    k_with "subscriptTail Name BinOp str int" => (refine item_str (by assumption) (by (first | exact omG30.2.2.2.2.2.2.2.2.2.2.2 h0 | exact omG31.2.1 h0 hlr | omega)) (by (first | exact omG31.1 hlr hrl | exact omG31.2.2.1 hrl | omega)) ?_; intro _; first | rw [h1] | rw [h2'])
    repeat' ((fail_if_success (with_reducible show wpAny _ _ (call (Value.builtin "str.split") _) _ _ _)); first | (k_unfold; (try dsimp only)) | (k_end; kc_close) | walk1 | (dsimp only; walk1) | (leave1; (try dsimp only)) | fail "no step")
    refine splitN1A (hsz := hsz2) (by assumption) (by assumption) hml ?_
    intro l h' k' hl' _ _ _ F' N'
    rw [hsp] at hl'
    have hll : l.length = ps.length := by rw [← hl', List.length_map]
    have hls : ((strValues l).toArray.size : Int) = (ps.length : Int) := by rw [List.size_toArray, ← hll]; simp [strValues]
    have hp5 : (ps.length : Int) ≠ 5 := by (first | exact omG36.2.2.2.2.2.2.2.2.2.2.2 hps | omega)
    try dsimp only
    repeat' ((fail_if_success (with_reducible show wpAny _ _ (call (Value.builtin "len") _) _ _ _)); first | (k_unfold; (try dsimp only)) | (k_end; kc_close) | walk1 | (dsimp only; walk1) | (leave1; (try dsimp only)) | fail "no step")
    (rename News _ _ _ _ => N9)
    refine len_list (items := (strValues l).toArray) ⟨_, (N9 _ (.head _)).1, rfl, 0, rfl⟩ (by rw [hls]; (first | exact omG37.1 hpl | omega)) ?_
    rw [hls]
    k_steps
    · exact ret _ _ _ _ _ (raisedS_nil (by assumption)) (by assumption)
    · exact absurd (by assumption) hp5
end

section
open PySem PySem.W PySem.Calls PyProof.Rows PySem.Builtin PySem.Builtin.Str PySem.Builtin.BaseException PySem.Builtin.Exceptions
set_option maxRecDepth 100000
section
variable {prog : Program} {w : World} {A : Around} {E : Value → Shared → Prop} {s : Shared} {K : Frag} {e C t0 : Addr} {ox : Obj} {od : Option Obj} {vs : Array Value} {m : Str} {tk : Tok} {Q : Value → Shared → Prop}
theorem own_special {name : Str} {id : String} {args : List Value} {Q : Option Value → Shared → Prop} (X : K.In s.heap) (LT : Looks (model prog w) s.heap (typeOf (.ref e)) (.ref C)) (hs : findIn K (.ref C) name = some (some (.builtin id)))
    (hb : ∀ self, bindSpecial (.builtin id) self = pure (.builtin id, [self])) (h : wpAny (model prog w) A (call (.builtin id) (.ref e :: args)) (fun v => Q (some v)) E s) : wpAny (model prog w) A (callSpecial? (.ref e) name args) Q E s :=
  wpAny_bind (wpAny_bind (LT.here ((looks_findIn X hs).here (wpAny_holding (wpAny_bind ((Looks.of_pure (hb _)).here (wpAny_bind (wpAny_mono h (fun _ _ z => wpAny_pure z) fun _ _ z => z))))))))
theorem own_args {M : Model} {items : List Value} {Q : Value × List Value → Shared → Prop} (ho : s.heap.get? e = some ox) (hd : ox.data = .fields vs) (h0 : vs[0]? = some (.ref t0)) (ht : s.heap.TupAt t0 items) (hq : Q (.ref t0, items) s) :
    wpAny M A (bexcArgs (.ref e)) Q E s := by
  obtain ⟨ot, k, hto, _, htd⟩ := ht
  unfold bexcArgs
  refine wpAny_bind (wpAny_field ho hd h0 (wpAny_bind (wpAny_seqItems hto htd ?_)))
  have : items.toArray.toList = items := by simp
  show wpAny M A (pure (Value.ref t0, items.toArray.toList)) Q E s
  rw [this]; exact wpAny_pure hq
theorem own_entry {Q : Fin → Shared → Prop} (ho : s.heap.get? e = some ox) (hd : ox.data = .fields vs) (h0 : vs[0]? = some (.ref t0)) (ht : s.heap.TupAt t0 [.str m tk]) (hq : Q (.done (.ret (.str m tk))) s) :
    wpAny (model prog w) A (Builtin.«BaseException.__str__» ⟨[.ref e], []⟩) Q E s := by
  unfold Builtin.«BaseException.__str__»
  repeat (first | with_reducible refine own_args ho hd h0 ht ?_ | wp_step)
  exact hq
theorem strOf_own (hu : A.units < cLine) (X : K.In s.heap) (ho : s.heap.get? e = some ox) (hc : ox.cls = .ref C) (hs : findIn K (.ref C) "__str__" = some (some (.builtin "BaseException.__str__"))) (hm : mroIn K C (.type "BaseException") = some true)
    (hd : ox.data = .fields vs) (h0 : vs[0]? = some (.ref t0)) (ht : s.heap.TupAt t0 [.str m tk]) (hq : Q (.str m tk) s) : wpAny (model prog w) A (PySem.Builtin.Str.strOf (.ref e)) Q E s := by
  have LT : Looks (model prog w) s.heap (typeOf (.ref e)) (.ref C) := hc ▸ (Looks.ld ho).andThen .now
  unfold PySem.Builtin.Str.strOf
  rw [show PySem.Builtin.Str.isExactStr (.ref e) = false from rfl]
  refine wpAny_bind (m := cRoomFor _ _) (wpAny_cRoomFor hu ?_)
  refine wpAny_bind (m := callSpecial? (.ref e) (Str.ofString "__str__")) (own_special X LT hs PySem.F.excStr_Exception.str.bind ?_)
  refine wpAny_call (codeAny_call_builtin PySem.F.excStr_Exception.str.plain F.entry_bexc_str (check_slot (i := "BaseException.__str__") (owner := "BaseException") (n := "__str__") (by decide +kernel) (by decide +kernel) (LT.andThen (looks_mroIn X hm)) (F.args_bexc_str _) ?_))
  refine own_entry ho hd h0 ht ?_
  show wpAny _ _ _ _ _ _
  repeat wp_step
  exact hq
theorem str_own (hu : A.units + 2 < cLine) (X : K.In s.heap) (ho : s.heap.get? e = some ox) (hc : ox.cls = .ref C) (hs : findIn K (.ref C) "__str__" = some (some (.builtin "BaseException.__str__"))) (hm : mroIn K C (.type "BaseException") = some true)
    (hd : ox.data = .fields vs) (h0 : vs[0]? = some (.ref t0)) (ht : s.heap.TupAt t0 [.str m tk]) (h : Q (.str m tk) s) :
    wpAny (model prog w) A (call (.type "str") [.ref e]) Q E s :=
  callType_new F.called_str (by decide) (F.typeCall_str_1 _) (F.newCall_str_1 _) (fun obj => F.args_object_init_2 obj _) F.entry_str_new
    (meets_str_new (S := fun A' R s' => A'.units + 1 < cLine ∧ K.In s'.heap ∧ s'.heap.get? e = some ox ∧ s'.heap.TupAt t0 [.str m tk] ∧ R (.ok (.ret (.str m tk))) s')
      fun _ _ A' _ _ hq => strOf_own (A := A'.in1) hq.1 hq.2.1 hq.2.2.1 hc hs hm hd h0 hq.2.2.2.1 hq.2.2.2.2)
    ⟨(show A.units + 1 + 1 < cLine from hu), X, ho, ht, typeIs_str _ _ _, h⟩
theorem str_got_own {h₀ : Heap} {L : Addr} {news : List (Addr × Obj)} {t : Addr} (N : News h₀ L s.heap news) (G : Got news e t (.ref C) [.str m tk]) (hu : A.units + 2 < cLine) (X : K.In s.heap)
    (hs : findIn K (.ref C) "__str__" = some (some (.builtin "BaseException.__str__"))) (hm : mroIn K C (.type "BaseException") = some true) (hq : Q (.str m tk) s) :
    wpAny (model prog w) A (call (.type "str") [.ref e]) Q E s := by
  obtain ⟨oe, ot, ws, nt, h1, h2, hc, hd, h0, htc, htd⟩ := G
  exact str_own hu X (N.get h1) hc hs hm hd h0 ⟨ot, nt, N.get h2, htc, htd⟩ hq
end
end

section
open PySem PySem.W PySem.Calls PyProof.Rows
set_option maxRecDepth 100000
set_option maxHeartbeats 8000000


theorem refused_tells {w : World} {mean : ExcName → Option Value} {mg mb : Str → Option Value} {k : Nat} {A : Around} {s : Shared} {Q E : Value → Shared → Prop} {x : Str} {c : Addr} {t1 : Tok} {g : Heap} {outer : List Env} (C : Cx w mean mg mb (k + 4) A s.heap)
    (B : Below A g outer s.heap) (XB : (hd.heap_39 w.params).In g) (TB : Top hd.view_39 (looseW hd.view_39 []) mean mg mb g) (KD : KtsDicts (framesOf outer) s.heap) (H : PFail x c)
    (ret : ∀ t h' tk', SlotsOf (framesOf outer) s.heap h' → Q (.str (preOf c ++ x) t) { s with heap := h', toks := tk' }) :
    wpAny (model PySem.Challenge.rw_xi0003_01.row.prog w) A (call (.ref 121) [.str x t1]) Q E s := by
  k_with_none
  k_with "eval Name" => ((k_here; k_dflt (refine' ld ?k1 ?k2 ?_; (case k1 => k_asm); (case k2 => assumption); k_whole)))
  k_with "loadName" => ((k_here; k_dflt (refine' ldn ?k1 ?k2 ?_; (case k1 => k_asm); (case k2 => assumption); k_whole)))
  obtain ⟨hd0, dp, fr, gd, un⟩ := A
  obtain rfl : hd0 = none := C.hand
  have X := C.X
  have T := C.T
  k_dflt (refine' enterF ?hX ?hlim ?ho ?hcd ?hr ?hbind ?hloc ?_ ?c2 ?c3 ?c4 ?c5; (case hX => assumption); (case hlim => exact Top.nolimit (by assumption)); (case ho => k_is); (case hcd => k_is); (case hr => exact Cx.depth (by assumption)); (case hbind => exact BindsTo.of_eq rfl); (case hloc => exact locs rfl); (case c2 => decide); (case c3 => exact rfl); (case c4 => exact rfl); (case c5 => exact rfl); k_whole)
  intro L h₁ tk₀ F eL
  try dsimp only
  k_fold
  have NN : News s.heap L h₁ [] := News.nil
  repeat' ((fail_if_success (with_reducible show wpAny _ _ (call (Value.ref _) _) _ _ _)); first | (k_unfold; (try dsimp only)) | (k_end; kc_close) | walk1 | (dsimp only; walk1) | (leave1; (try dsimp only)) | fail "no step")
  (rename Fr _ _ _ _ => F9)
  (rename News _ _ _ _ => N9)
  refine parse_raises (k := k + 1) (C.push F9) (B.push F9) H ?_
  intro e t h' tk' tx R U
  have hc : c = 63 ∨ c = 51 := by cases H <;> simp
  have hxl := H.len
  clear H
  rcases hc with rfl | rfl
  · repeat' ((fail_if_success (with_reducible show wpAny _ _ (call (Value.type "str") _) _ _ _)); first | (k_unfold; (try dsimp only)) | (k_end; kc_close) | walk1 | (dsimp only; walk1) | (leave1; (try dsimp only)) | fail "no step")
    (rename Fr _ _ _ _ => F8)
    (rename Got _ _ _ _ _ => G8)
    have hu9 := C.units
    refine' str_got_own (K := hd.heap_39 w.params) ?sN G8 ?su ?sX ?ss ?sm ?_
    case sN => assumption
    case su => simp only [Around.deeper_units, Around.mark_units] at hu9 ⊢; (first | exact omG37.2.1 hu9 | omega)
    case sX => exact Frag.In.keeps (by assumption) F8.keep
    case ss => k_is
    case sm => k_is
    repeat' ((fail_if_success (with_reducible show wpAny _ _ (binaryOp _ _ _) _ _ _)); first | (k_unfold; (try dsimp only)) | (k_end; kc_close) | walk1 | (dsimp only; walk1) | (leave1; (try dsimp only)) | fail "no step")
    refine PyProof.Rows.add_str (fun t' tk' => ?_) (Nat.le_trans (Nat.add_le_add_left hxl _) (by decide))
    k_steps
    (rename Fr _ _ _ _ => F7)
    (rename KtsTurn _ _ _ => T8)
    exact ret _ _ _ ⟨fun b o e nm => F7.keep _ _ (T8.other b o e nm), fun b o e hm => by
      obtain ⟨sl, hs⟩ := T8.frame b o e hm
      exact ⟨sl, F7.keep _ _ hs⟩⟩
  · repeat' ((fail_if_success (with_reducible show wpAny _ _ (call (Value.type "str") _) _ _ _)); first | (k_unfold; (try dsimp only)) | (k_end; kc_close) | walk1 | (dsimp only; walk1) | (leave1; (try dsimp only)) | fail "no step")
    (rename Fr _ _ _ _ => F8)
    (rename Got _ _ _ _ _ => G8)
    have hu9 := C.units
    refine' str_got_own (K := hd.heap_39 w.params) ?sN G8 ?su ?sX ?ss ?sm ?_
    case sN => assumption
    case su => simp only [Around.deeper_units, Around.mark_units] at hu9 ⊢; (first | exact omG37.2.1 hu9 | omega)
    case sX => exact Frag.In.keeps (by assumption) F8.keep
    case ss => k_is
    case sm => k_is
    repeat' ((fail_if_success (with_reducible show wpAny _ _ (binaryOp _ _ _) _ _ _)); first | (k_unfold; (try dsimp only)) | (k_end; kc_close) | walk1 | (dsimp only; walk1) | (leave1; (try dsimp only)) | fail "no step")
    refine PyProof.Rows.add_str (fun t' tk' => ?_) (Nat.le_trans (Nat.add_le_add_left hxl _) (by decide))
    k_steps
    (rename Fr _ _ _ _ => F7)
    (rename KtsTurn _ _ _ => T8)
    exact ret _ _ _ ⟨fun b o e nm => F7.keep _ _ (T8.other b o e nm), fun b o e hm => by
      obtain ⟨sl, hs⟩ := T8.frame b o e hm
      exact ⟨sl, F7.keep _ _ hs⟩⟩
end

section
open PySem PySem.W PySem.Calls PyProof.Rows
set_option maxRecDepth 100000
section
variable {M : Model} {A : Around} {E : Value → Shared → Prop} {s : Shared} {base h : Heap} {env : Env} {outer : List Env} {L e : Addr} {Q : Unit → Shared → Prop}
theorem noteFrame_firstW {oe : Obj} {vs : Array Value} {a0 : Value} (hfr : A.frames = some (env :: outer)) (hl : s.heap.FunFrames base (env :: outer)) (hf : env.frame = some L)
    (he : s.heap.get? e = some oe) (hkb : base.StaysIn s.heap) (hen : base.get? e = none) (hd : oe.data = .fields vs) (h1 : vs[1]? = some .none) (h0 : vs[0]? = some a0)
    (h : ∀ h', Heap.NotedW base (env :: outer) e oe.cls a0 (rawInt L) s.heap h' → Q () { s with heap := h' }) : wpAny M A (noteFrame (.ref e) env) Q E s := by
  unfold noteFrame
  simp only [hf]
  refine wpAny_bind (wpAny_field he hd h1 ?_)
  rw [if_neg (show ¬ ((Value.none != Value.none) = true) from by simp)]
  exact wpAny_entryW hfr hl hf he hkb hen hd (Array.getElem?_eq_some_iff.mp h1).1 h0 h
theorem note_made {cls : Value} {args : List Value} (hfr : A.frames = some (env :: outer)) (hf : env.frame = some L) (hkb : base.StaysIn h) (hl : h.FunFrames base (env :: outer)) (hx : Heap.MadeExcOf h s.heap e cls args)
    (hQ : ∀ h' t, Heap.HeldW base (env :: outer) e cls (.ref t) L h' → h'.TupAt t args → base.get? t = none → s.heap.UpToSlots h' → Q () { s with heap := h' }) : wpAny M A (noteFrame (.ref e) env) Q E s := by
  obtain ⟨t, he, htn, ht⟩ := hx.there
  have fresh : ∀ b, h.get? b = none → base.get? b = none := fun b hb => by
    cases hq : base.get? b with
    | none => rfl
    | some o' => have := hkb b o' hq; rw [hb] at this; cases this
  refine noteFrame_firstW (a0 := .ref t) hfr (hl.of_keeps fun b o hb _ => ⟨o, hx.keeps b o hb, rfl⟩) hf he (fun b o hb => hx.keeps b o (hkb b o hb)) (fresh e hx.new) rfl rfl rfl fun h' hN => ?_
  obtain ⟨k1, k2, k3, k4⟩ := hN
  exact hQ h' t ⟨k1, fresh e hx.new, k2, k3⟩ (Heap.TupAt.of_slots ⟨_, _, ht, rfl, rfl⟩ k4) (fresh t htn) k4
theorem setFlight_held {l : List Env} {cls a0 : Value} (R : Heap.HeldW base l e cls a0 L s.heap)
    (h : ∀ h', Heap.HeldW base l e cls a0 L h' → s.heap.UpToSlots h' → Q () { s with heap := h' }) : wpAny M A (setFlight (.ref e) (some L)) Q E s := by
  obtain ⟨hkb, hen, hl, oe, vs, T, oT, ts, he, hcls, hd, h1, hnT, hTe, hT, hdT, h3⟩ := R
  have hsz3 : 3 < ts.size := (Array.getElem?_eq_some_iff.mp h3).1
  have other : ∀ b, b ≠ T → (s.heap.update T (Obj.mapFields (·.setIfInBounds 3 ((some L).elim Value.none fun f => rawInt f)))).get? b = s.heap.get? b :=
    fun b hb => Heap.get?_update_other _ _ (Ne.symm hb)
  have noRecord : ∀ b o, s.heap.get? b = some o → (∀ vs, o.data ≠ .fields vs) → b ≠ T := fun b o hb hnf q => by
    rw [q, hT] at hb; injection hb with hb; subst hb; exact hnf ts hdT
  unfold setFlight
  refine wpAny_bind (wpAny_field he hd h1 ?_)
  rw [if_pos (show (Value.ref T != Value.none) = true from by simp)]
  refine wpAny_setField hT hdT hsz3 (h _ ⟨fun b o hbo => (other b fun q => by rw [q, hnT] at hbo; cases hbo).trans (hkb b o hbo), hen,
    hl.of_keeps fun b o hb hnf => ⟨o, (other b (noRecord b o hb hnf)).trans hb, rfl⟩, ?_⟩ fun b o hb hnf => ⟨o.slots, (other b (noRecord b o hb hnf)).trans hb⟩)
  exact ⟨oe, vs, T, _, _, (other e (Ne.symm hTe)).trans he, hcls, hd, h1, hnT, hTe, Heap.get?_update_self _ hT (Obj.isFreed_of_fields (Obj.data_mapFields hdT _)), Obj.data_mapFields hdT _, by simp [hsz3]⟩
theorem leaves_held {cls a0 : Value} (hf : env.frame = some L)
    (hh : Heap.HeldW base (env :: outer) e cls a0 L s.heap) (hQ : ∀ h', Heap.FlyingW base outer e cls a0 h' → s.heap.UpToSlots h' → Q () { s with heap := h' }) : wpAny M A (leaving env (.ref e)) Q E s := by
  unfold leaving
  refine wpAny_bind (wpAny_noteFrame_againW hf hh.2.2.2 ?_)
  refine wpAny_landsW hh fun h' hfl hU => ?_
  obtain ⟨k1, k2, ⟨_, _, k3⟩, k4⟩ := hfl
  exact hQ h' ⟨k1, k2, k3, k4⟩ hU
theorem came_held {cls a0 : Value} (hf : env.frame = some L) (hh : Heap.HeldW base (env :: outer) e cls a0 L s.heap)
    (hE : ∀ h', Heap.HeldW base (env :: outer) e cls a0 L h' → s.heap.UpToSlots h' → E (.ref e) { s with heap := h' }) : cameBackBy M A env E (.ref e) s := by
  unfold cameBackBy
  obtain ⟨oe, vs, T, oT, ts, he, hcls, hd, h1, r⟩ := hh.2.2.2
  refine wpAny_bind (wpAny_field he hd h1 ?_)
  rw [if_neg (show ¬ ((Value.ref T == Value.none) = true) from by simp)]
  rw [hf]
  exact setFlight_held hh hE
theorem back_held {cls a0 : Value} {Q : Flow → Shared → Prop} (hf : env.frame = some L) (hh : Heap.HeldW base (env :: outer) e cls a0 L s.heap)
    (hE : ∀ h', Heap.HeldW base (env :: outer) e cls a0 L h' → s.heap.UpToSlots h' → E (.ref e) { s with heap := h' }) :
    wpAny M A ((.raise (.ref e) : Sem Flow).onRaise fun (x : Value) => do
        if (← field x 1) == Value.none then unsupported "frame.own-activation:exception-without-traceback"
        setFlight x env.frame) Q E s := by
  refine wpAny_onRaise (wpAny_throw ?_)
  obtain ⟨oe, vs, T, oT, ts, he, hcls, hd, h1, r⟩ := hh.2.2.2
  refine wpAny_bind (wpAny_field he hd h1 ?_)
  rw [if_neg (show ¬ ((Value.ref T == Value.none) = true) from by simp)]
  rw [hf]
  exact setFlight_held hh hE
end
section
variable {M : Model} {A : Around} {R : GenEnd} {Y : Protocol} {n : Nat} {s₀ : Shared} {c c₁ : Code} {s : Shared} {env : Env} {outer : List Env} {L e a : Addr} {gB g h9 : Heap} {m : Str → Option Value} {cls : Value} {args : List Value} {go : Obj}
  {K : Flow → Sem Fin} {gd : Bool → Bool} {lv : List Value → List Value} {p : Pos} {kp : List Value}
theorem tail_raise {gb : Bool} {ll : List Value} (hk : env.scope.kind = .function) (hf : env.frame = some L)
    (hfr1 : (A.over c [.ret (backK env K (fun e => (leaving env e).wrap (fun _ => .raise e) .raise id id) gd lv) none gb ll c₁ p kp]).frames = some (env :: outer)) (hfr2 : (A.over c₁ []).frames = some (env :: outer))
    (hB : gB.StaysIn g) (hFF : g.FunFrames gB outer) (hLnew : g.get? L = none) (hst9 : g.StaysIn h9) (hns : h9.Ns L m) (hX : Heap.MadeExcOf h9 s.heap e cls args) (hga : h9.get? a = some go) (haL : a ≠ L) (ha0 : g.get? a = none)
    (hR : ∀ h12 t, RaisedS gB g outer e cls t args [] h12 → s.heap.UpToSlots h12 → h12.get? a = some go → (∃ ob, h12.get? e = some ob ∧ ob.cls = cls) → R n s₀ (.error (.ref e)) { s with heap := h12 }) :
    Seg M A R Y n s₀ c (turnH env (.ref e)) [.ret (backK env K (fun e => (leaving env e).wrap (fun _ => .raise e) .raise id id) gd lv) none gb ll c₁ p kp] s := by
  have hgL : gB.get? L = none := by
    cases q : gB.get? L with
    | none => rfl
    | some o => have := hB L o q; rw [hLnew] at this; cases this
  have KF := Heap.FunFrames.cons (env := env) (by rw [hk]; decide) hf hns hgL (hFF.of_keeps fun b o e _ => ⟨o, hst9 b o e, rfl⟩)
  have mem : ∀ b, b ∈ (env :: outer).filterMap (·.frame) → b = L ∨ b ∈ outer.filterMap (·.frame) := fun b hm => by
    obtain ⟨env', he, hf'⟩ := List.mem_filterMap.mp hm
    rcases List.mem_cons.mp he with rfl | he
    · rw [hf] at hf'; exact .inl (Option.some.inj hf').symm
    · exact .inr (List.mem_filterMap.mpr ⟨env', he, hf'⟩)
  have hin : ∀ env' ∈ (env :: outer), ∀ b, env'.frame = some b → b ∈ (env :: outer).filterMap (·.frame) := fun env he b hb => List.mem_filterMap.mpr ⟨env, he, hb⟩
  have st : gB.StaysIn (hideAll h9 ((env :: outer).filterMap (·.frame))) := fun b o q => hideAll_get _ (hst9 b o (hB b o q)) fun hm => by
    rw [(KF.mem hm).1] at q; cases q
  have sg : ∀ b o, g.get? b = some o → b ∉ outer.filterMap (·.frame) → (hideAll h9 ((env :: outer).filterMap (·.frame))).get? b = some o := fun b o q nm => hideAll_get _ (hst9 b o q) fun hm => by
    rcases mem b hm with z | z
    · rw [z, hLnew] at q; cases q
    · exact nm z
  have sgo : (hideAll h9 ((env :: outer).filterMap (·.frame))).get? a = some go := hideAll_get _ hga fun hm => by
    rcases mem a hm with z | z
    · exact haL z
    · obtain ⟨_, o, ho, _⟩ := hFF.mem z
      rw [ha0] at ho; cases ho
  refine seg_wrap (wpAny_bind ?_)
  refine note_made (base := hideAll h9 ((env :: outer).filterMap (·.frame))) hfr1 hf (fun b o q => of_hideAll _ q) (funFrames_hide KF hin) hX ?_
  intro h10 t hH htup htn hU
  refine wpAny_theTreesLotGoes ?_
  show Seg _ _ _ _ _ _ _ (leafOf (.error (.ref e))) _ _
  refine seg_leaf (.error (.ref e)) ?_
  refine seg_wrap (back_held hf hH ?_)
  intro h11 hH2 hU2
  refine seg_wrap (leaves_held hf hH2 ?_)
  intro h12 hF12 hU3
  show Seg _ _ _ _ _ _ _ (leafOf (.error (.ref e))) _ _
  refine seg_end (.error (.ref e)) (hR h12 t ⟨⟨_, st, sg, fun _ h => (nomatch h), hF12, htn⟩, (htup.of_slots hU2).of_slots hU3⟩ ((hU.trans hU2).trans hU3) (hF12.1 _ _ sgo) hF12.there)
end
end

section
open PySem PySem.W PySem.Calls PyProof.Rows
set_option maxRecDepth 100000
theorem sub_ve_stop : isSubtype (.type "ValueError") (.type "StopIteration") = pure false := by rw [isSubtype_type]; kernel_rfl
section
variable {prog : Program} {w : World} {A : Around} {E : Value → Shared → Prop} {s : Shared}
theorem genLeft_ve {a e : Addr} {go : Obj} {Q : Fin → Shared → Prop} (hgo : s.heap.get? a = some go) (ht : s.TypeIs (.ref e) "ValueError") (hE : E (.ref e) s) :
    wpAny (model prog w) A (Builtin.Generator.genLeft (.ref a) (.ref e)) Q E s := by
  unfold Builtin.Generator.genLeft Builtin.Generator.madeByALambda
  refine wpAny_bind (wpAny_bind (wpAny_load hgo (wpAny_pure ?_)))
  refine wpAny_bind (wpAny_isInstance (T := "ValueError") (b := false) ht sub_ve_stop ?_)
  rw [Bool.and_false]
  unfold Builtin.Generator.genEscaped
  refine wpAny_bind (wpAny_isInstance (T := "ValueError") (b := false) ht sub_ve_stop ?_)
  exact wpAny_throw hE
/-- one pull at a generator of the text's, that raises -/
theorem pull_raises {a : Addr} {g n : Nat} {gs : GenState} {P : Addr → Shared → Shared → Prop} {Q : Option Value → Shared → Prop} (hl : s.heap.NoLimit) (hroom : A.depth < recursionLimit)
    (hg : s.heap.IsGen a g) (hgs : s.gens[g]? = some gs)
    (hgo : gs.Goes (model prog w) A.in1 (fun _ s₀ r s₁ => ∃ e, r = .error (.ref e) ∧ s₁.TypeIs (.ref e) "ValueError" ∧ (∃ go, s₁.heap.get? a = some go) ∧ P e s₀ s₁) (fun _ _ _ _ _ => False) n (.send .none) (s.setGen g .running))
    (hE : ∀ e s₁, P e (s.setGen g .running) s₁ → E (.ref e) (s₁.setGen g .finished)) :
    wpAny (model prog w) A (pyNext (.ref a)) Q E s := by
  have wake : wpAny (model prog w) A.in1 (Builtin.Generator.genWake (.ref a) (.send .none)) (fun _ _ => False)
      (fun e s' => ∃ b, e = .ref b ∧ s'.TypeIs (.ref b) "ValueError" ∧ E (.ref b) s') s := by
    unfold Builtin.Generator.genWake
    refine wpAny_bind (wpAny_holding (wpAny_genNumber hg (wpAny_bind (wpAny_genState hgs ?_))))
    have go : wpAny (model prog w) A.in1 (Sem.resume g (.send .none) [] fun r => match r with
        | .yielded v => ret v
        | .returned v => (do
          if v == .none then raiseNew (← newExc (.type "StopIteration") [])
          rule "generator.return-value"; throw (← newExc (.type "StopIteration") [v]) : Sem Fin)
        | .raised e => Builtin.Generator.genLeft (.ref a) e
        | .running => (do rule "generator.already-executing"; raiseError "ValueError" "generator already executing" : Sem Fin)
        | .justStarted => (do rule "generator.send-to-fresh"; raiseError "TypeError" "can't send non-None value to a just-started generator" : Sem Fin)
        | .finished => (do raiseNew (← newExc (.type "StopIteration") []) : Sem Fin))
        (fun _ _ => False) (fun e s' => ∃ b, e = .ref b ∧ s'.TypeIs (.ref b) "ValueError" ∧ E (.ref b) s') s := by
      refine wpAny_resumeQ hgs hgo (fun x s₁ hx => ?_) (fun v s₁ gs' hb hv => hv.elim)
      obtain ⟨e, rfl, ht, ⟨go, hgo⟩, hp⟩ := hx
      show wpAny _ _ (Builtin.Generator.genLeft (.ref a) (.ref e)) _ _ _
      exact genLeft_ve (s := s₁.setGen g .finished) hgo ht ⟨e, rfl, ht, hE e s₁ hp⟩
    cases gs with
    | running => exact hgo.elim
    | finished => exact hgo.elim
    | fresh c => exact wpAny_bind (wpAny_roomToWake hl hroom go)
    | suspended k₀ l₀ c₀ p₀ fs₀ cl => exact wpAny_bind (wpAny_roomToWake hl hroom go)
  unfold pyNext
  refine wpAny_bind (wpAny_attempt (wpAny_callSpecial?_slot (name := Str.ofString "__next__") hg.typeIs slot_gen_next
    (wpAny_call_entry slot_gen_next hg.typeIs entry_gen_next ?_ (args_gen_next _))))
  show wpAny _ _ (Builtin.Generator.genWake (.ref a) (.send .none)) _ _ s
  refine wpAny_mono wake (fun _ _ h => h.elim) (fun e s' h => ?_)
  obtain ⟨b, rfl, ht, hq⟩ := h
  refine wpAny_bind (wpAny_isInstance (T := "ValueError") (b := false) ht sub_ve_stop ?_)
  exact wpAny_throw hq
end
end

section
open PySem PySem.W PySem.Calls PyProof.Rows
set_option maxRecDepth 100000
set_option maxHeartbeats 8000000

theorem bad_call {w : World} {mean : ExcName → Option Value} {mg mb : Str → Option Value} {k : Nat} {A : Around} {s : Shared} {Q E : Value → Shared → Prop} {l : Addr} {lo : Obj} {gB : Heap} {outer : List Env} {v1 : Value} {t0 : Tok} {eL0 : Nat} (C : Cx w mean mg mb k A s.heap)
    (B : Below A gB outer s.heap)
    (hl : s.heap.get? l = some lo) (hlo : lo.cls = .type "list" ∧ lo.data = .seq #[.int 0 t0, v1] eL0)
    (ret : ∀ a h' tk' gs, s.heap.StaysIn h' → gs.bare = true → h'.IsGen a s.gens.size →
      (∀ (Q : Option Value → Shared → Prop) (E : Value → Shared → Prop) (tk : Nat), (∀ e t h2 tk2 tx, RaisedS gB s.heap outer e (.type "ValueError") t [.str (Str.ofString "invalid grouping") tx] [] h2 → s.heap.UpToSlots h2 →
          E (.ref e) { s with gens := (s.gens.push gs).setIfInBounds s.gens.size .running |>.setIfInBounds s.gens.size .finished, heap := h2, toks := tk2 }) →
        wpAny (model PySem.Challenge.rw_xi0003_01.row.prog w) A (pyNext (.ref a)) Q E { s with gens := s.gens.push gs, heap := h', toks := tk }) → Q (.ref a) { s with gens := s.gens.push gs, toks := tk', heap := h' }) :
    wpAny (model PySem.Challenge.rw_xi0003_01.row.prog w) A (call (.ref 79) [.ref l]) Q E s := by
  k_with_none
  k_with "eval Name" => ((k_here; k_dflt (refine' ld ?k1 ?k2 ?_; (case k1 => k_asm); (case k2 => assumption); k_whole)))
  obtain ⟨hd0, dp, fr, gd, un⟩ := A
  obtain rfl : hd0 = none := C.hand
  obtain rfl : fr = some outer := B.stack
  have X := C.X
  have T := C.T
  k_dflt (refine' enterG X T.nolimit ?ho ?hcd ?hr ?hbind ?hloc ?_ ?c2 ?c3 ?c4 ?c5; (case ho => k_is); (case hcd => k_is); (case hr => exact C.depth); (case hbind => exact BindsTo.of_eq rfl); (case hloc => exact locs rfl); (case c2 => decide); (case c3 => exact rfl); (case c4 => exact rfl); (case c5 => exact rfl); k_whole)
  intro L h₁ tk go F eL hcls hgen hnone
  refine ex3 F.ns ?_
  rintro oL esL epL xq1
  refine an4 xq1 ?_
  clear xq1
  rintro hoL hdL hkL hfL
  have hLnew : s.heap.get? L = none := Heap.get?_none_of_le (by (first | exact omG18.2.2.2.2.2.2.2.1 eL | omega))
  have hLa : @LT.lt Nat _ L h₁.objs.size := Heap.lt_size hoL
  have hlL : @LT.lt Nat _ l L := Nat.lt_of_lt_of_eq (Heap.lt_size hl) eL
  have hgo : (h₁.push go).get? h₁.objs.size = some go := Heap.get?_push_size _ hcls
  have hst : s.heap.StaysIn (h₁.push go) := fun b o' e => Heap.get?_push_of_some _ (F.keep b o' e)
  have hLat : (h₁.push go).get? L = some oL := Heap.get?_push_of_some _ hoL
  generalize h₁.objs.size = a at *
  generalize h₁.push go = hp at *
  refine ret a hp _ _ hst rfl hgen ?_
  intro Q E tk2 hE
  have T1 := T.keeps hst
  have X1 := X.keeps hst
  refine pull_raises (g := s.gens.size) (n := 0) (P := fun e s₀ s₁ => ∃ t h2 tk2 tx, s₁ = { s₀ with heap := h2, toks := tk2 } ∧ RaisedS gB s.heap outer e (.type "ValueError") t [.str (Str.ofString "invalid grouping") tx] [] h2 ∧ s.heap.UpToSlots h2) T1.nolimit C.depth hgen (Array.getElem?_push_size ..) ?_ ?_
  · refine ⟨rfl, seg_func ?_⟩
    have F1 : Fr (cut hp L) L hp _ := ⟨⟨oL, esL, epL, hLat, hdL, hkL, hfL⟩, fun b o e => (of_cut e).2, cut_size⟩
    have N1 : News (cut hp L) L hp [(a, go)] := fun q hq => by
      rcases List.mem_singleton.mp hq with rfl
      exact ⟨hgo, Nat.ne_of_gt hLa, cut_none (Nat.le_of_lt hLa)⟩
    refine seg_stmt ?_
    k_fold
    k_steps
    refine seg_execs_cons (seg_For (hs := fun _ => rfl) ?_)
    k_dflt (refine' ld ?q1 ?q2 ?_; (case q1 => k_asm); (case q2 => exact rfl))
    (rename Fr _ _ _ _ => F2)
    (rename News _ _ _ _ => N2)
    have hlc : (cut hp L).get? l = some lo := (cut_get hlL).trans (hst _ _ hl)
    refine wpAny_pyIter_list ⟨lo, F2.keep _ _ hlc, hlo.1, eL0, hlo.2⟩ ?_
    intro p
    (rename Heap => hA)
    have hItL : @LT.lt Nat _ L hA.objs.size := F2.ns.lt
    have hIta : hA.objs.size ≠ a := Nat.ne_of_gt (Heap.lt_size (N2 _ (.head _)).1)
    have F3 := F2.push { cls := .type "list_iterator", data := .fields #[.ref l, .int 0 0] }
    have N3 := News.push F2 N2 { cls := .type "list_iterator", data := .fields #[.ref l, .int 0 0] }
    generalize hA.objs.size = It at *
    generalize hA.push { cls := .type "list_iterator", data := .fields #[.ref l, .int 0 0] } = hB at *
    clear F2 N2
    refine seg_forLoop (ht := fun _ => rfl) ?_
    refine wpAny_pyNext_list_item (x := .int 0 t0) ⟨_, (N3 _ (.head _)).1, rfl, rfl⟩ ⟨lo, F3.keep _ _ hlc, hlo.1, eL0, hlo.2⟩ rfl ?_
    intro h5 ⟨oJ, hJ, hcJ, hdJ⟩ hS5
    have F5 := fr_ext F3 hS5.extBut (Nat.ne_of_gt hItL) (cut_none (Nat.le_of_lt hItL))
    have N5 : News (cut hp L) L h5 [(It, oJ), (a, go)] := fun q hq => by
      rcases List.mem_cons.mp hq with rfl | hq
      · exact ⟨hJ, (N3 _ (.head _)).2⟩
      · rcases List.mem_singleton.mp hq with rfl
        exact ⟨hS5.extBut _ _ (Ne.symm hIta) (N3 _ (.tail _ (.head _))).1, (N3 _ (.tail _ (.head _))).2⟩
    clear F3 N3
    have hstc : s.heap.StaysIn (cut hp L) := fun b o e => (cut_get (Nat.lt_of_lt_of_eq (Heap.lt_size e) eL)).trans (hst b o e)
    have X2 := X.keeps hstc
    have T2 := T.keeps hstc
    clear X T X1 T1
    dsimp only
    show wpAny _ _ _ _ _ _
    k_fold
    k_steps
    refine seg_stmt ?_
    k_fold
    k_steps
    refine seg_execs_cons (seg_If ?_)
    show wpAny _ _ _ _ _ _
    k_fold
    k_steps
    refine seg_stmt ?_
    show wpAny _ _ _ _ _ _
    k_fold
    repeat' ((fail_if_success (with_reducible show wpAny _ _ (exec (Stmt.Raise _ _ _) _) _ _ _)); first | (k_unfold; (try dsimp only)) | (k_end; kc_close) | walk1 | (dsimp only; walk1) | (leave1; (try dsimp only)) | fail "no step")
    with_unfolding_all refine Raise_madeB PySem.F.excCall_ValueError PySem.F.excRaise_ValueError rfl (tp_builtin (v := .type "ValueError") (by assumption) (by assumption) PyProof.Rows.Boot.«ValueError» ⟨rfl, ?_⟩)
    k_steps
    show Seg _ _ _ _ _ _ _ (turnH _ _) _ _
    (rename Heap.MadeExc _ _ _ _ _ => hX)
    (rename Fr _ _ _ _ => F9)
    (rename News _ _ _ _ => N9)
    refine tail_raise (outer := outer) (L := L) (gB := gB) (g := s.heap) rfl rfl rfl rfl B.stays B.frames hLnew (fun b o e => F9.keep b o (hstc b o e)) F9.ns (Heap.MadeExc.of hX) (N9 _ (.tail _ (.head _))).1 (N9 _ (.tail _ (.head _))).2.1 (Heap.get?_none_of_le (by (first | exact omG37.2.2.1 eL hLa | omega))) ?_
    intro h12 t hR hU hga hth
    refine ex1 hth ?_
    clear hth
    rintro ob xq2
    refine an2 xq2 ?_
    clear xq2
    rintro h1 h2
    refine xi1 _ ⟨rfl, ⟨ob, h1, h2⟩, ⟨go, hga⟩, xi4 t h12 _ _ ⟨rfl, hR, ?_⟩⟩
    exact (Heap.UpToSlots.of_keeps fun b o e => F9.keep b o (hstc b o e)).trans ((Heap.UpToSlots.of_keeps hX.keeps).trans hU)
  · rintro e s₁ xr6
    refine ex4 xr6 ?_
    clear xr6
    rintro t h2 tk3 tx xq3
    refine an3 xq3 ?_
    clear xq3
    rintro rfl hR hU
    exact hE e t h2 tk3 tx hR hU
end

section
open PySem PySem.W PySem.Calls PyProof.Rows
set_option maxRecDepth 100000
set_option maxHeartbeats 8000000


theorem bad_tells {w : World} {mean : ExcName → Option Value} {mg mb : Str → Option Value} {k : Nat} {A : Around} {s : Shared} {Q E : Value → Shared → Prop} {base : Int} {t1 : Tok} {g : Heap} {outer : List Env} (C : Cx w mean mg mb (k + 6) A s.heap)
    (B : Below A g outer s.heap) (XB : (hd.heap_39 w.params).In g) (TB : Top hd.view_39 (looseW hd.view_39 []) mean mg mb g) (KD : KtsDicts (framesOf outer) s.heap) (h1 : 2 ≤ base) (h2 : base < 2 ^ 16)
    (ret : ∀ t h' tk' gens', SlotsOf (framesOf outer) s.heap h' → (AllBare s.gens → AllBare gens') → Q (.str (Str.ofString "invalid grouping") t) { s with heap := h', toks := tk', gens := gens' }) :
    wpAny (model PySem.Challenge.rw_xi0003_01.row.prog w) A (call (.ref 100) [.int base t1]) Q E s := by
  k_with_none
  k_with "om" => (with_reducible (first | assumption | exact nnA (by assumption) | exact nnB (by assumption) | exact nnC (by assumption) (by assumption) | exact nnD (by assumption) | exact nnE (by assumption) | exact omG21.2.2.2.1 (by assumption) (by assumption) | exact omG21.2.2.1 (by assumption) (by assumption) | exact omG30.2.2.2.2.1 (by assumption) (by assumption)))
  k_with "eval Name" => ((k_here; k_dflt (refine' ld ?k1 ?k2 ?_; (case k1 => k_asm); (case k2 => assumption); k_whole)))
  k_with "loadName" => ((k_here; k_dflt (refine' ldn ?k1 ?k2 ?_; (case k1 => k_asm); (case k2 => assumption); k_whole)))
  obtain ⟨hd0, dp, fr, gd, un⟩ := A
  obtain rfl : hd0 = none := C.hand
  have X := C.X
  have T := C.T
  k_dflt (refine' enterF ?hX ?hlim ?ho ?hcd ?hr ?hbind ?hloc ?_ ?c2 ?c3 ?c4 ?c5; (case hX => assumption); (case hlim => exact Top.nolimit (by assumption)); (case ho => k_is); (case hcd => k_is); (case hr => exact Cx.depth (by assumption)); (case hbind => exact BindsTo.of_eq rfl); (case hloc => exact locs rfl); (case c2 => decide); (case c3 => exact rfl); (case c4 => exact rfl); (case c5 => exact rfl); k_whole)
  intro L h₁ tk₀ F eL
  try dsimp only
  k_fold
  have NN : News s.heap L h₁ [] := News.nil
  repeat' ((fail_if_success (with_reducible show wpAny _ _ (exec (Stmt.For _ _ _ _ _) _) _ _ _)); first | (k_unfold; (try dsimp only)) | (k_end; kc_close) | walk1 | (dsimp only; walk1) | (leave1; (try dsimp only)) | fail "no step")
  refine wpAny_For ?_
  show wpAny _ _ _ _ _ _
  k_fold
  repeat' ((fail_if_success (with_reducible show wpAny _ _ (call (Value.ref _) _) _ _ _)); first | (k_unfold; (try dsimp only)) | (k_end; kc_close) | walk1 | (dsimp only; walk1) | (leave1; (try dsimp only)) | fail "no step")
  (rename Fr _ _ _ _ => F9)
  (rename News _ _ _ _ => N9)
  refine bad_call (C.push F9) (B.push F9) (N9 _ (.head _)).1 ⟨rfl, rfl⟩ ?_
  intro a h' tk' gs hst hbare hgen hpull
  try dsimp only
  refine wpAny_pyIter_gen hgen ?_
  refine codeAny_forLoop (fun n s1 => s1 = _) ?_ 0 rfl
  rintro n s1 rfl
  refine hpull _ _ _ ?_
  intro e t h2 tk2 tx R U
  show wpAny _ _ _ _ _ _
  refine an2 R ?_
  clear R
  intro R htup
  refine ex1 R ?_
  clear R
  intro Bx R
  refine an5 R ?_
  clear R
  intro hB hBG hl hfl hnew
  refine wpAny_looks_onW (Around.frames_deeper B.stack) rfl hfl fun h4 hheld4 hsm4 => ?_
  refine came_held rfl hheld4 fun h5 hheld5 hsm5 => ?_
  show wpAny _ _ _ _ _ _
  refine wpAny_noteFrame_againW rfl hheld5.2.2.2 ?_
  refine wpAny_landsW hheld5 fun h7 hfl7 hsm7 => ?_
  have hsm := (hsm4.trans hsm5).trans hsm7
  have R7 : RaisedS _ _ _ _ _ _ _ [] h7 := ⟨⟨Bx, hB, hBG, hl, hfl7, hnew⟩, htup.of_slots hsm⟩
  have U7 := U.trans hsm
  clear hfl hheld4 hheld5 hfl7 htup hsm hsm4 hsm5 hsm7 U
  have hgg : AllBare s.gens → AllBare (((s.gens.push gs).setIfInBounds s.gens.size .running).setIfInBounds s.gens.size .finished) := fun hBg => bare_set (bare_set (hBg.push hbare) rfl) rfl
  try dsimp only at R7 U7 ⊢
  repeat' ((fail_if_success (with_reducible show wpAny _ _ (call (Value.type "str") _) _ _ _)); first | (k_unfold; (try dsimp only)) | (k_end; kc_close) | walk1 | (dsimp only; walk1) | (leave1; (try dsimp only)) | fail "no step")
  (rename Got _ _ _ _ _ => G8)
  have hu9 := C.units
  refine' str_got_one PySem.F.excStr_ValueError ?sN G8 ?su ?_
  case sN => assumption
  case su => simp only [Around.deeper_units, Around.mark_units] at hu9 ⊢; (first | exact omG37.2.2.2.1 hu9 | omega)
  k_steps
  (rename Fr _ _ _ _ => F7)
  (rename KtsTurn _ _ _ => T8)
  exact ret _ _ _ _ ⟨fun b o e nm => F7.keep _ _ (T8.other b o e nm), fun b o e hm => by
    obtain ⟨sl, hs⟩ := T8.frame b o e hm
    exact ⟨sl, F7.keep _ _ hs⟩⟩ hgg
end

section
open PySem PySem.W PySem.Calls PyProof.Rows PySem.Builtin.Str
set_option maxRecDepth 100000
/-- what a text between brackets tells -/
structure Paren (y : Str) (H0 Bd en : List Nat) : Prop where
  eq : cl y = H0 ++ 40 :: (Bd ++ 41 :: en)
  h229 : ∃ R, H0 = 50 :: 50 :: 57 :: R
  n40 : 40 ∉ H0
  n41 : 41 ∉ Bd
  len : H0.length + Bd.length + en.length ≤ 70
theorem s229 {y : Str} {R : List Nat} (h : cl y = 50 :: 50 :: 57 :: R) : Txt.slice y none (some 3) = Str.ofString "229" := slice_upto (p := [50, 50, 57]) (r := R) (j := 3) h rfl
section
variable {y : Str} {H0 Bd en : List Nat}
theorem Paren.hl (P : Paren y H0 Bd en) : y.length ≤ 80 := by rw [cl_len, P.eq]; have := P.len; simp; (first | exact omG33.2.2.2.2.2.2.2.2.2.2.1 this | omega)
theorem Paren.find (P : Paren y H0 Bd en) : Txt.find y (Str.ofString "(") = (H0.length : Int) := find_first P.eq P.n40
theorem Paren.find3 (P : Paren y H0 Bd en) : Txt.find3 y (Str.ofString ")") ((H0.length : Int) + 1) = ((H0.length + 1 + Bd.length : Nat) : Int) := by
  have := find3_first (x := y) (c := 41) (p1 := H0 ++ [40]) (p2 := Bd) (post := en) (i := (H0.length : Int) + 1) (by rw [P.eq]; simp) P.n41 (by simp)
  rw [show Str.ofString ")" = ⟨#[41]⟩ from rfl]
  simpa using this
theorem Paren.rl (P : Paren y H0 Bd en) : ((H0.length + 1 + Bd.length : Nat) : Int) < y.length := by rw [cl_len, P.eq]; simp; (first | exact omG33.2.2.2.2.2.2.2.2.2.2.2 | omega)
theorem Paren.s3 (P : Paren y H0 Bd en) : Txt.slice y none (some 3) = Str.ofString "229" := by
  obtain ⟨R, hR⟩ := P.h229
  exact s229 (R := R ++ 40 :: (Bd ++ 41 :: en)) (by rw [P.eq, hR]; rfl)
theorem Paren.i1 (P : Paren y H0 Bd en) {c : Nat} {B1 : List Nat} (h : Bd = c :: B1) : Txt.item y ((H0.length : Int) + 1) = ⟨#[c]⟩ := item_at (p := H0 ++ [40]) (post := B1 ++ 41 :: en) (by rw [P.eq, h]; simp) (by simp)
theorem Paren.i2 (P : Paren y H0 Bd en) {d : Nat} {B2 : List Nat} (h : Bd = B2 ++ [d]) : Txt.item y (((H0.length + 1 + Bd.length : Nat) : Int) - 1) = ⟨#[d]⟩ := item_at (p := H0 ++ 40 :: B2) (post := 41 :: en) (by rw [P.eq, h]; simp) (by rw [h]; simp; (first | exact omG34.1 | omega))
theorem pf_ends (P : Paren y H0 Bd en) {c d : Nat} {B1 B2 : List Nat} (h1 : Bd = c :: B1) (h2 : Bd = B2 ++ [d]) (hne : c ≠ d) : PFail y 63 :=
  .ends P.hl P.s3 P.find (by (first | exact omG3.2.2.2.2.2.2.2.2.2.1 | omega)) P.find3 (by rw [h1]; simp; (first | exact omG34.2.1 | omega)) P.rl (by
    rw [P.i1 h1, P.i2 h2]
    intro e
    injection e with e
    simp at e
    exact hne e)
theorem pf_parts (P : Paren y H0 Bd en) {m : Nat} {B1 B2 : List Nat} (h1 : Bd = m :: B1) (h2 : Bd = B2 ++ [m]) {ps : List Str} (hps : ps ≠ []) (hm : ∀ q ∈ ps, m ∉ cl q) (hj : Bd = cl (Str.join ⟨#[m]⟩ ps)) (h5 : ps.length ≠ 5) (hpl : ps.length ≤ 80) : PFail y 63 :=
  .parts (m := ⟨#[m]⟩) (body := ⟨Bd.toArray⟩) (ps := ps) P.hl P.s3 P.find (by (first | exact omG3.2.2.2.2.2.2.2.2.2.1 | omega)) P.find3 (by rw [h1]; simp; (first | exact omG34.2.1 | omega)) P.rl (P.i1 h1) (P.i2 h2)
    (slice_mid (p := H0 ++ [40]) (q := Bd) (r := 41 :: en) (by rw [P.eq]; simp) (by simp) (by simp))
    (by have := P.len; show Bd.toArray.size ≤ 80; rw [List.size_toArray]; (first | exact omG34.2.2.1 this | omega)) (split_of_join hps hm hj) h5 hpl rfl
end
theorem occ_of_find {x y : Str} {i : Nat} (h : Txt.find x y = (i : Int)) : occurrences x y 0 x.length 1 = [i] := by
  have hl := StrLaws.occ_length_le x y 0 x.length 1
  unfold Txt.find at h
  generalize occurrences x y 0 x.length 1 = o at *
  match o, h, hl with
  | [], h, _ => simp at h
  | [j], h, _ =>
    have e : (j : Int) = i := h
    rw [show j = i by (first | exact omG34.2.2.2.1 e | omega)]
  | _ :: _ :: _, _, hl => simp at hl
theorem find_two {x : Str} {a b : Nat} {p post : List Nat} (h : cl x = p ++ a :: b :: post) (hn : ∀ k, k < p.length → (cl x)[k]? = some a → (cl x)[k + 1]? ≠ some b) : Txt.find x ⟨#[a, b]⟩ = (p.length : Int) := by
  have at_iff : ∀ k, StrLaws.At x ⟨#[a, b]⟩ x.length k ↔ (cl x)[k]? = some a ∧ (cl x)[k + 1]? = some b := by
    intro k
    have es : (x.cps.extract k (k + 2)).toList = ((cl x).drop k).take 2 := by simp [Array.toList_extract, List.extract]
    constructor
    · rintro ⟨h1, h2⟩
      have e : ((cl x).drop k).take 2 = [a, b] := by
        rw [← es, show x.cps.extract k (k + 2) = #[a, b] from beq_iff_eq.mp h2]
      constructor
      · have := congrArg (·[0]?) e
        simpa [List.getElem?_take, List.getElem?_drop] using this
      · have := congrArg (·[1]?) e
        simpa [List.getElem?_take, List.getElem?_drop] using this
    · rintro ⟨h1, h2⟩
      have hk : k + 1 < (cl x).length := (List.getElem?_eq_some_iff.mp h2).1
      refine ⟨by have := cl_len x; show k + 2 ≤ x.length; (first | exact omG34.2.2.2.2.1 hk this | omega), beq_iff_eq.mpr (Array.toList_inj.mp ?_)⟩
      show (x.cps.extract k (k + 2)).toList = [a, b]
      rw [es]
      apply List.ext_getElem?
      intro j
      match j with
      | 0 => simpa [List.getElem?_take, List.getElem?_drop] using h1
      | 1 => simpa [List.getElem?_take, List.getElem?_drop] using h2
      | j + 2 => simp [List.getElem?_take]; (first | exact omG34.2.2.2.2.2.1 | omega)
  rcases StrLaws.occ_head x ⟨#[a, b]⟩ 1 (Nat.le_refl _) with ⟨_, h0⟩ | ⟨i, r, h1, h2, h3⟩
  · exact absurd ((at_iff p.length).mpr ⟨by rw [h]; simp, by rw [h, List.getElem?_append_right (by (first | exact omG34.2.2.2.2.2.2.1 | omega))]; simp⟩) (h0 _)
  · have : i = p.length := by
      rcases Nat.lt_trichotomy i p.length with hlt | he | hgt
      · have := (at_iff i).mp h2; exact absurd this.2 (hn i hlt this.1)
      · exact he
      · exact absurd ((at_iff p.length).mpr ⟨by rw [h]; simp, by rw [h, List.getElem?_append_right (by (first | exact omG34.2.2.2.2.2.2.1 | omega))]; simp⟩) (h3 _ hgt)
    unfold Txt.find
    rw [h1, this]
theorem glued_one {x z : Str} {i : Nat} {c : Nat} {p post : List Nat} (h : cl x = p ++ c :: post) (hi : i = p.length) : cl (glued z (partsBetween x [i] 1)) = p ++ cl z ++ post := by
  have hl : x.cps.size = p.length + 1 + post.length := by rw [← Array.length_toList]; show (cl x).length = _; rw [h]; simp; (first | exact omG34.2.2.2.2.2.2.2.1 | omega)
  subst hi
  show (((x.cps.extract 0 p.length) ++ z.cps) ++ (x.cps.extract (p.length + 1) x.cps.size)).toList = _
  rw [Array.toList_append, Array.toList_append, Array.toList_extract, Array.toList_extract]
  show (cl x).extract 0 p.length ++ cl z ++ (cl x).extract (p.length + 1) x.cps.size = _
  simp only [List.extract, h, hl]
  simp
/-- the codes of a reply, more -/
structure More (x : Str) (H0 : List Nat) (m : Nat) (f0 f1 num en : List Nat) : Prop where
  f40 : 40 ∉ f0 ∨ f0 = [40]
  g40 : 40 ∉ f1
  num40 : 40 ∉ num
  en40 : 40 ∉ en
  m35 : m ≠ 35
  small : ∀ c ∈ cl x, c < 1114112
  small2 : m < 1114112
theorem strOk_of {x : Str} (h : ∀ c ∈ cl x, c < 1114112) : PyData.strOk x = true := by
  unfold PyData.strOk
  rw [Array.all_eq_true']
  intro c hc
  have := h c (Array.mem_toList_iff.mpr hc)
  simpa using this
theorem reply_more {port : Int} {x mk hd : Str} {f : Str × Str} {pre en : Str} (h0 : 0 ≤ port) (h1 : port < 64) (H : IsReply port x mk hd f pre en) :
    ∃ H0 m, mk = ⟨#[m]⟩ ∧ Shape x H0 m (cl f.1) (cl f.2) (cl (pre ++ Str.ofString (toString port))) (cl en) ∧ More x H0 m (cl f.1) (cl f.2) (cl (pre ++ Str.ofString (toString port))) (cl en) := by
  refine ex2 (reply_shape h0 h1 H) ?_
  rintro H0 m xq1
  refine an3 xq1 ?_
  clear xq1
  rintro hm S _
  refine xi2 H0 m ⟨hm, S, ?_⟩
  obtain ⟨hmk, hhd, hf, hpre, hen, heq⟩ := H
  obtain ⟨n, rfl⟩ := Int.eq_ofNat_of_zero_le h0
  refine an3 (num_facts pre hpre ⟨n, by (first | exact omG29.2.2.2.2.2.2.2.2.2.2.1 h1 | omega)⟩) ?_
  rintro i1 i2 i3
  simp only at i1 i2 i3
  have hnum : ∀ c ∈ cl (pre ++ Str.ofString (toString ((n : Nat) : Int))), c = 32 ∨ c = 43 ∨ (48 ≤ c ∧ c ≤ 57) := by
    intro c hc
    have := List.all_eq_true.mp i3 c hc
    simp at this
    (first | exact omG32.2.2.2.2.1 this | omega)
  have hmv : m = 124 ∨ m = 33 ∨ m = 46 ∨ m = 120 := by
    rcases marks_cases hmk with rfl | rfl | rfl | rfl
    · have e : [124] = [m] := congrArg cl hm
      injection e with e; exact .inl e.symm
    · have e : [33] = [m] := congrArg cl hm
      injection e with e; exact .inr (.inl e.symm)
    · have e : [46] = [m] := congrArg cl hm
      injection e with e; exact .inr (.inr (.inl e.symm))
    · have e : [120] = [m] := congrArg cl hm
      injection e with e; exact .inr (.inr (.inr e.symm))
  have hfv : (cl f.1 = [] ∧ cl f.2 = []) ∨ (cl f.1 = [49] ∧ cl f.2 = [104]) ∨ (cl f.1 = [40] ∧ cl f.2 = [32]) ∨ (cl f.1 = [50] ∧ cl f.2 = [45, 51]) := by
    simp only [fieldsL, List.mem_cons, List.not_mem_nil, or_false] at hf
    rcases hf with rfl | rfl | rfl | rfl
    · exact .inl ⟨rfl, rfl⟩
    · exact .inr (.inl ⟨rfl, rfl⟩)
    · exact .inr (.inr (.inl ⟨rfl, rfl⟩))
    · exact .inr (.inr (.inr ⟨rfl, rfl⟩))
  have hen2 : ∀ c ∈ cl en, c ≠ 40 ∧ c < 128 := by
    simp only [endsL, List.mem_cons, List.not_mem_nil, or_false] at hen
    rcases hen with rfl | rfl | rfl | rfl <;> rcases marks_cases hmk with rfl | rfl | rfl | rfl <;> decide
  have hH0 : ∀ c ∈ cl hd, c < 128 := by
    simp only [headsL, List.mem_cons, List.not_mem_nil, or_false] at hhd
    rcases hhd with rfl | rfl | rfl <;> decide
  have hx : cl x = cl hd ++ m :: (cl f.1 ++ m :: (cl f.2 ++ m :: (cl (pre ++ Str.ofString (toString ((n : Nat) : Int))) ++ m :: (41 :: cl en)))) := by
    rw [heq, show Txt.join = fun a b => Builtin.Str.glued a b from rfl]
    show cl (Builtin.Str.glued mk _) = _
    rw [StrLaws.glued_eq_join, hm, cl_join, cl_join, cl_join, cl_join]
    show cl hd ++ m :: (cl f.1 ++ m :: (cl f.2 ++ m :: (_ ++ m :: cl (Str.ofString ")" ++ en)))) = _
    rw [cl_app (Str.ofString ")") en, show cl (Str.ofString ")") = [41] from rfl]
    simp
  refine ⟨?_, ?_, ?_, ?_, by (first | exact omG34.2.2.2.2.2.2.2.2.1 hmv | omega), ?_, by (first | exact omG34.2.2.2.2.2.2.2.2.2.1 hmv | omega)⟩
  · rcases hfv with ⟨e, _⟩ | ⟨e, _⟩ | ⟨e, _⟩ | ⟨e, _⟩ <;> rw [e] <;> simp
  · rcases hfv with ⟨_, e⟩ | ⟨_, e⟩ | ⟨_, e⟩ | ⟨_, e⟩ <;> rw [e] <;> simp
  · intro h; have := hnum 40 h; (first | exact omG34.2.2.2.2.2.2.2.2.2.2.1 this | omega)
  · intro h; exact (hen2 40 h).1 rfl
  · intro c hc
    rw [hx] at hc
    have a1 : ∀ c ∈ cl f.1, c < 128 := by rcases hfv with ⟨e, _⟩ | ⟨e, _⟩ | ⟨e, _⟩ | ⟨e, _⟩ <;> rw [e] <;> simp
    have a2 : ∀ c ∈ cl f.2, c < 128 := by rcases hfv with ⟨_, e⟩ | ⟨_, e⟩ | ⟨_, e⟩ | ⟨_, e⟩ <;> rw [e] <;> simp
    simp only [List.mem_append, List.mem_cons, List.not_mem_nil, or_false] at hc
    rcases hc with hc | hc | hc | hc | hc | hc | hc | hc | hc | hc
    · have := hH0 c hc; (first | exact omG34.2.2.2.2.2.2.2.2.2.2.2 this | omega)
    · (first | exact omG35.1 hmv hc | omega)
    · have := a1 c hc; (first | exact omG34.2.2.2.2.2.2.2.2.2.2.2 this | omega)
    · (first | exact omG35.1 hmv hc | omega)
    · have := a2 c hc; (first | exact omG34.2.2.2.2.2.2.2.2.2.2.2 this | omega)
    · (first | exact omG35.1 hmv hc | omega)
    · have := hnum c hc; (first | exact omG35.2.1 this | omega)
    · (first | exact omG35.1 hmv hc | omega)
    · (first | exact omG35.2.2.1 hc | omega)
    · have := (hen2 c hc).2; (first | exact omG34.2.2.2.2.2.2.2.2.2.2.2 this | omega)

theorem cl_mk (l : List Nat) : cl (⟨l.toArray⟩ : Str) = l := rfl
section
variable {x : Str} {H0 f0 f1 num en : List Nat} {m : Nat}
theorem Shape.n41B (S : Shape x H0 m f0 f1 num en) : 41 ∉ m :: (f0 ++ m :: (f1 ++ m :: (num ++ [m]))) := by simp [S.r0, S.r1, S.rnum, Ne.symm S.m41]
theorem Shape.bodyL (S : Shape x H0 m f0 f1 num en) : (m :: (f0 ++ m :: (f1 ++ m :: (num ++ [m])))).length ≤ 10 := by have := S.len; simp; (first | exact omG35.2.2.2.1 this | omega)
theorem Shape.xlen (S : Shape x H0 m f0 f1 num en) : x.length ≤ 23 := by
  have v1 := S.len; have v2 := S.hlen
  rw [cl_len, S.eq]; simp; (first | exact omG35.2.2.2.2.1 v1 v2 | omega)
theorem Shape.fl (S : Shape x H0 m f0 f1 num en) : Txt.find x (Str.ofString "(") = (H0.length : Int) := find_first S.eq S.n40
theorem Shape.im (S : Shape x H0 m f0 f1 num en) : Txt.item x ((H0.length : Int) + 1) = ⟨#[m]⟩ := item_at (p := H0 ++ [40]) (post := (f0 ++ m :: (f1 ++ m :: (num ++ [m]))) ++ 41 :: en) (by rw [S.eq]; simp) (by simp)
theorem Shape.fe (S : Shape x H0 m f0 f1 num en) : Txt.find x ⟨#[m, 41]⟩ = ((H0.length + 4 + f0.length + f1.length + num.length : Nat) : Int) := by
  have he : cl x = (H0 ++ 40 :: m :: (f0 ++ m :: (f1 ++ m :: num))) ++ m :: 41 :: en := by rw [S.eq]; simp
  rw [find_two he ?_]
  · simp; (first | exact omG35.2.2.2.2.2.1 | omega)
  · intro k hk h1 h2
    by_cases hH : k + 1 < H0.length
    · rw [S.eq, List.getElem?_append_left (by (first | exact omG35.2.2.2.2.2.2.1 hH | omega)), List.getElem?_eq_getElem (by (first | exact omG35.2.2.2.2.2.2.1 hH | omega))] at h1
      exact S.nm (Option.some.inj h1 ▸ List.getElem_mem _)
    · have e2 : cl x = (H0 ++ [40]) ++ ((m :: (f0 ++ m :: (f1 ++ m :: (num ++ [m])))) ++ 41 :: en) := by rw [S.eq]; simp
      by_cases hk0 : k + 1 = H0.length
      · rw [e2, List.getElem?_append_left (by simp; (first | exact omG35.2.2.2.2.2.2.2.1 hk0 | omega)), hk0, List.getElem?_append_right (Nat.le_refl _)] at h2
        simp at h2
      · have hsz : k + 1 - (H0.length + 1) < (m :: (f0 ++ m :: (f1 ++ m :: (num ++ [m])))).length := by simp at hk ⊢; (first | exact omG35.2.2.2.2.2.2.2.2.1 hk | omega)
        rw [e2, List.getElem?_append_right (by simp; (first | exact omG35.2.2.2.2.2.2.2.2.2.1 hH hk0 | omega)), List.getElem?_append_left (by simpa using hsz), List.getElem?_eq_getElem (by simpa using hsz)] at h2
        exact S.n41B (Option.some.inj h2 ▸ List.getElem_mem _)
theorem spoiled_facts (S : Shape x H0 m f0 f1 num en) (M : More x H0 m f0 f1 num en) {e : Int} (he : e = (H0.length + 5 + f0.length + f1.length + num.length : Nat)) :
    ∀ y ∈ [Txt.slice x none (some e) ++ Str.ofString "x", Txt.slice x none (some (H0.length : Int)) ++ Txt.slice x (some ((H0.length : Int) + 1)) none, glued (Str.ofString "") (partsBetween x [H0.length + 1] 1),
      glued (⟨#[m]⟩ ++ ⟨#[m]⟩) (partsBetween x [H0.length + 1] 1), Txt.slice x none (some e) ++ Str.ofString "#" ++ Txt.slice x (some e) none, Str.ofString "229 2 8 2)"], PFail y 63 ∧ PyData.strOk y = true := by
  obtain ⟨R, hR⟩ := S.h229
  have sl1 : Txt.slice x none (some e) = ⟨(H0 ++ 40 :: (m :: (f0 ++ m :: (f1 ++ m :: (num ++ [m]))))).toArray⟩ := slice_upto (p := H0 ++ 40 :: (m :: (f0 ++ m :: (f1 ++ m :: (num ++ [m]))))) (r := 41 :: en) (by rw [S.eq]; simp) (by rw [he]; simp; (first | exact omG35.2.2.2.2.2.2.2.2.2.2.1 | omega))
  have sl2 : Txt.slice x (some e) none = ⟨(41 :: en).toArray⟩ := slice_on (p := H0 ++ 40 :: (m :: (f0 ++ m :: (f1 ++ m :: (num ++ [m]))))) (by rw [S.eq]; simp) (by rw [he]; simp; (first | exact omG35.2.2.2.2.2.2.2.2.2.2.1 | omega))
  have sl3 : Txt.slice x none (some (H0.length : Int)) = ⟨H0.toArray⟩ := slice_upto S.eq rfl
  have sl4 : Txt.slice x (some ((H0.length : Int) + 1)) none = ⟨((m :: (f0 ++ m :: (f1 ++ m :: (num ++ [m])))) ++ 41 :: en).toArray⟩ := slice_on (p := H0 ++ [40]) (by rw [S.eq]; simp) (by simp)
  have hg := fun z => glued_one (x := x) (z := z) (i := H0.length + 1) (c := m) (p := H0 ++ [40]) (post := f0 ++ m :: (f1 ++ m :: (num ++ [m])) ++ 41 :: en) (by rw [S.eq]; simp) (by simp)
  have hlen := S.len
  have hlen2 := S.hlen
  have hxs : ∀ c ∈ H0 ++ 40 :: ((m :: (f0 ++ m :: (f1 ++ m :: (num ++ [m])))) ++ 41 :: en), c < 1114112 := by rw [← S.eq]; exact M.small
  have hn41 := S.n41B
  intro y hy
  simp only [List.mem_cons, List.not_mem_nil, or_false] at hy
  have hmf : ∀ (l : List Nat), m ∉ l → m ∉ cl (⟨l.toArray⟩ : Str) := fun l h => h
  rcases hy with rfl | rfl | rfl | rfl | rfl | rfl
  · have hc : cl (Txt.slice x none (some e) ++ Str.ofString "x") = H0 ++ 40 :: ((m :: (f0 ++ m :: (f1 ++ m :: (num ++ [m])))) ++ [120]) := by rw [cl_app, sl1, cl_mk, show cl (Str.ofString "x") = [120] from rfl]; simp
    generalize Txt.slice x none (some e) ++ Str.ofString "x" = y at *
    refine ⟨.noright (left := (H0.length : Int)) (by rw [cl_len, hc]; simp; (first | exact omG35.2.2.2.2.2.2.2.2.2.2.2 hlen hlen2 | omega)) (s229 (R := R ++ 40 :: ((m :: (f0 ++ m :: (f1 ++ m :: (num ++ [m])))) ++ [120])) (by rw [hc, hR]; rfl)) (find_first hc S.n40) (by (first | exact omG3.2.2.2.2.2.2.2.2.2.1 | omega)) ?_, strOk_of ?_⟩
    · have := find3_none (x := y) (c := 41) (p1 := H0 ++ [40]) (p2 := (m :: (f0 ++ m :: (f1 ++ m :: (num ++ [m])))) ++ [120]) (i := (H0.length : Int) + 1) (by rw [hc]; simp) (by
        intro h
        rcases List.mem_append.mp h with h | h
        · exact hn41 h
        · simp at h) (by simp)
      rw [show Str.ofString ")" = ⟨#[41]⟩ from rfl, this]; decide
    · intro c hcc
      rw [hc] at hcc
      simp only [List.mem_append, List.mem_cons, List.not_mem_nil, or_false] at hcc hxs
      by_cases h120 : c = 120
      · (first | exact omG36.1 h120 | omega)
      · exact hxs c (by grind)
  · have hc : cl (Txt.slice x none (some (H0.length : Int)) ++ Txt.slice x (some ((H0.length : Int) + 1)) none) = H0 ++ ((m :: (f0 ++ m :: (f1 ++ m :: (num ++ [m])))) ++ 41 :: en) := by rw [cl_app, sl3, sl4, cl_mk, cl_mk]
    generalize Txt.slice x none (some (H0.length : Int)) ++ Txt.slice x (some ((H0.length : Int) + 1)) none = y at *
    refine ⟨?_, strOk_of ?_⟩
    · rcases M.f40 with h40 | h40
      · refine .noleft (by rw [cl_len, hc]; simp; (first | exact omG36.2.1 hlen hlen2 | omega)) (s229 (R := R ++ ((m :: (f0 ++ m :: (f1 ++ m :: (num ++ [m])))) ++ 41 :: en)) (by rw [hc, hR]; rfl)) ?_
        rw [show Str.ofString "(" = ⟨#[40]⟩ from rfl, find_none (by
          rw [hc]
          have := S.n40; have := M.g40; have := M.num40; have := M.en40; have := S.m40
          simp only [List.mem_append, List.mem_cons, List.not_mem_nil, or_false]
          grind)]
        decide
      · subst h40
        have P : Paren y (H0 ++ [m]) (m :: (f1 ++ m :: (num ++ [m]))) en := ⟨by rw [hc]; simp, ⟨R ++ [m], by rw [hR]; rfl⟩, fun h => by
          rcases List.mem_append.mp h with h | h
          · exact S.n40 h
          · exact S.m40 (List.mem_singleton.mp h).symm, by simp [S.r1, S.rnum, Ne.symm S.m41], by simp; simp at hlen; (first | exact omG36.2.2.1 hlen2 hlen | omega)⟩
        refine pf_parts P rfl (B2 := m :: (f1 ++ m :: num)) (by simp) (ps := [⟨([] : List Nat).toArray⟩, ⟨f1.toArray⟩, ⟨num.toArray⟩, ⟨([] : List Nat).toArray⟩]) (by simp) ?_ ?_ (by simp) (by simp)
        · intro q hq
          simp only [List.mem_cons, List.not_mem_nil, or_false] at hq
          rcases hq with rfl | rfl | rfl | rfl
          · exact hmf [] (by simp)
          · exact hmf _ S.mf1
          · exact hmf _ S.mnum
          · exact hmf [] (by simp)
        · rw [cl_join, cl_join, cl_join]
          show _ = [] ++ m :: (f1 ++ m :: (num ++ m :: []))
          simp
    · intro c hcc
      rw [hc] at hcc
      simp only [List.mem_append, List.mem_cons, List.not_mem_nil, or_false] at hcc hxs
      exact hxs c (by grind)
  · have hc := hg (Str.ofString "")
    rw [show cl (Str.ofString "") = [] from rfl] at hc
    generalize glued (Str.ofString "") (partsBetween x [H0.length + 1] 1) = y at *
    have P : Paren y H0 (f0 ++ m :: (f1 ++ m :: (num ++ [m]))) en := ⟨by rw [hc]; simp, ⟨R, hR⟩, S.n40, fun h => hn41 (.tail _ h), by simp; (first | exact omG36.2.2.2.1 hlen hlen2 | omega)⟩
    refine ⟨?_, strOk_of ?_⟩
    · cases hf0 : f0 with
      | nil =>
        subst hf0
        refine pf_parts P (m := m) rfl (B2 := m :: (f1 ++ m :: num)) (by simp) (ps := [⟨([] : List Nat).toArray⟩, ⟨f1.toArray⟩, ⟨num.toArray⟩, ⟨([] : List Nat).toArray⟩]) (by simp) ?_ ?_ (by simp) (by simp)
        · intro q hq
          simp only [List.mem_cons, List.not_mem_nil, or_false] at hq
          rcases hq with rfl | rfl | rfl | rfl
          · exact hmf [] (by simp)
          · exact hmf _ S.mf1
          · exact hmf _ S.mnum
          · exact hmf [] (by simp)
        · rw [cl_join, cl_join, cl_join]
          show _ = [] ++ m :: (f1 ++ m :: (num ++ m :: []))
          simp
      | cons c0 r =>
        refine pf_ends P (c := c0) (d := m) (B1 := r ++ m :: (f1 ++ m :: (num ++ [m]))) (B2 := f0 ++ m :: (f1 ++ m :: num)) (by rw [hf0]; rfl) (by simp) ?_
        intro e0
        have := S.mf0
        rw [hf0, e0] at this
        simp at this
    · intro c hcc
      rw [hc] at hcc
      simp only [List.mem_append, List.mem_cons, List.not_mem_nil, or_false] at hcc hxs
      exact hxs c (by grind)
  · have hc := hg (⟨#[m]⟩ ++ ⟨#[m]⟩)
    rw [show cl ((⟨#[m]⟩ : Str) ++ ⟨#[m]⟩) = [m, m] from rfl] at hc
    generalize glued (⟨#[m]⟩ ++ ⟨#[m]⟩) (partsBetween x [H0.length + 1] 1) = y at *
    have P : Paren y H0 (m :: m :: (f0 ++ m :: (f1 ++ m :: (num ++ [m])))) en := ⟨by rw [hc]; simp, ⟨R, hR⟩, S.n40, fun h => by
      rcases List.mem_cons.mp h with h | h
      · exact S.m41 h.symm
      · exact hn41 h, by simp; (first | exact omG36.2.2.2.2.1 hlen hlen2 | omega)⟩
    refine ⟨?_, strOk_of ?_⟩
    · refine pf_parts P (m := m) rfl (B2 := m :: m :: (f0 ++ m :: (f1 ++ m :: num))) (by simp) (ps := [⟨([] : List Nat).toArray⟩, ⟨([] : List Nat).toArray⟩, ⟨f0.toArray⟩, ⟨f1.toArray⟩, ⟨num.toArray⟩, ⟨([] : List Nat).toArray⟩]) (by simp) ?_ ?_ (by simp) (by simp)
      · intro q hq
        simp only [List.mem_cons, List.not_mem_nil, or_false] at hq
        rcases hq with rfl | rfl | rfl | rfl | rfl | rfl
        · exact hmf [] (by simp)
        · exact hmf [] (by simp)
        · exact hmf _ S.mf0
        · exact hmf _ S.mf1
        · exact hmf _ S.mnum
        · exact hmf [] (by simp)
      · rw [cl_join, cl_join, cl_join, cl_join, cl_join]
        show _ = [] ++ m :: ([] ++ m :: (f0 ++ m :: (f1 ++ m :: (num ++ m :: []))))
        simp
    · intro c hcc
      rw [hc] at hcc
      simp only [List.mem_append, List.mem_cons, List.not_mem_nil, or_false] at hcc hxs
      exact hxs c (by grind)
  · have hc : cl (Txt.slice x none (some e) ++ Str.ofString "#" ++ Txt.slice x (some e) none) = H0 ++ 40 :: (((m :: (f0 ++ m :: (f1 ++ m :: (num ++ [m])))) ++ [35]) ++ 41 :: en) := by rw [cl_app, cl_app, sl1, sl2]; show H0 ++ 40 :: (m :: (f0 ++ m :: (f1 ++ m :: (num ++ [m])))) ++ [35] ++ (41 :: en) = _; simp
    generalize Txt.slice x none (some e) ++ Str.ofString "#" ++ Txt.slice x (some e) none = y at *
    have P : Paren y H0 ((m :: (f0 ++ m :: (f1 ++ m :: (num ++ [m])))) ++ [35]) en := ⟨hc, ⟨R, hR⟩, S.n40, fun h => by
      rcases List.mem_append.mp h with h | h
      · exact hn41 h
      · simp at h, by simp; (first | exact omG36.2.2.2.2.2.1 hlen hlen2 | omega)⟩
    refine ⟨pf_ends P (c := m) (d := 35) rfl rfl M.m35, strOk_of ?_⟩
    intro c hcc
    rw [hc] at hcc
    simp only [List.mem_append, List.mem_cons, List.not_mem_nil, or_false] at hcc hxs
    by_cases h35 : c = 35
    · (first | exact omG36.2.2.2.2.2.2.1 h35 | omega)
    · exact hxs c (by grind)
  · refine ⟨.noleft (by decide) (by decide) (by rw [show Str.ofString "(" = ⟨#[40]⟩ from rfl, find_none (by decide)]; decide), by decide +kernel⟩
end
theorem reply_len {port : Int} {x mk hd : Str} {f : Str × Str} {pre en : Str} (h0 : 0 ≤ port) (h1 : port < 64) (H : IsReply port x mk hd f pre en) : x.length ≤ 64 := by
  refine ex2 (reply_more h0 h1 H) ?_
  rintro H0 m xq2
  refine an3 xq2 ?_
  clear xq2
  rintro _ S _
  exact Nat.le_trans S.xlen (by decide)
theorem codes_fail {port : Int} {x mk hd : Str} {f : Str × Str} {pre en : Str} (h0 : 0 ≤ port) (h1 : port < 64) (H : IsReply port x mk hd f pre en) :
    ∀ c ∈ [Str.ofString "129", Str.ofString "239", Str.ofString "228"], PFail (c ++ Txt.slice x (some 3) none) 51 ∧ PyData.strOk (c ++ Txt.slice x (some 3) none) = true := by
  refine ex2 (reply_more h0 h1 H) ?_
  rintro H0 m xq3
  refine an3 xq3 ?_
  clear xq3
  rintro _ S M
  obtain ⟨R, hR⟩ := S.h229
  obtain ⟨tl, htl⟩ : ∃ tl, cl x = [50, 50, 57] ++ tl := ⟨_, by rw [S.eq, hR]; rfl⟩
  have hs : Txt.slice x (some 3) none = ⟨tl.toArray⟩ := slice_on htl rfl
  have hl := S.xlen
  rw [cl_len, htl] at hl
  have hsm : ∀ c ∈ tl, c < 1114112 := fun c hc => M.small c (by rw [htl]; exact List.mem_append_right _ hc)
  intro c hc
  rw [hs]
  have hc3 : ∃ a b d, cl c = [a, b, d] ∧ c ≠ Str.ofString "229" ∧ PyData.strOk c = true := by
    simp only [List.mem_cons, List.not_mem_nil, or_false] at hc
    rcases hc with rfl | rfl | rfl
    · exact xi3 _ _ _ ⟨rfl, by decide, by decide +kernel⟩
    · exact xi3 _ _ _ ⟨rfl, by decide, by decide +kernel⟩
    · exact xi3 _ _ _ ⟨rfl, by decide, by decide +kernel⟩
  refine ex3 hc3 ?_
  clear hc3
  rintro a b d xq4
  refine an3 xq4 ?_
  clear xq4
  rintro hcl hne hok
  have hcy : cl (c ++ (⟨tl.toArray⟩ : Str)) = [a, b, d] ++ tl := by rw [cl_app, hcl]
  refine ⟨.code (by rw [cl_len, hcy]; simp at hl ⊢; (first | exact omG36.2.2.2.2.2.2.2.1 hl | omega)) ?_, strOk_app hok (strOk_of (by rw [cl_mk]; exact hsm))⟩
  rw [slice_upto (p := [a, b, d]) (j := 3) hcy rfl]
  intro e
  exact hne (cl_ext (by rw [hcl]; exact congrArg cl e))
end

section
open PySem PySem.W PySem.Calls PyProof.Rows PySem.Builtin PySem.Builtin.Str
set_option maxRecDepth 100000
set_option maxHeartbeats 8000000
section
variable {prog : Program} {w : World} {A : Around} {E : Value → Shared → Prop} {s : Shared} {value slice : Expr} {x y z : Str} {t u v : Tok} {h₁ : Heap} {Q : Value → Shared → Prop}
theorem post_le {c : Prop} [Decidable c] {y z : Str} (h : (if c then y else z).length ≤ sizeLine ∧ ∀ t' k, s.toks ≤ k → Q (.str (if c then y else z) t') { s with toks := k }) :
    (if c then Made.val (.str y t) else Made.str z).post Q s := by
  by_cases hc : c
  · rw [if_pos hc]; have h' := h.2 t s.toks (Nat.le_refl _); rw [if_pos hc] at h'; exact h'
  · rw [if_neg hc]; have h' := h.2 s.toks (s.toks + 1) (Nat.le_succ _); have h1 := h.1; rw [if_neg hc] at h' h1; exact ⟨h1, h'⟩
theorem slice_le_sn {i : Int} {ui : Tok} (hK : h₁.StaysIn s.heap) (h : ∀ h' t' k, h₁.StaysIn h' → s.toks ≤ k → Q (.str (Txt.slice x (some i) none) t') { s with heap := h', toks := k }) (hsz : x.length ≤ sizeLine)
    (hs : subscripted slice false (.str x t) (.ref s.heap.objs.size) = operate [.ref s.heap.objs.size, .str x t] (getItem (.str x t) (.ref s.heap.objs.size)) := by with_unfolding_all rfl)
    (ht : ∀ r, letTemporaryGo value (.str x t) r = pure () := by intro _; with_unfolding_all rfl) :
    wpAny (model prog w) A (subscriptTail value slice (.str x t) (.ref s.heap.objs.size)) Q E { s with heap := s.heap.push { cls := .type "slice", data := .fields #[.int i ui, .none, .none] } } :=
  tail_of_ItemOn ⟨"str", _, F.slot_str_getitem.lookup, typeIs_str _ _ _, wpAny_getItem_str_slice (l := some (i, ui)) (u := none) (st := none) ⟨_, Heap.get?_push_size _ rfl, rfl, rfl⟩ rfl
    (post_le ⟨Nat.le_trans (Txt.slice_le x _ _) hsz, fun t' k hk => h _ t' k (keptStays _ _ hK) hk⟩)⟩ hs ht
theorem slice_le_ns {i : Int} {ui : Tok} (hK : h₁.StaysIn s.heap) (h : ∀ h' t' k, h₁.StaysIn h' → s.toks ≤ k → Q (.str (Txt.slice x none (some i)) t') { s with heap := h', toks := k }) (hsz : x.length ≤ sizeLine)
    (hs : subscripted slice false (.str x t) (.ref s.heap.objs.size) = operate [.ref s.heap.objs.size, .str x t] (getItem (.str x t) (.ref s.heap.objs.size)) := by with_unfolding_all rfl)
    (ht : ∀ r, letTemporaryGo value (.str x t) r = pure () := by intro _; with_unfolding_all rfl) :
    wpAny (model prog w) A (subscriptTail value slice (.str x t) (.ref s.heap.objs.size)) Q E { s with heap := s.heap.push { cls := .type "slice", data := .fields #[.none, .int i ui, .none] } } :=
  tail_of_ItemOn ⟨"str", _, F.slot_str_getitem.lookup, typeIs_str _ _ _, wpAny_getItem_str_slice (l := none) (u := some (i, ui)) (st := none) ⟨_, Heap.get?_push_size _ rfl, rfl, rfl⟩ rfl
    (post_le ⟨Nat.le_trans (Txt.slice_le x _ _) hsz, fun t' k hk => h _ t' k (keptStays _ _ hK) hk⟩)⟩ hs ht
theorem add_le (h : ∀ t' tk, s.toks ≤ tk → ((x.length == 0) = false → (y.length == 0) = false → t' = s.toks ∧ tk = s.toks + 1) → Q (.str (x ++ y) t') { s with toks := tk }) (hsz : x.length + y.length ≤ sizeLine) :
    wpAny (model prog w) A (binaryOp .Add (.str x t) (.str y u)) Q E s := by
  refine binaryOp_concat (typeIs_str s x t) (typeIs_str s y u) PyProof.Rows.noFill_str_add PyProof.Rows.seq_str_add ?_
  refine wpAny_call_entry PyProof.Rows.slot_str_add (typeIs_str s x t) PyProof.Rows.entry_str_add ?_ (PyProof.Rows.args_str_add _ _)
  show wpAny _ _ (do
    if (true && x.length == 0) = true then (do rule "str.__add__.left-empty"; ret (.str y u)) else
    if (true && y.length == 0) = true then (do rule "str.__add__.right-empty"; ret (.str x t)) else
    retStr (x ++ y)) _ _ s
  cases hx : x.length == 0
  · cases hy : y.length == 0
    · exact wpAny_bind (wpAny_mkStr (wpAny_pure ⟨_, rfl, h _ _ (Nat.le_succ _) fun _ _ => ⟨rfl, rfl⟩⟩) (by rw [strLen_append]; exact hsz))
    · have e : x ++ y = x := by
        have h0 : y.cps = #[] := Array.eq_empty_of_size_eq_zero (by simpa [Str.length] using hy)
        show Str.append x y = x
        cases x; simp [Str.append, h0]
      refine wpAny_bind (wpAny_rule (wpAny_pure ⟨_, rfl, ?_⟩))
      have := h t s.toks (Nat.le_refl _) fun _ q => by rw [hy] at q; cases q
      rwa [e] at this
  · have e : x ++ y = y := by
      have h0 : x.cps = #[] := Array.eq_empty_of_size_eq_zero (by simpa [Str.length] using hx)
      show Str.append x y = y
      cases y; simp [Str.append, h0]
    refine wpAny_bind (wpAny_rule (wpAny_pure ⟨_, rfl, ?_⟩))
    have := h u s.toks (Nat.le_refl _) fun q _ => by rw [hx] at q; cases q
    rwa [e] at this
theorem gives_replace1 {w' : Tok} {i : Nat} (hu : u ≠ 0) (hv : v ≠ 0) (huv : u ≠ v) (hyz : (y == z) = false) (hy : (y.length == 0) = false) (ho : occurrences x y 0 x.length 1 = [i]) (hl : tooLong (x.length + 1 * z.length) = false) :
    Gives («str.replace» ⟨[.str x t, .str y u, .str z v, .int 1 w'], []⟩) (.str (glued z (partsBetween x [i] y.length))) := by
  show Gives (if ((occurrences x y 0 x.length 1).isEmpty || (y.length == 0 && z.length == 0)) = true then (do rule "str.replace.nothing"; ret (.str x t)) else
          (do let same ← isSame (.str y u) (.str z v)
              if same = true then (do rule "str.replace.old-is-new"; ret (.str x t)) else
              if tooLong (x.length + (occurrences x y 0 x.length 1).length * z.length) = true then unsupported "str.replace:memory" else
              retStr (glued z (partsBetween x (occurrences x y 0 x.length 1) y.length)))) _
  rw [ho, hy, isSame_str_other y z u v (by simp [hu, hv]) (by simp [huv]) hyz]
  have hl' : tooLong (x.length + [i].length * z.length) = false := hl
  rw [hl']
  exact .of_eq rfl
theorem replace1 {w' : Tok} {i : Nat} (hu : u ≠ 0) (hv : v ≠ 0) (huv : u ≠ v) (hyz : (y == z) = false) (hy : (y.length == 0) = false) (ho : occurrences x y 0 x.length 1 = [i]) (hl : x.length + 1 * z.length ≤ 1000) (hg : (glued z (partsBetween x [i] y.length)).length ≤ 1000)
    (hq : Q (.str (glued z (partsBetween x [i] y.length)) s.toks) { s with toks := s.toks + 1 }) : wpAny (model prog w) A (call (.builtin "str.replace") [.str x t, .str y u, .str z v, .int 1 w']) Q E s := by
  have hl' : tooLong (x.length + 1 * z.length) = false := by
    unfold tooLong
    rw [sizeLine_eq]
    exact decide_eq_false (by (first | exact omG37.2.2.2.2.1 hl | omega))
  exact call_gives F.slot_str_replace (typeIs_str _ _ _) F.entry_str_replace (F.args_str_replace_4 _ _ _ _) (gives_replace1 hu hv huv hyz hy ho hl') ⟨by rw [sizeLine_eq]; (first | exact omG37.2.2.2.2.2.1 hg | omega), hq⟩
end
end

section
open PySem PySem.W PySem.Calls PyProof.Rows
set_option maxRecDepth 100000
set_option maxHeartbeats 8000000


noncomputable def SpJ1 (s : Shared) (L : Addr) (x : Str) (t1 : Tok) (left : Nat) (mk : Str) : Flow → Shared → Prop := fun fl s' => Hold (∀ ZZ : Flow → Shared → Prop, (∀ (tm tl : Tok) (h' : Heap) (tk' : Nat) (m' : Str → Option Value), Fr s.heap L h' m' → tm ≠ 0 → tm < tk' → m' "reply" = some (.str x t1) → m' "left" = some (.int left tl) → m' "mark" = some (.str mk tm) → ZZ .next { s with heap := h', toks := tk' }) → ZZ fl s')
noncomputable def SpJ2 (s : Shared) (L : Addr) (x : Str) (t1 : Tok) (left e : Nat) (mk : Str) : Flow → Shared → Prop := fun fl s' => Hold (∀ ZZ : Flow → Shared → Prop, (∀ (tm tl te : Tok) (h' : Heap) (tk' : Nat) (m' : Str → Option Value), Fr s.heap L h' m' → tm ≠ 0 → tm < tk' → m' "reply" = some (.str x t1) → m' "left" = some (.int left tl) → m' "mark" = some (.str mk tm) → m' "end" = some (.int e te) → ZZ .next { s with heap := h', toks := tk' }) → ZZ fl s')
theorem SpJ1.cut {s : Shared} {L : Addr} {x : Str} {t1 : Tok} {left : Nat} {mk : Str} {M : Model} {A : Around} {T : Sem Flow} {s0 : Shared} {RR : Flow → Shared → Prop} {E : Value → Shared → Prop} (h1 : wpAny M A T (SpJ1 s L x t1 left mk) (fun _ _ => False) s0)
    (k : ∀ (tm tl : Tok) (h' : Heap) (tk' : Nat) (m' : Str → Option Value), Fr s.heap L h' m' → tm ≠ 0 → tm < tk' → m' "reply" = some (.str x t1) → m' "left" = some (.int left tl) → m' "mark" = some (.str mk tm) → RR .next { s with heap := h', toks := tk' }) : wpAny M A T RR E s0 := wpAny_mono h1 (fun _ _ H => H.out _ k) fun _ _ h => h.elim
theorem SpJ2.cut {s : Shared} {L : Addr} {x : Str} {t1 : Tok} {left e : Nat} {mk : Str} {M : Model} {A : Around} {T : Sem Flow} {s0 : Shared} {RR : Flow → Shared → Prop} {E : Value → Shared → Prop} (h1 : wpAny M A T (SpJ2 s L x t1 left e mk) (fun _ _ => False) s0)
    (k : ∀ (tm tl te : Tok) (h' : Heap) (tk' : Nat) (m' : Str → Option Value), Fr s.heap L h' m' → tm ≠ 0 → tm < tk' → m' "reply" = some (.str x t1) → m' "left" = some (.int left tl) → m' "mark" = some (.str mk tm) → m' "end" = some (.int e te) → RR .next { s with heap := h', toks := tk' }) : wpAny M A T RR E s0 := wpAny_mono h1 (fun _ _ H => H.out _ k) fun _ _ h => h.elim
theorem spoiled_tells {w : World} {mean : ExcName → Option Value} {mg mb : Str → Option Value} {k : Nat} {A : Around} {s : Shared} {Q E : Value → Shared → Prop} {port : Int} {x mk hd : Str} {f : Str × Str} {pre en : Str} {t1 : Tok} (C : Cx w mean mg mb (k + 2) A s.heap)
    (h0 : 0 ≤ port) (h1 : port < 64) (H : IsReply port x mk hd f pre en)
    (ret : ∀ D vs ys e h' tk', s.heap.StaysIn h' → s.heap.get? D = none → h'.get? D = some (W.listOf vs.toArray e) → StrsAre vs ys → ys.length = 6 → (∀ y ∈ ys, PFail y 63) → (∀ y ∈ ys, PyData.strOk y = true) → Q (.ref D) { s with heap := h', toks := tk' }) :
    wpAny (model PySem.Challenge.rw_xi0003_01.row.prog w) A (call (.ref 114) [.str x t1]) Q E s := by
  k_with_none
  k_with "om" => (with_reducible (first | assumption | exact nnA (by assumption) | exact nnB (by assumption) | exact nnC (by assumption) (by assumption) | exact nnD (by assumption) | exact nnE (by assumption) | exact omG21.2.2.2.1 (by assumption) (by assumption) | exact omG21.2.2.1 (by assumption) (by assumption) | exact omG30.2.2.2.2.1 (by assumption) (by assumption)))
  k_with "eval Name" => ((k_here; k_dflt (refine' ld ?k1 ?k2 ?_; (case k1 => k_asm); (case k2 => assumption); k_whole)))
  k_with "loadName" => ((k_here; k_dflt (refine' ldn ?k1 ?k2 ?_; (case k1 => k_asm); (case k2 => assumption); k_whole)))
  obtain ⟨hd0, dp, fr, gd, un⟩ := A
  obtain rfl : hd0 = none := C.hand
  have X := C.X
  have T := C.T
  k_dflt (refine' enterF ?hX ?hlim ?ho ?hcd ?hr ?hbind ?hloc ?_ ?c2 ?c3 ?c4 ?c5; (case hX => assumption); (case hlim => exact Top.nolimit (by assumption)); (case ho => k_is); (case hcd => k_is); (case hr => exact Cx.depth (by assumption)); (case hbind => exact BindsTo.of_eq rfl); (case hloc => exact locs rfl); (case c2 => decide); (case c3 => exact rfl); (case c4 => exact rfl); (case c5 => exact rfl); k_whole)
  intro L h₁ tk₀ F eL
  try dsimp only
  k_fold
  have NN : News s.heap L h₁ [] := News.nil
  refine ex2 (reply_more h0 h1 H) ?_
  rintro H0 m xq1
  refine an3 xq1 ?_
  clear xq1
  rintro rfl S M
  generalize cl f.1 = f0 at S M
  generalize cl f.2 = f1 at S M
  generalize cl (pre ++ Str.ofString (toString port)) = num at S M
  generalize cl en = enl at S M
  have hxl := S.xlen
  have hSl := S.len
  have hSh := S.hlen
  have hfl := S.fl
  have him := S.im
  have hfe := S.fe
  k_with "execs nil" => (refine wpAny_execs_nil ?_)
  k_with "execs cons" => (refine wpAny_execs_cons ?_)
  refine execs_at 2 ?_
  dsimp only [List.take, List.drop]
  refine SpJ1.cut (s := s) (L := L) (x := x) (t1 := t1) (left := H0.length) (mk := ⟨#[m]⟩) ?_ ?_
  · have hfs : fitsSsize ((H0.length : Int) + 1) = true := fitsSsize_of (N := 9223372036854775808) (by (first | exact omG37.2.2.2.2.2.2.1 | omega)) (by (first | exact omG37.2.2.2.2.2.2.2.1 hSh | omega)) (Int.le_refl _)
    have hxz : (H0.length : Int) + 1 < x.length := by
      rw [cl_len, S.eq]; simp; (first | exact omG37.2.2.2.2.2.2.2.2.1 | omega)
    k_with "call builtin:str.index" => refine SC.index (occ_of_find hfl) ?_
    k_with "subscriptTail Name BinOp str int" => (refine item_str (by assumption) (by (first | exact omG37.2.2.2.2.2.2.2.2.2.1 | omega)) (by (first | exact omG37.2.2.2.2.2.2.2.2.2.2.1 hxz | omega)) ?_; intro _; rw [him])
    k_steps
    (rename Fr _ _ _ _ => F9)
    refine ⟨fun _ kk => kk _ _ _ _ _ F9 ?_ ?_ rfl rfl rfl⟩
    · intro h; injection h
    · exact Nat.lt_of_lt_of_le (Nat.lt_succ_self _) (by dsimp only; (first | exact omG37.2.2.2.2.2.2.2.2.2.2.2 | omega))
  · intro tm tl h2 tk2 m2 F2 ht0 htk mr ml mm
    dsimp only
    refine execs_at 1 ?_
    dsimp only [List.take, List.drop]
    refine SpJ2.cut (s := s) (L := L) (x := x) (t1 := t1) (left := H0.length) (e := (H0.length + 5 + f0.length + f1.length + num.length)) (mk := ⟨#[m]⟩) ?_ ?_
    · repeat' ((fail_if_success (with_reducible show wpAny _ _ (binaryOp Operator.Add (Value.str _ _) _) _ _ _)); first | (k_unfold; (try dsimp only)) | (k_end; kc_close) | walk1 | (dsimp only; walk1) | (leave1; (try dsimp only)) | fail "no step")
      refine add_le ?_ (by rw [sizeLine_eq]; exact Nat.le_of_ble_eq_true rfl)
      intro t' tk' hle _
      repeat' ((fail_if_success (with_reducible show wpAny _ _ (call (Value.builtin "str.index") _) _ _ _)); first | (k_unfold; (try dsimp only)) | (k_end; kc_close) | walk1 | (dsimp only; walk1) | (leave1; (try dsimp only)) | fail "no step")
      refine SC.index (occ_of_find hfe) ?_
      k_steps
      (rename Fr _ _ _ _ => F9)
      have hend : ((H0.length + 4 + f0.length + f1.length + num.length : Nat) : Int) + 1 = ((H0.length + 5 + f0.length + f1.length + num.length : Nat) : Int) := by (first | exact omG38.1 | omega)
      rw [hend] at F9
      exact ⟨fun _ kk => kk _ _ _ _ _ _ F9 ht0 (Nat.lt_of_lt_of_le htk (by dsimp only at hle ⊢; (first | exact omG38.2.1 hle | omega))) mr ml mm rfl⟩
    · intro tm tl te h2 tk2 m2 F2 ht0 htk mr ml mm me
      dsimp only
      have NN2 : News s.heap L h2 [] := News.nil
      have hsz : x.length ≤ sizeLine := Nat.le_trans hxl (by decide)
      have hsl : ∀ a b, (Txt.slice x a b).length ≤ 23 := fun a b => Nat.le_trans (PyProof.Txt.length_slice_le x a b) hxl
      have hln : ∀ a b : Nat, a ≤ 30 → b ≤ 30 → a + b ≤ sizeLine := fun a b h1 h2 => Nat.le_trans (Nat.add_le_add h1 h2) (by decide)
      have hle3 : ∀ a b, (Txt.slice x a b).length ≤ 30 := fun a b => Nat.le_trans (hsl a b) (by decide)
      repeat' ((fail_if_success (with_reducible show wpAny _ _ (subscriptTail _ _ _ _) _ _ _)); first | (k_unfold; (try dsimp only)) | (k_end; kc_close) | walk1 | (dsimp only; walk1) | (leave1; (try dsimp only)) | fail "no step")
      refine slice_le_ns (h₁ := h2) (s := ⟨_, _, _, _, _⟩) (fun _ _ e => e) ?_ hsz
      intro h3 t3 k3 hst3 hk3
      try dsimp only at hk3 ⊢
      have F3 := fr_on F2 hst3
      have N3 : News s.heap L h3 [] := News.nil
      clear F2
      repeat' ((fail_if_success (with_reducible show wpAny _ _ (binaryOp Operator.Add (Value.str _ _) _) _ _ _)); first | (k_unfold; (try dsimp only)) | (k_end; kc_close) | walk1 | (dsimp only; walk1) | (leave1; (try dsimp only)) | fail "no step")
      refine add_le ?_ (hln _ _ (hle3 _ _) (by decide))
      intro t4 k4 hk4 hx4
      try dsimp only at hk4 hx4 ⊢
      repeat' ((fail_if_success (with_reducible show wpAny _ _ (subscriptTail _ _ _ _) _ _ _)); first | (k_unfold; (try dsimp only)) | (k_end; kc_close) | walk1 | (dsimp only; walk1) | (leave1; (try dsimp only)) | fail "no step")
      refine slice_le_ns (h₁ := h3) (s := ⟨_, _, _, _, _⟩) (fun _ _ e => e) ?_ hsz
      intro h5 t5 k5 hst5 hk5
      try dsimp only at hk5 ⊢
      have F5 := fr_on F3 hst5
      have N5 : News s.heap L h5 [] := News.nil
      clear F3
      repeat' ((fail_if_success (with_reducible show wpAny _ _ (subscriptTail _ _ _ _) _ _ _)); first | (k_unfold; (try dsimp only)) | (k_end; kc_close) | walk1 | (dsimp only; walk1) | (leave1; (try dsimp only)) | fail "no step")
      refine slice_le_sn (h₁ := h5) (s := ⟨_, _, _, _, _⟩) (fun _ _ e => e) ?_ hsz
      intro h6 t6 k6 hst6 hk6
      try dsimp only at hk6 ⊢
      have F6 := fr_on F5 hst6
      have N6 : News s.heap L h6 [] := News.nil
      clear F5
      repeat' ((fail_if_success (with_reducible show wpAny _ _ (binaryOp Operator.Add (Value.str _ _) _) _ _ _)); first | (k_unfold; (try dsimp only)) | (k_end; kc_close) | walk1 | (dsimp only; walk1) | (leave1; (try dsimp only)) | fail "no step")
      refine add_le ?_ (hln _ _ (hle3 _ _) (hle3 _ _))
      intro t7 k7 hk7 hx7
      try dsimp only at hk7 hx7 ⊢
      have hfm : Txt.find x ⟨#[m]⟩ = ((H0.length + 1 : Nat) : Int) := by
        have := find_first (x := x) (c := m) (p := H0 ++ [40]) (post := f0 ++ m :: (f1 ++ m :: (num ++ [m])) ++ 41 :: enl) (by rw [S.eq]; simp) (by
          intro h
          rcases List.mem_append.mp h with h | h
          · exact S.nm h
          · exact S.m40 (List.mem_singleton.mp h))
        simpa using this
      have hgl : ∀ z : Str, z.length ≤ 2 → (Builtin.Str.glued z (Builtin.Str.partsBetween x [H0.length + 1] (⟨#[m]⟩ : Str).length)).length ≤ 1000 := fun z hz => by
        have := glued_one (x := x) (z := z) (i := H0.length + 1) (c := m) (p := H0 ++ [40]) (post := f0 ++ m :: (f1 ++ m :: (num ++ [m])) ++ 41 :: enl) (by rw [S.eq]; simp) (by simp)
        rw [cl_len] at hz
        rw [cl_len]
        show (cl (Builtin.Str.glued z (Builtin.Str.partsBetween x [H0.length + 1] 1))).length ≤ 1000
        rw [this]; simp only [List.length_append, List.length_cons, List.length_nil]; (first | exact omG38.2.2.1 hSl hSh hz | omega)
      have hm0 : ((⟨#[m]⟩ : Str) == Str.ofString "") = false := by
        rw [beq_eq_false_iff_ne]; intro e; have := congrArg cl e; cases this
      have hm2 : ((⟨#[m]⟩ : Str) == ⟨#[m]⟩ ++ ⟨#[m]⟩) = false := by
        rw [beq_eq_false_iff_ne]; intro e
        have e2 : [m] = [m, m] := congrArg cl e
        simp at e2
      repeat' ((fail_if_success (with_reducible show wpAny _ _ (call (Value.builtin "str.replace") _) _ _ _)); first | (k_unfold; (try dsimp only)) | (k_end; kc_close) | walk1 | (dsimp only; walk1) | (leave1; (try dsimp only)) | fail "no step")
      have q7 : @LT.lt Nat _ tm k7 := Nat.lt_of_lt_of_le htk (by (first | exact omG38.2.2.2.1 hk3 hk4 hk5 hk6 hk7 | omega))
      refine replace1 ht0 (Nat.ne_of_gt (Nat.lt_of_le_of_lt (Nat.zero_le _) q7)) (Nat.ne_of_lt q7) hm0 rfl (occ_of_find hfm) (show x.length + 1 * 0 ≤ 1000 by (first | exact omG38.2.2.2.2.1 hxl | omega)) (hgl _ (by decide)) ?_
      repeat' ((fail_if_success (with_reducible show wpAny _ _ (binaryOp Operator.Add (Value.str _ _) _) _ _ _)); first | (k_unfold; (try dsimp only)) | (k_end; kc_close) | walk1 | (dsimp only; walk1) | (leave1; (try dsimp only)) | fail "no step")
      refine add_le ?_ (hln _ _ (Nat.le_of_ble_eq_true rfl) (Nat.le_of_ble_eq_true rfl))
      intro t8 k8 hk8 hx8
      try dsimp only at hk8 hx8 ⊢
      obtain ⟨rfl, rfl⟩ := hx8 rfl rfl
      repeat' ((fail_if_success (with_reducible show wpAny _ _ (call (Value.builtin "str.replace") _) _ _ _)); first | (k_unfold; (try dsimp only)) | (k_end; kc_close) | walk1 | (dsimp only; walk1) | (leave1; (try dsimp only)) | fail "no step")
      have q8 : ∀ j : Nat, k7 ≤ j → tm < j := fun j hj => Nat.lt_of_lt_of_le q7 hj
      refine replace1 ht0 (Nat.ne_of_gt (Nat.lt_of_le_of_lt (Nat.zero_le _) (q8 _ (by first | (first | exact omG38.2.2.2.2.2.1 | omega) | (dsimp only; omega))))) (Nat.ne_of_lt (q8 _ (by first | (first | exact omG38.2.2.2.2.2.1 | omega) | (dsimp only; omega)))) hm2 rfl (occ_of_find hfm) (show x.length + 1 * 2 ≤ 1000 by (first | exact omG38.2.2.2.2.2.2.1 hxl | omega)) (hgl _ (Nat.le_of_ble_eq_true rfl)) ?_
      try dsimp only
      repeat' ((fail_if_success (with_reducible show wpAny _ _ (subscriptTail _ _ _ _) _ _ _)); first | (k_unfold; (try dsimp only)) | (k_end; kc_close) | walk1 | (dsimp only; walk1) | (leave1; (try dsimp only)) | fail "no step")
      refine slice_le_ns (h₁ := h6) (s := ⟨_, _, _, _, _⟩) (fun _ _ e => e) ?_ hsz
      intro h9 t9 k9 hst9 hk9
      try dsimp only at hk9 ⊢
      have F9 := fr_on F6 hst9
      have N9 : News s.heap L h9 [] := News.nil
      clear F6
      repeat' ((fail_if_success (with_reducible show wpAny _ _ (binaryOp Operator.Add (Value.str _ _) _) _ _ _)); first | (k_unfold; (try dsimp only)) | (k_end; kc_close) | walk1 | (dsimp only; walk1) | (leave1; (try dsimp only)) | fail "no step")
      refine add_le ?_ (hln _ _ (hle3 _ _) (by decide))
      intro t10 k10 hk10 hx10
      try dsimp only at hk10 hx10 ⊢
      repeat' ((fail_if_success (with_reducible show wpAny _ _ (subscriptTail _ _ _ _) _ _ _)); first | (k_unfold; (try dsimp only)) | (k_end; kc_close) | walk1 | (dsimp only; walk1) | (leave1; (try dsimp only)) | fail "no step")
      refine slice_le_sn (h₁ := h9) (s := ⟨_, _, _, _, _⟩) (fun _ _ e => e) ?_ hsz
      intro h11 t11 k11 hst11 hk11
      try dsimp only at hk11 ⊢
      have F11 := fr_on F9 hst11
      have N11 : News s.heap L h11 [] := News.nil
      clear F9
      repeat' ((fail_if_success (with_reducible show wpAny _ _ (binaryOp Operator.Add (Value.str _ _) _) _ _ _)); first | (k_unfold; (try dsimp only)) | (k_end; kc_close) | walk1 | (dsimp only; walk1) | (leave1; (try dsimp only)) | fail "no step")
      refine add_le ?_ (hln _ _ (by rw [str_app_len]; have v1 := hsl none (some ((H0.length + 5 + f0.length + f1.length + num.length : Nat) : Int)); have v2 : (Str.ofString "#").length = 1 := rfl; (first | exact omG38.2.2.2.2.2.2.2.1 v1 v2 | omega)) (hle3 _ _))
      intro t12 k12 _ _
      k_steps

      (rename Fr _ _ _ _ => F13)
      (rename News _ _ _ _ => N13)
      have hall := spoiled_facts S M (e := ((H0.length + 5 + f0.length + f1.length + num.length : Nat) : Int)) rfl
      refine ret _ _ _ _ _ _ F13.keep (N13 _ (.head _)).2.2 (N13 _ (.head _)).1 (.cons _ _ (.cons _ _ (.cons _ _ (.cons _ _ (.cons _ _ (.cons _ _ .nil)))))) rfl (fun y hy => (hall y hy).1) (fun y hy => (hall y hy).2)
end

section
open PySem PySem.W PySem.Calls PyProof.Rows
set_option maxRecDepth 100000
set_option maxHeartbeats 8000000

noncomputable abbrev fourI (c0 c1 c2 c3 : Int) (t0 t1 t2 t3 : Tok) (e : Nat) : Obj := W.listOf #[.int c0 t0, .int c1 t1, .int c2 t2, .int c3 t3] e
noncomputable def LJ1 (s : Shared) (L : Addr) (oc : Obj) : Flow → Shared → Prop := fun fl s1 => Hold (∀ ZZ : Flow → Shared → Prop, (∀ (D : Addr) (c0 c1 c2 c3 : Int) (t0 t1 t2 t3 : Tok) (e : Nat) (wd : Nat) (tw : Tok) (h' : Heap) (tk' : Nat) (m' : Str → Option Value), Fr s.heap L h' m' → News s.heap L h' [(D, fourI c0 c1 c2 c3 t0 t1 t2 t3 e), (L + 1, oc)] → D ≠ L + 1 → 1 ≤ wd → wd ≤ 3 → m' "cells" = some (.ref D) → m' "width" = some (.int wd tw) →
      ZZ .next { s with heap := h', toks := tk' }) → ZZ fl s1)
theorem LJ1.intro {s : Shared} {L : Addr} {oc : Obj} {D : Addr} {c0 c1 c2 c3 : Int} {t0 t1 t2 t3 : Tok} {e : Nat} {x : Int} {tw : Tok} {h' : Heap} {tk' : Nat} {m' : Str → Option Value} (F : Fr s.heap L h' m') (N : News s.heap L h' [(D, fourI c0 c1 c2 c3 t0 t1 t2 t3 e), (L + 1, oc)]) (hD1 : D ≠ L + 1)
    (h1 : m' "cells" = some (.ref D)) (h2 : m' "width" = some (.int (1 + x.fmod 3) tw)) : LJ1 s L oc .next { s with heap := h', toks := tk' } := by
  k_with_none
  k_with "om" => (with_reducible (first | assumption | exact nnA (by assumption) | exact nnB (by assumption) | exact nnC (by assumption) (by assumption) | exact nnD (by assumption) | exact nnE (by assumption) | exact omG21.2.2.2.1 (by assumption) (by assumption) | exact omG21.2.2.1 (by assumption) (by assumption) | exact omG30.2.2.2.2.1 (by assumption) (by assumption)))
  k_with "eval Name" => ((k_here; k_dflt (refine' nameX_L ?k1 ?k2 ?_; (case k1 => k_asm); (case k2 => assumption); k_whole)))
  k_with "binaryOp Mult int int" => ((k_here; refine mul_int ?_ (by assumption)))
  k_with "binaryOp FloorDiv int int" => ((k_here; refine floordiv_int (by assumption) ?_ (Or.inl (by assumption))))
  k_with "binaryOp Mod int int" => ((k_here; refine mod_int' (by assumption) ?_))
  k_with "binaryOp Pow int int" => ((k_here; refine pow_int (by first | assumption | omega) (by assumption) ?_))
  k_with "cell" => (k_dflt (refine' enterF ?hX ?hlim ?ho ?hcd ?hr ?hbind ?hloc ?_ ?c2 ?c3 ?c4 ?c5; (case hX => assumption); (case hlim => exact Top.nolimit (by assumption)); (case ho => k_is); (case hcd => k_is); (case hr => exact Cx.depth (by assumption)); (case hbind => exact BindsTo.of_eq rfl); (case hloc => exact locs rfl); (case c2 => decide); (case c3 => exact rfl); (case c4 => exact rfl); (case c5 => exact rfl); k_whole))
  have : 0 ≤ x.fmod 3 ∧ x.fmod 3 < 3 := by
    rw [Int.fmod_eq_emod_of_nonneg _ (by (first | exact omG16.2.2.1 | omega))]; (first | exact omG23.2.1 | omega)
  obtain ⟨n, hn⟩ := Int.eq_ofNat_of_zero_le (show 0 ≤ 1 + x.fmod 3 by (first | exact omG23.2.2.1 this | omega))
  exact ⟨fun _ k => k D c0 c1 c2 c3 t0 t1 t2 t3 e n tw _ _ _ F N hD1 (by (first | exact omG23.2.2.2.1 this hn | omega)) (by (first | exact omG23.2.2.2.2.1 this hn | omega)) h1 (by rw [h2, hn])⟩

noncomputable def LJ2 (s : Shared) (L : Addr) (oc : Obj) (D : Addr) (oD : Obj) (wd : Nat) : Flow → Shared → Prop := fun fl s1 => Hold (∀ ZZ : Flow → Shared → Prop, (∀ (whole figure dress : Int) (tw tb th tf td : Tok) (h' : Heap) (tk' : Nat) (m' : Str → Option Value), Fr s.heap L h' m' → News s.heap L h' [(D, oD), (L + 1, oc)] → 2 ^ (2 * wd - 1) ≤ whole → whole < 2 ^ (2 * wd) → 0 ≤ figure → figure < 2 ^ wd → m' "cells" = some (.ref D) → m' "width" = some (.int wd tw) → m' "base" = some (.int (2 ^ wd) tb) →
      m' "whole" = some (.int whole th) → m' "figure" = some (.int figure tf) → m' "dress" = some (.int dress td) → ZZ .next { s with heap := h', toks := tk' }) → ZZ fl s1)
theorem LJ2.intro {s : Shared} {L : Addr} {oc : Obj} {D : Addr} {oD : Obj} {wd : Nat} {c0 c1 : Int} {tw tb th tf td : Tok} {h' : Heap} {tk' : Nat} {m' : Str → Option Value} (hw : 1 ≤ wd) (F : Fr s.heap L h' m') (N : News s.heap L h' [(D, oD), (L + 1, oc)])
    (h1 : m' "cells" = some (.ref D)) (h2 : m' "width" = some (.int wd tw)) (h3 : m' "base" = some (.int (2 ^ (wd : Int).toNat) tb))
    (h4 : m' "whole" = some (.int ((2 ^ (wd : Int).toNat * 2 ^ (wd : Int).toNat : Int).fdiv 2 + (c0.fdiv 3).fmod ((2 ^ (wd : Int).toNat * 2 ^ (wd : Int).toNat : Int).fdiv 2)) th))
    (h5 : m' "figure" = some (.int (c1.fmod (2 ^ (wd : Int).toNat)) tf)) (h6 : m' "dress" = some (.int (c1.fdiv (2 ^ (wd : Int).toNat)) td)) : LJ2 s L oc D oD wd .next { s with heap := h', toks := tk' } := by
  k_with_none
  k_with "om" => (with_reducible (first | assumption | exact nnA (by assumption) | exact nnB (by assumption) | exact nnC (by assumption) (by assumption) | exact nnD (by assumption) | exact nnE (by assumption) | exact omG21.2.2.2.1 (by assumption) (by assumption) | exact omG21.2.2.1 (by assumption) (by assumption) | exact omG30.2.2.2.2.1 (by assumption) (by assumption)))
  k_with "eval Name" => ((k_here; k_dflt (refine' nameX_L ?k1 ?k2 ?_; (case k1 => k_asm); (case k2 => assumption); k_whole)))
  k_with "binaryOp Mult int int" => ((k_here; refine mul_int ?_ (by assumption)))
  k_with "binaryOp FloorDiv int int" => ((k_here; refine floordiv_int (by assumption) ?_ (Or.inl (by assumption))))
  k_with "binaryOp Mod int int" => ((k_here; refine mod_int' (by assumption) ?_))
  k_with "binaryOp Pow int int" => ((k_here; refine pow_int (by first | assumption | omega) (by assumption) ?_))
  k_with "cell" => (k_dflt (refine' enterF ?hX ?hlim ?ho ?hcd ?hr ?hbind ?hloc ?_ ?c2 ?c3 ?c4 ?c5; (case hX => assumption); (case hlim => exact Top.nolimit (by assumption)); (case ho => k_is); (case hcd => k_is); (case hr => exact Cx.depth (by assumption)); (case hbind => exact BindsTo.of_eq rfl); (case hloc => exact locs rfl); (case c2 => decide); (case c3 => exact rfl); (case c4 => exact rfl); (case c5 => exact rfl); k_whole))
  rw [Int.toNat_natCast] at h3 h4 h5 h6
  have e1 : (2 : Int) ^ wd * 2 ^ wd = 2 ^ (2 * wd - 1) * 2 := by rw [← Int.pow_add, ← Int.pow_succ]; congr 1; (first | exact omG23.2.2.2.2.2.1 hw | omega)
  have e2 : (2 : Int) ^ (2 * wd) = 2 ^ (2 * wd - 1) * 2 := by rw [← Int.pow_succ]; congr 1; (first | exact omG23.2.2.2.2.2.2.1 hw | omega)
  have p1 : (0 : Int) < 2 ^ (2 * wd - 1) := Int.pow_pos (by decide)
  have p2 : (0 : Int) < 2 ^ wd := Int.pow_pos (by decide)
  have e3 : ((2 : Int) ^ wd * 2 ^ wd).fdiv 2 = 2 ^ (2 * wd - 1) := by rw [e1, Int.mul_fdiv_cancel _ (by decide)]
  rw [e3] at h4
  have hff' := fdiv_facts (c0.fdiv 3) p1
  have g1 := hff'.2.1
  have g2 := hff'.2.2
  clear hff'
  have hff' := fdiv_facts c1 p2
  have g3 := hff'.2.1
  have g4 := hff'.2.2
  clear hff'
  exact ⟨fun _ k => k _ _ _ tw tb th tf td _ _ _ F N (by (first | exact omG23.2.2.2.2.2.2.2.1 g1 | omega)) (by (first | exact omG23.2.2.2.2.2.2.2.2.1 e2 g2 | omega)) g3 g4 h1 h2 h3 h4 h5 h6⟩

noncomputable def LJ3 (s : Shared) (L : Addr) (D : Addr) (oD : Obj) (wd : Nat) (whole figure dress : Int) : Flow → Shared → Prop := fun fl s1 => Hold (∀ ZZ : Flow → Shared → Prop, (∀ (B : Addr) (oc : Obj) (v : Value) (h' : Heap) (tk' : Nat) (m' : Str → Option Value) (u1 u2 u3 u4 u5 : Tok), Fr s.heap L h' m' → News s.heap L h' [(B, W.listOf #[] 0), (D, oD), (L + 1, oc)] → oc.data = .cell (some v) → B ≠ D → B ≠ L + 1 → m' "book" = some (.ref B) → m' "cells" = some (.ref D) →
      m' "width" = some (.int (wd : Int) u1) → m' "base" = some (.int (2 ^ wd) u2) → m' "whole" = some (.int whole u3) → m' "figure" = some (.int figure u4) → m' "dress" = some (.int dress u5) → ZZ .next { s with heap := h', toks := tk' }) → ZZ fl s1)
theorem LJ3.intro {s : Shared} {L : Addr} {oc : Obj} {v : Value} {B D : Addr} {oD : Obj} {wd : Nat} {whole figure dress : Int} {tw tb th tf td : Tok} {h' : Heap} {tk' : Nat} {m' : Str → Option Value} (F : Fr s.heap L h' m') (N : News s.heap L h' [(B, W.listOf #[] 0), (D, oD), (L + 1, oc)]) (hc : oc.data = .cell (some v)) (hB : B ≠ D) (hB' : B ≠ L + 1)
    (h1 : m' "book" = some (.ref B)) (h2 : m' "cells" = some (.ref D)) (h3 : m' "width" = some (.int wd tw)) (h4 : m' "base" = some (.int (2 ^ wd) tb)) (h5 : m' "whole" = some (.int whole th)) (h6 : m' "figure" = some (.int figure tf)) (h7 : m' "dress" = some (.int dress td)) :
    LJ3 s L D oD wd whole figure dress .next { s with heap := h', toks := tk' } := ⟨fun _ k => k B oc v _ _ m' _ _ _ _ _ F N hc hB hB' h1 h2 h3 h4 h5 h6 h7⟩

noncomputable def CmpJ (s : Shared) (L it B D : Addr) (oD : Obj) (wd : Nat) (whole figure dress : Int) (r : Int) (s1 : Shared) : Prop :=
  Hold (∀ ZZ : Shared → Prop, (∀ (h : Heap) (tk : Nat) (gens : Array GenState) (m1 : Str → Option Value) (bk : List (Addr × Obj)) (es : List (Int × Int)) (e : Nat) (oc : Obj) (v1 v2 v3 v4 v5 : Tok), (AllBare s.gens → AllBare gens) → Fr s.heap L h m1 → News s.heap L h ((it, rngIt r (whole - r)) :: (B, W.listOf (refsOf bk).toArray e) :: (L + 1, oc) :: (D, oD) :: bk) →
      it ≠ B → it ≠ L + 1 → it ≠ D → (∀ p ∈ bk, p.1 ≠ it) → BookAt L B D bk es wd whole figure oc → (es.length : Int) = whole → 0 ≤ r → r ≤ whole → m1 "book" = some (.ref B) → m1 "cells" = some (.ref D) →
      m1 "width" = some (.int (wd : Int) v1) → m1 "base" = some (.int (2 ^ wd) v2) → m1 "whole" = some (.int whole v3) → m1 "figure" = some (.int figure v4) → m1 "dress" = some (.int dress v5) → ZZ { s with heap := h, toks := tk, gens := gens }) → ZZ s1)
noncomputable def WalkJ (s : Shared) (L B D P G : Addr) (oD oc : Obj) (wd : Nat) (whole figure dress : Int) (gens : Array GenState) (bk : List (Addr × Obj)) (e3 : Nat) (n : Nat) (s1 : Shared) : Prop :=
  Hold (∀ ZZ : Shared → Prop, (∀ (h : Heap) (tk : Nat) (m1 : Str → Option Value) (pv gv : List Value) (ps gs : List Int) (e1 e2 : Nat) (place : Int) (tp v1 v2 v3 v4 v5 : Tok), Fr s.heap L h m1 →
      News s.heap L h ((P, W.listOf pv.toArray e1) :: (G, W.listOf gv.toArray e2) :: (B, W.listOf (refsOf bk).toArray e3) :: (L + 1, oc) :: (D, oD) :: bk) → IntsAre pv ps → IntsAre gv gs → Pre (2 ^ wd) whole figure place ps gs → (n : Int) = whole - ps.length →
      m1 "place" = some (.int place tp) → m1 "path" = some (.ref P) → m1 "figures" = some (.ref G) → m1 "book" = some (.ref B) → m1 "cells" = some (.ref D) →
      m1 "width" = some (.int (wd : Int) v1) → m1 "base" = some (.int (2 ^ wd) v2) → m1 "whole" = some (.int whole v3) → m1 "figure" = some (.int figure v4) → m1 "dress" = some (.int dress v5) → ZZ { s with heap := h, toks := tk, gens := gens }) → ZZ s1)
noncomputable def WalkS (s : Shared) (L B D : Addr) (oD oc : Obj) (wd : Nat) (whole figure dress : Int) (gens : Array GenState) (bk : List (Addr × Obj)) (e3 : Nat) : Flow → Shared → Prop := fun fl s1 => Hold (fl = .next ∧ ∃ P G n,
  (∀ q ∈ (B, W.listOf (refsOf bk).toArray e3) :: (L + 1, oc) :: (D, oD) :: bk, q.1 ≠ P ∧ q.1 ≠ G) ∧ P ≠ G ∧ WalkJ s L B D P G oD oc wd whole figure dress gens bk e3 n s1)
section
variable {s s1 : Shared} {L B D it P G : Addr} {oc oD : Obj} {wd : Nat} {whole figure dress : Int} {M : Model} {A : Around} {T : Sem Flow} {s0 : Shared} {R : Flow → Shared → Prop} {E : Value → Shared → Prop}
theorem LJ1.cut (h1 : wpAny M A T (LJ1 s L oc) (fun _ _ => False) s0)
    (k : ∀ (D : Addr) (c0 c1 c2 c3 : Int) (t0 t1 t2 t3 : Tok) (e : Nat) (wd : Nat) (tw : Tok) (h' : Heap) (tk' : Nat) (m' : Str → Option Value), Fr s.heap L h' m' → News s.heap L h' [(D, fourI c0 c1 c2 c3 t0 t1 t2 t3 e), (L + 1, oc)] → D ≠ L + 1 → 1 ≤ wd → wd ≤ 3 → m' "cells" = some (.ref D) → m' "width" = some (.int wd tw) →
      R .next { s with heap := h', toks := tk' }) : wpAny M A T R E s0 := wpAny_mono h1 (fun _ _ H => H.out _ k) fun _ _ h => h.elim
theorem LJ2.cut (h1 : wpAny M A T (LJ2 s L oc D oD wd) (fun _ _ => False) s0)
    (k : ∀ (whole figure dress : Int) (tw tb th tf td : Tok) (h' : Heap) (tk' : Nat) (m' : Str → Option Value), Fr s.heap L h' m' → News s.heap L h' [(D, oD), (L + 1, oc)] → 2 ^ (2 * wd - 1) ≤ whole → whole < 2 ^ (2 * wd) → 0 ≤ figure → figure < 2 ^ wd → m' "cells" = some (.ref D) → m' "width" = some (.int wd tw) → m' "base" = some (.int (2 ^ wd) tb) →
      m' "whole" = some (.int whole th) → m' "figure" = some (.int figure tf) → m' "dress" = some (.int dress td) → R .next { s with heap := h', toks := tk' }) : wpAny M A T R E s0 := wpAny_mono h1 (fun _ _ H => H.out _ k) fun _ _ h => h.elim
theorem LJ3.cut (h1 : wpAny M A T (LJ3 s L D oD wd whole figure dress) (fun _ _ => False) s0)
    (k : ∀ (B : Addr) (oc : Obj) (v : Value) (h' : Heap) (tk' : Nat) (m' : Str → Option Value) (u1 u2 u3 u4 u5 : Tok), Fr s.heap L h' m' → News s.heap L h' [(B, W.listOf #[] 0), (D, oD), (L + 1, oc)] → oc.data = .cell (some v) → B ≠ D → B ≠ L + 1 → m' "book" = some (.ref B) → m' "cells" = some (.ref D) →
      m' "width" = some (.int (wd : Int) u1) → m' "base" = some (.int (2 ^ wd) u2) → m' "whole" = some (.int whole u3) → m' "figure" = some (.int figure u4) → m' "dress" = some (.int dress u5) → R .next { s with heap := h', toks := tk' }) : wpAny M A T R E s0 := wpAny_mono h1 (fun _ _ H => H.out _ k) fun _ _ h => h.elim
theorem CmpJ.mk' {r : Int} {h : Heap} {tk : Nat} {gens : Array GenState} {m1 : Str → Option Value} {bk : List (Addr × Obj)} {es : List (Int × Int)} {e : Nat} {v1 v2 v3 v4 v5 : Tok} (hB : AllBare s.gens → AllBare gens) (F : Fr s.heap L h m1) (N : News s.heap L h ((it, rngIt r (whole - r)) :: (B, W.listOf (refsOf bk).toArray e) :: (L + 1, oc) :: (D, oD) :: bk))
    (i1 : it ≠ B) (i2 : it ≠ L + 1) (i3 : it ≠ D) (i4 : ∀ p ∈ bk, p.1 ≠ it) (K : BookAt L B D bk es wd whole figure oc) (hl : (es.length : Int) = whole) (r0 : 0 ≤ r) (r1 : r ≤ whole) (b1 : m1 "book" = some (.ref B)) (b2 : m1 "cells" = some (.ref D))
    (n1 : m1 "width" = some (.int (wd : Int) v1)) (n2 : m1 "base" = some (.int (2 ^ wd) v2)) (n3 : m1 "whole" = some (.int whole v3)) (n4 : m1 "figure" = some (.int figure v4)) (n5 : m1 "dress" = some (.int dress v5)) :
    CmpJ s L it B D oD wd whole figure dress r { s with heap := h, toks := tk, gens := gens } := ⟨fun _ k => k h tk gens m1 bk es e oc _ _ _ _ _ hB F N i1 i2 i3 i4 K hl r0 r1 b1 b2 n1 n2 n3 n4 n5⟩
theorem CmpJ.elim {R : Shared → Prop} {r : Int} (H : CmpJ s L it B D oD wd whole figure dress r s1)
    (k : ∀ (h : Heap) (tk : Nat) (gens : Array GenState) (m1 : Str → Option Value) (bk : List (Addr × Obj)) (es : List (Int × Int)) (e : Nat) (oc : Obj) (v1 v2 v3 v4 v5 : Tok), (AllBare s.gens → AllBare gens) → Fr s.heap L h m1 → News s.heap L h ((it, rngIt r (whole - r)) :: (B, W.listOf (refsOf bk).toArray e) :: (L + 1, oc) :: (D, oD) :: bk) →
      it ≠ B → it ≠ L + 1 → it ≠ D → (∀ p ∈ bk, p.1 ≠ it) → BookAt L B D bk es wd whole figure oc → (es.length : Int) = whole → 0 ≤ r → r ≤ whole → m1 "book" = some (.ref B) → m1 "cells" = some (.ref D) →
      m1 "width" = some (.int (wd : Int) v1) → m1 "base" = some (.int (2 ^ wd) v2) → m1 "whole" = some (.int whole v3) → m1 "figure" = some (.int figure v4) → m1 "dress" = some (.int dress v5) → R { s with heap := h, toks := tk, gens := gens }) : R s1 := H.out _ k
theorem WalkJ.mk' {gens : Array GenState} {bk : List (Addr × Obj)} {e3 n : Nat} {h : Heap} {tk : Nat} {m1 : Str → Option Value} {pv gv : List Value} {ps gs : List Int} {e1 e2 : Nat} {place : Int} {tp v1 v2 v3 v4 v5 : Tok} (F : Fr s.heap L h m1)
    (N : News s.heap L h ((P, W.listOf pv.toArray e1) :: (G, W.listOf gv.toArray e2) :: (B, W.listOf (refsOf bk).toArray e3) :: (L + 1, oc) :: (D, oD) :: bk)) (hp : IntsAre pv ps) (hg : IntsAre gv gs) (H : Pre (2 ^ wd) whole figure place ps gs) (hn : (n : Int) = whole - ps.length)
    (a1 : m1 "place" = some (.int place tp)) (a2 : m1 "path" = some (.ref P)) (a3 : m1 "figures" = some (.ref G)) (b1 : m1 "book" = some (.ref B)) (b2 : m1 "cells" = some (.ref D))
    (n1 : m1 "width" = some (.int (wd : Int) v1)) (n2 : m1 "base" = some (.int (2 ^ wd) v2)) (n3 : m1 "whole" = some (.int whole v3)) (n4 : m1 "figure" = some (.int figure v4)) (n5 : m1 "dress" = some (.int dress v5)) :
    WalkJ s L B D P G oD oc wd whole figure dress gens bk e3 n { s with heap := h, toks := tk, gens := gens } := ⟨fun _ k => k h tk m1 pv gv ps gs e1 e2 place tp _ _ _ _ _ F N hp hg H hn a1 a2 a3 b1 b2 n1 n2 n3 n4 n5⟩
theorem WalkJ.elim {R : Shared → Prop} {gens : Array GenState} {bk : List (Addr × Obj)} {e3 n : Nat} (H : WalkJ s L B D P G oD oc wd whole figure dress gens bk e3 n s1)
    (k : ∀ (h : Heap) (tk : Nat) (m1 : Str → Option Value) (pv gv : List Value) (ps gs : List Int) (e1 e2 : Nat) (place : Int) (tp v1 v2 v3 v4 v5 : Tok), Fr s.heap L h m1 →
      News s.heap L h ((P, W.listOf pv.toArray e1) :: (G, W.listOf gv.toArray e2) :: (B, W.listOf (refsOf bk).toArray e3) :: (L + 1, oc) :: (D, oD) :: bk) → IntsAre pv ps → IntsAre gv gs → Pre (2 ^ wd) whole figure place ps gs → (n : Int) = whole - ps.length →
      m1 "place" = some (.int place tp) → m1 "path" = some (.ref P) → m1 "figures" = some (.ref G) → m1 "book" = some (.ref B) → m1 "cells" = some (.ref D) →
      m1 "width" = some (.int (wd : Int) v1) → m1 "base" = some (.int (2 ^ wd) v2) → m1 "whole" = some (.int whole v3) → m1 "figure" = some (.int figure v4) → m1 "dress" = some (.int dress v5) → R { s with heap := h, toks := tk, gens := gens }) : R s1 := H.out _ k
theorem WalkS.cut {gens : Array GenState} {bk : List (Addr × Obj)} {e3 : Nat} (h1 : wpAny M A T (WalkS s L B D oD oc wd whole figure dress gens bk e3) (fun _ _ => False) s0)
    (k : ∀ P G n s1, (∀ q ∈ (B, W.listOf (refsOf bk).toArray e3) :: (L + 1, oc) :: (D, oD) :: bk, q.1 ≠ P ∧ q.1 ≠ G) → P ≠ G → WalkJ s L B D P G oD oc wd whole figure dress gens bk e3 n s1 → R .next s1) : wpAny M A T R E s0 := by
  k_with_none
  k_with "om" => (with_reducible (first | assumption | exact nnA (by assumption) | exact nnB (by assumption) | exact nnC (by assumption) (by assumption) | exact nnD (by assumption) | exact nnE (by assumption) | exact omG21.2.2.2.1 (by assumption) (by assumption) | exact omG21.2.2.1 (by assumption) (by assumption) | exact omG30.2.2.2.2.1 (by assumption) (by assumption)))
  k_with "eval Name" => ((k_here; k_dflt (refine' nameX_L ?k1 ?k2 ?_; (case k1 => k_asm); (case k2 => assumption); k_whole)))
  k_with "binaryOp Mult int int" => ((k_here; refine mul_int ?_ (by assumption)))
  k_with "binaryOp FloorDiv int int" => ((k_here; refine floordiv_int (by assumption) ?_ (Or.inl (by assumption))))
  k_with "binaryOp Mod int int" => ((k_here; refine mod_int' (by assumption) ?_))
  k_with "binaryOp Pow int int" => ((k_here; refine pow_int (by first | assumption | omega) (by assumption) ?_))
  k_with "cell" => (k_dflt (refine' enterF ?hX ?hlim ?ho ?hcd ?hr ?hbind ?hloc ?_ ?c2 ?c3 ?c4 ?c5; (case hX => assumption); (case hlim => exact Top.nolimit (by assumption)); (case ho => k_is); (case hcd => k_is); (case hr => exact Cx.depth (by assumption)); (case hbind => exact BindsTo.of_eq rfl); (case hloc => exact locs rfl); (case c2 => decide); (case c3 => exact rfl); (case c4 => exact rfl); (case c5 => exact rfl); k_whole))
  refine wpAny_mono h1 (fun fl s1 H => ?_) fun _ _ h => h.elim
  obtain ⟨rfl, P, G, n, a, b, c⟩ := H
  exact k P G n s1 a b c
end
theorem whole_rng {whole : Int} (h0 : 0 ≤ whole) (h1 : whole < 2 ^ 6) : Builtin.Range.small 0 whole 1 = true ∧ Builtin.Range.rangeSize 0 whole 1 = whole := by
  k_with_none
  k_with "om" => (with_reducible (first | assumption | exact nnA (by assumption) | exact nnB (by assumption) | exact nnC (by assumption) (by assumption) | exact nnD (by assumption) | exact nnE (by assumption) | exact omG21.2.2.2.1 (by assumption) (by assumption) | exact omG21.2.2.1 (by assumption) (by assumption) | exact omG30.2.2.2.2.1 (by assumption) (by assumption)))
  k_with "eval Name" => ((k_here; k_dflt (refine' nameX_L ?k1 ?k2 ?_; (case k1 => k_asm); (case k2 => assumption); k_whole)))
  k_with "binaryOp Mult int int" => ((k_here; refine mul_int ?_ (by assumption)))
  k_with "binaryOp FloorDiv int int" => ((k_here; refine floordiv_int (by assumption) ?_ (Or.inl (by assumption))))
  k_with "binaryOp Mod int int" => ((k_here; refine mod_int' (by assumption) ?_))
  k_with "binaryOp Pow int int" => ((k_here; refine pow_int (by first | assumption | omega) (by assumption) ?_))
  k_with "cell" => (k_dflt (refine' enterF ?hX ?hlim ?ho ?hcd ?hr ?hbind ?hloc ?_ ?c2 ?c3 ?c4 ?c5; (case hX => assumption); (case hlim => exact Top.nolimit (by assumption)); (case ho => k_is); (case hcd => k_is); (case hr => exact Cx.depth (by assumption)); (case hbind => exact BindsTo.of_eq rfl); (case hloc => exact locs rfl); (case c2 => decide); (case c3 => exact rfl); (case c4 => exact rfl); (case c5 => exact rfl); k_whole))
  obtain ⟨n, rfl⟩ := Int.eq_ofNat_of_zero_le h0
  have : ∀ k : Fin 64, Builtin.Range.small 0 ((k.val : Nat) : Int) 1 = true ∧ Builtin.Range.rangeSize 0 ((k.val : Nat) : Int) 1 = ((k.val : Nat) : Int) := by decide +kernel
  exact this ⟨n, by (first | exact omG23.2.2.2.2.2.2.2.2.2.1 h1 | omega)⟩

theorem law_tells {w : World} {mean : ExcName → Option Value} {mg mb : Str → Option Value} {k : Nat} {A : Around} {s : Shared} {R : Result → Shared → Prop} {l : Addr} {ws : List Value} {zs : List Int} (C : Cx w mean mg mb (k + 20) A s.heap)
    (hA0 : A.frames = some []) (hl : s.heap.IsList l ws.toArray) (hI : IntsAre ws zs)
    (ret : ∀ h' tk' gens', s.heap.StaysIn h' → (AllBare s.gens → AllBare gens') → R (.ok (.ret (.bool true))) { s with heap := h', toks := tk', gens := gens' }) :
    codeAny (model PySem.Challenge.rw_xi0003_01.row.prog w) A (.call (.ref 133) ⟨[.ref l], []⟩) R s := by
  k_with_none
  k_with "om" => (with_reducible (first | assumption | exact nnA (by assumption) | exact nnB (by assumption) | exact nnC (by assumption) (by assumption) | exact nnD (by assumption) | exact nnE (by assumption) | exact omG21.2.2.2.1 (by assumption) (by assumption) | exact omG21.2.2.1 (by assumption) (by assumption) | exact omG30.2.2.2.2.1 (by assumption) (by assumption)))
  k_with "eval Name" => ((k_here; k_dflt (refine' nameX_L ?k1 ?k2 ?_; (case k1 => k_asm); (case k2 => assumption); k_whole)))
  k_with "binaryOp Mult int int" => ((k_here; refine mul_int ?_ (by assumption)))
  k_with "binaryOp FloorDiv int int" => ((k_here; refine floordiv_int (by assumption) ?_ (Or.inl (by assumption))))
  k_with "binaryOp Mod int int" => ((k_here; refine mod_int' (by assumption) ?_))
  k_with "binaryOp Pow int int" => ((k_here; refine pow_int (by first | assumption | omega) (by assumption) ?_))
  k_with "cell" => (k_dflt (refine' enterF ?hX ?hlim ?ho ?hcd ?hr ?hbind ?hloc ?_ ?c2 ?c3 ?c4 ?c5; (case hX => assumption); (case hlim => exact Top.nolimit (by assumption)); (case ho => k_is); (case hcd => k_is); (case hr => exact Cx.depth (by assumption)); (case hbind => exact BindsTo.of_eq rfl); (case hloc => exact locs rfl); (case c2 => decide); (case c3 => exact rfl); (case c4 => exact rfl); (case c5 => exact rfl); k_whole))
  obtain ⟨hd0, dp, fr, gd, un⟩ := A
  obtain rfl : hd0 = none := C.hand
  obtain rfl : fr = some [] := hA0
  have X := C.X
  have T := C.T
  have B0 : Below { handled := none, depth := dp, frames := some [], guards := gd, units := un } s.heap [] s.heap := ⟨rfl, fun _ _ e => e, trivial⟩
  k_dflt (refine' enterC ?hX ?hlim ?ho ?hcd ?hr ?hbind ?hkind ?hnd ?_ ?c3 ?c4 ?c5; (case hX => assumption); (case hlim => exact Top.nolimit (by assumption)); (case ho => k_is); (case hcd => k_is); (case hr => exact Cx.depth (by assumption)); (case hbind => exact BindsTo.of_eq rfl); (case hkind => exact fun n x hx => .inl (locs rfl x hx)); (case hnd => decide); (case c3 => exact rfl); (case c4 => exact rfl); (case c5 => exact rfl); k_whole)
  intro L h₁ tk₁ cells F NN X0 eL
  try dsimp only
  k_fold
  refine ex1 (CellsAre.one X0) ?_
  rintro oc xq5
  refine an2 xq5 ?_
  clear xq5
  rintro rfl hoc
  clear X0
  refine execs_at 2 ?_
  dsimp only [List.take, List.drop]
  refine LJ1.cut (s := s) (L := L) (oc := oc) ?_ ?_
  · repeat' ((fail_if_success (with_reducible show wpAny _ _ (call (Value.ref _) _) _ _ _)); first | (k_unfold; (try dsimp only)) | (k_end; kc_close) | walk1 | (dsimp only; walk1) | (leave1; (try dsimp only)) | fail "no step")
    refine cells_tells (k := k + 17) (C.pushE F rfl rfl) (hl.at fun o e => F.keep _ o e) hI ?_
    intro D h' tk' c0 c1 c2 c3 t0 t1 t2 t3 e hst hnew hD
    have F' := fr_on F hst
    have hD1 := news_ne NN hnew _ (.head _)
    have N' := news_add F NN hst hnew hD
    clear F NN
    k_steps
    (rename Fr _ _ _ _ => F9)
    (rename News _ _ _ _ => N9)
    exact LJ1.intro F9 N9 (Ne.symm hD1) rfl rfl
  · intro D c0 c1 c2 c3 t0 t1 t2 t3 e wd tw h2 tk2 m2 F2 N2 hD1 hw1 hw3 m1 m2'
    clear F NN
    dsimp only
    refine execs_at 3 ?_
    dsimp only [List.take, List.drop]
    have eW : (wd : Int).toNat = wd := Int.toNat_natCast wd
    have hb2 : Builtin.Int.intBits 2 = 2 := by decide
    have s1 : (0 : Int) ≤ wd := by (first | exact omG3.2.2.2.2.2.2.2.2.2.1 | omega)
    have s2 : (Builtin.Int.intBits 2 : Int) * wd ≤ 2 ^ 27 := by rw [hb2]; (first | exact omG12.2.2.2.2.2.1 hw3 | omega)
    have b0 : Builtin.Int.intBits ((2 : Int) ^ (wd : Int).toNat) ≤ 4 := by rw [eW]; exact bits_le' (Int.le_of_lt (Int.pow_pos (by decide))) (Int.lt_of_le_of_lt (pow_mono hw3) (by decide))
    have s3 : IntMulOk ((2 : Int) ^ (wd : Int).toNat) ((2 : Int) ^ (wd : Int).toNat) := IntMulOk.of_bits (by (first | exact omG13.1 b0 | omega)) (by (first | exact omG13.1 b0 | omega))
    have s4 : (2 : Int) ≠ 0 := by decide
    have s5 : (3 : Int) ≠ 0 := by decide
    have hp : (0 : Int) < 2 ^ (wd : Int).toNat := Int.pow_pos (by decide)
    have hp3 : ((2 : Int) ^ (wd : Int).toNat) < 2 ^ 4 := by rw [eW]; exact Int.lt_of_le_of_lt (pow_mono hw3) (by decide)
    have hp2 : (2 : Int) ≤ 2 ^ (wd : Int).toNat := by rw [eW]; have := pow_mono (m := 1) (n := wd) hw1; simpa using this
    have s6 : (2 : Int) ^ (wd : Int).toNat ≠ 0 := by (first | exact omG1.2.2.1 hp | omega)
    have s7 : ((2 : Int) ^ (wd : Int).toNat * 2 ^ (wd : Int).toNat).fdiv 2 ≠ 0 := by
      have : 2 * 2 ≤ (2 : Int) ^ (wd : Int).toNat * 2 ^ (wd : Int).toNat := Int.mul_le_mul hp2 hp2 (by decide) (by (first | exact omG1.2.2.2.2.1 hp | omega))
      rw [Int.fdiv_eq_ediv_of_nonneg _ (by decide)]; (first | exact omG23.2.2.2.2.2.2.2.2.2.2.1 this | omega)
    have s8 : Builtin.divisionGoesByPylong ((2 : Int) ^ (wd : Int).toNat * 2 ^ (wd : Int).toNat) 2 = false := noPy (k := 2) _ (by decide) (by decide) (by decide)
    have s9 : Builtin.divisionGoesByPylong c0 3 = false := noPy (k := 2) _ (by decide) (by decide) (by decide)
    have s10 : Builtin.divisionGoesByPylong c1 ((2 : Int) ^ (wd : Int).toNat) = false := noPy (k := 4) _ (by (first | exact omG1.2.2.2.2.1 hp | omega)) hp3 (by decide)
    generalize hoD : fourI c0 c1 c2 c3 t0 t1 t2 t3 e = oD at N2
    refine LJ2.cut (s := s) (L := L) (oc := oc) (D := D) (oD := oD) (wd := wd) ?_ ?_
    · subst hoD
      k_steps
      (rename Fr _ _ _ _ => F9)
      (rename News _ _ _ _ => N9)
      exact LJ2.intro (c0 := c0) (c1 := c1) hw1 F9 (cb_drop N9 (List.forall_mem_cons.mpr ⟨by k_mem, List.forall_mem_cons.mpr ⟨by k_mem, List.forall_mem_nil _⟩⟩)) m1 m2' rfl rfl rfl rfl
    · clear N2 F2 m1 m2' s1 s2 s3 s4 s5 s6 s7 s8 s9 s10 b0 hp hp2 hp3
      intro whole figure dress tw tb th tf td h2 tk2 m2 F2 N2 hwl hwh hf0 hf1 m1 m2' m3 m4 m5 m6
      dsimp only
      refine execs_at 1 ?_
      dsimp only [List.take, List.drop]
      refine LJ3.cut (s := s) (L := L) (D := D) (oD := oD) (wd := wd) (whole := whole) (figure := figure) (dress := dress) ?_ ?_
      · k_steps
        (rename Fr _ _ _ _ => F9)
        (rename News _ _ _ _ => N9)
        refine LJ3.intro F9 (cb_drop N9 (List.forall_mem_cons.mpr ⟨by k_mem, List.forall_mem_cons.mpr ⟨by k_mem, List.forall_mem_cons.mpr ⟨by k_mem, List.forall_mem_nil _⟩⟩⟩)) (by assumption) (neN (by (first | exact omG24.1 (by with_reducible assumption) | omega))) (neN (by (first | exact omG23.2.2.2.2.2.2.2.2.2.2.2 (by with_reducible assumption) | omega))) rfl m1 m2' m3 m4 m5 m6
      · clear N2 F2 m1 m2' m3 m4 m5 m6
        intro B oc' v h2 tk2 m2 u1 u2 u3 u4 u5 F2 N2 hoc' hB1 hB2 mB mC m1 m2' m3 m4 m5
        dsimp only
        refine execs_at 1 ?_
        dsimp only [List.take, List.drop]
        refine LJ4.cut (s := s) (L := L) (B := B) (D := D) (oD := oD) (wd := wd) (whole := whole) (figure := figure) (dress := dress) ?_ ?_
        · refine wpAny_execs_cons (for_turns (hs := fun _ => rfl) ?_)
          show wpAny _ _ _ _ _ _
          k_fold
          k_steps
          (rename IsRange _ _ _ _ _ _ _ _ => hR)
          (rename Fr _ _ _ _ => F9)
          (rename News _ _ _ _ => N9)
          obtain ⟨hsm, hsz⟩ := small_rng hw1 hw3
          refine iter_range hR hsm F9 N9 ?_
          intro it h4 F4 N4 hne
          rw [hsz] at N4
          have hp2 : (0 : Int) < 2 ^ wd := Int.pow_pos (by decide)
          have eN : (((2 : Int) ^ wd).toNat : Int) = 2 ^ wd := Int.toNat_of_nonneg (by (first | exact omG1.2.2.2.2.1 hp2 | omega))
          refine xi2 (fun n s1 => OutJ s L it B D oD wd whole figure dress (2 ^ wd - n) s1) (((2 : Int) ^ wd).toNat) ⟨?_, ?_⟩
          · show OutJ s L it B D oD wd whole figure dress (2 ^ wd - (((2 : Int) ^ wd).toNat : Int)) _
            rw [eN, Int.sub_self]
            refine OutJ.mk' (bk := []) (es := []) (e := 0) (oc := oc') (gens := s.gens) id F4 ?_ ?_ ?_ ?_ (by simp) ?_ ?_ ?_ ?_ ?_ mB mC m1 m2' m3 m4 m5
            · rw [Int.sub_zero]
              exact cb_drop N4 (List.forall_mem_cons.mpr ⟨.head _, List.forall_mem_cons.mpr ⟨.tail _ (.head _), List.forall_mem_cons.mpr ⟨.tail _ (.tail _ (.tail _ (.head _))), List.forall_mem_cons.mpr ⟨.tail _ (.tail _ (.head _)), List.forall_mem_nil _⟩⟩⟩⟩)
            · exact fun e => hne _ (.head _) e.symm
            · exact fun e => hne _ (.tail _ (.tail _ (.head _))) e.symm
            · exact fun e => hne _ (.tail _ (.head _)) e.symm
            · exact ⟨.nil, fun i e h => (by simp at h), ⟨v, hoc', fun h => absurd rfl h⟩, hB1, hB2, hD1, fun _ h => (by cases h), fun _ h => (by cases h), fun _ h => (by cases h)⟩
            · exact Int.le_refl _
            · (first | exact omG1.2.2.2.2.1 hp2 | omega)
            · simp; (first | exact omG6.2.2.2.2.2.1 hf0 | omega)
            · simp; (first | exact omG24.2.1 hf1 | omega)
          · intro n s1 HJ
            refine OutJ.elim HJ ?_
            clear HJ
            intro h3 tk3 gens3 m3 bk es e3 oc3 v1 v2 v3 v4 v5 hB3 F3 N3 hi1 hi2 hi3 hi4 hBk hq0 hq1 hlo hhi nB nC n1 n2 n3 n4 n5
            refine range_next rfl F3 N3 ?_ ?item ?done
            · exact List.forall_mem_cons.mpr ⟨Ne.symm hi1, List.forall_mem_cons.mpr ⟨Ne.symm hi2, List.forall_mem_cons.mpr ⟨Ne.symm hi3, hi4⟩⟩⟩
            case done =>
              intro hleft h4 F4 N4
              dsimp only
              k_steps
              have hq : (2 : Int) ^ wd - n = 2 ^ wd := by (first | exact omG24.2.2.1 hleft | omega)
              rw [hq] at hlo hhi
              exact LJ4.mk' hB3 F4 N4 hBk (book_end hp2 hlo hhi hf0 hf1) nB nC n1 n2 n3 n4 n5
            case item =>
              intro hleft h4 F4 N4
              dsimp only
              generalize hqe : (2 : Int) ^ wd - n = q at *
              have hwb : whole < 2 ^ 6 := Int.lt_of_lt_of_le hwh (pow_mono (by (first | exact omG15.2.1 hw3 | omega)))
              have hq8 : (2 : Int) ^ wd ≤ 2 ^ 3 := pow_mono hw3
              have hwpos : (0 : Int) < 2 ^ (2 * wd - 1) := Int.pow_pos (by decide)
              have y1 : IntMulOk q whole := IntMulOk.of_bits (by have := bits_le' hq0 (k := 4) (by (first | exact omG24.2.2.2.1 hqe hq8 | omega)); (first | exact omG13.1 this | omega)) (by have := bits_le' (show 0 ≤ whole by (first | exact omG0.2.2.2.2.2.2.1 hwl hwpos | omega)) hwb; (first | exact omG15.2.2.1 this | omega))
              have y2 : (2 : Int) ^ wd ≠ 0 := by (first | exact omG1.2.2.1 hp2 | omega)
              have y3 : (Builtin.Int.intBits 4 : Int) * q ≤ 2 ^ 27 := by rw [show Builtin.Int.intBits 4 = 3 by decide]; (first | exact omG24.2.2.2.2.1 hqe hq8 | omega)
              have y4 : (4 : Int) ^ q.toNat ≠ 0 := Int.ne_of_gt (Int.pow_pos (by decide))
              have y5 : Builtin.divisionGoesByPylong dress ((4 : Int) ^ q.toNat) = false := noPy (k := 20) _ (Int.le_of_lt (Int.pow_pos (by decide))) (by rw [show (4 : Int) = 2 ^ 2 by decide, ← Int.pow_mul]; exact Int.lt_of_le_of_lt (pow_mono (n := 16) (by (first | exact omG24.2.2.2.2.2.1 hqe hq8 | omega))) (by decide)) (by decide)
              have y6 : (4 : Int) ≠ 0 := by decide
              have y7 : (2 : Int) ≠ 0 := by decide
              show wpAny _ _ _ _ _ _
              k_fold
              have hp2' : (2 : Int) ≤ 2 ^ wd := by have := pow_mono (m := 1) (n := wd) hw1; simpa using this
              have hbw : (2 : Int) ^ wd ≤ whole := Int.le_trans (pow_mono (by (first | exact omG4.2.2.2.2.2.2.2.2.2.2.2 | omega))) hwl
              have hff' := fdiv_facts (figure - q * whole) hp2
              have z1 := hff'.2.1
              have z2 := hff'.2.2
              clear hff'
              have hff' := fdiv_facts (dress.fdiv (4 ^ q.toNat)) (b := 4) (by decide)
              have z3 := hff'.2.1
              have z4 := hff'.2.2
              clear hff'
              have hff' := fdiv_facts q (b := 2) (by decide)
              have z5 := hff'.2.1
              have z6 := hff'.2.2
              clear hff'
              walk1
              refine wpAny_execs_cons (for_turns (hs := fun _ => rfl) ?_)
              show wpAny _ _ _ _ _ _
              k_fold
              k_steps
              (rename Fr _ _ _ _ => F9)
              (rename News _ _ _ _ => N9)
              refine marks_tells (k := k + 17) (C.pushE F9 rfl rfl) z1 z2 hp2' (by (first | exact omG24.2.2.2.2.2.2.1 hq8 | omega)) hbw (by (first | exact omG24.2.2.2.2.2.2.2.1 hwb | omega)) z3 z4 z5 z6 ?_
              rw [book_first hlo hhi]
              intro M vs e5 h5 tk5 gens5 hst hB5 hnew hM hvs
              have F5 := fr_on F9 hst
              have N5 := news_add F9 N9 hst hnew hM
              try dsimp only at hB5
              refine iter_list ⟨_, hM, rfl, e5, rfl⟩ F5 N5 ?_
              intro it2 h6 o2 hO F6 N6 hne6 _
              have hne := List.forall_mem_cons.mp hne6
              have a1 := hne.1
              have a2 := (List.forall_mem_cons.mp hne.2).1
              have hne := (List.forall_mem_cons.mp hne.2).2
              have hfm' := List.forall_mem_cons.mp hne
              have a3 := hfm'.1
              have hne := hfm'.2
              have hfm' := List.forall_mem_cons.mp hne
              have a4 := hfm'.1
              have hne := hfm'.2
              have a5 := (List.forall_mem_cons.mp hne).1
              have a6 := (List.forall_mem_cons.mp hne).2
              have hne7 := news_ne N9 hnew
              have c1' := (List.forall_mem_cons.mp hne7).1
              have hne := (List.forall_mem_cons.mp hne7).2
              have hfm' := List.forall_mem_cons.mp hne
              have c2' := hfm'.1
              have hne := hfm'.2
              have hfm' := List.forall_mem_cons.mp hne
              have c3' := hfm'.1
              have hne := hfm'.2
              have c4' := (List.forall_mem_cons.mp hne).1
              have c5' := (List.forall_mem_cons.mp hne).2
              dsimp only at a1 a2 a3 a4 a5 c1' c2' c3' c4'
              refine ⟨fun n s1 => ∃ i, n + i = ((whole - 1 - ((es.length : Int) * 2 ^ wd + figure - q * whole)).fdiv (2 ^ wd)).toNat + 1 ∧ InJ s L it B D M it2 (rngIt (q + 1) (2 ^ wd - q - 1)) oD (W.listOf vs.toArray e5) wd whole figure dress q gens5 es.length i s1,
                ((whole - 1 - ((es.length : Int) * 2 ^ wd + figure - q * whole)).fdiv (2 ^ wd)).toNat + 1, ⟨0, rfl, InJ.mk' (e := e3) F6 ?_ hO hBk hi4 a6 rfl nB nC rfl n1 n2 n3 n4 n5⟩, ?_⟩
              · exact cb_drop N6 (List.forall_mem_cons.mpr ⟨.head _, List.forall_mem_cons.mpr ⟨.tail _ (.tail _ (.tail _ (.head _))), List.forall_mem_cons.mpr ⟨.tail _ (.tail _ (.tail _ (.tail _ (.head _)))), List.forall_mem_cons.mpr ⟨.tail _ (.tail _ (.tail _ (.tail _ (.tail _ (.head _))))),
                  List.forall_mem_cons.mpr ⟨.tail _ (.tail _ (.head _)), List.forall_mem_cons.mpr ⟨.tail _ (.head _), fun p hp => .tail _ (.tail _ (.tail _ (.tail _ (.tail _ (.tail _ hp)))))⟩⟩⟩⟩⟩⟩)
              generalize hmore : ((whole - 1 - ((es.length : Int) * 2 ^ wd + figure - q * whole)).fdiv (2 ^ wd)).toNat = more at *
              clear hne hne6 hne7 F6 N6 F5 N5 F9 N9 hO hM
              rintro n' s1 xr13
              refine ex1 xr13 ?_
              clear xr13
              rintro i xq6
              refine an2 xq6 ?_
              clear xq6
              rintro hni HJ
              refine InJ.elim HJ ?_
              clear HJ
              intro h7 tk7 m7 bk7 es7 e7 oc7 o7 tq7 w2 w3 w4 w5 w6 F7 N7 hO7 hBk7 hbi7 hb27 hlen7 b1 b2 d1 d2 d3 d4 d5 d6
              have hm9 : ((es.length : Int) * 2 ^ wd + figure - q * whole) + more * 2 ^ wd < whole := by
                have hff' := fdiv_facts (whole - 1 - ((es.length : Int) * 2 ^ wd + figure - q * whole)) hp2
                have f1 := hff'.1
                have f2 := hff'.2.1
                have f3 := hff'.2.2
                clear hff'
                have f4 : 0 ≤ (whole - 1 - ((es.length : Int) * 2 ^ wd + figure - q * whole)).fdiv (2 ^ wd) := Int.fdiv_nonneg (by (first | exact omG24.2.2.2.2.2.2.2.2.1 hhi hbw | omega)) (by (first | exact omG1.2.2.2.2.1 hp2 | omega))
                have f5 : (whole - 1 - ((es.length : Int) * 2 ^ wd + figure - q * whole)).fdiv (2 ^ wd) = more := by (first | exact omG3.2.2.2.1 hmore f4 | omega)
                rw [f5] at f1
                have f6 : (2 : Int) ^ wd * more = more * 2 ^ wd := Int.mul_comm _ _
                (first | exact omG24.2.2.2.2.2.2.2.2.2.1 f1 f2 f6 | omega)
              refine list_next rfl F7 N7 hO7 (List.forall_mem_cons.mpr ⟨a3, List.forall_mem_cons.mpr ⟨a4, List.forall_mem_cons.mpr ⟨a5, List.forall_mem_cons.mpr ⟨a2, List.forall_mem_cons.mpr ⟨a1, hb27⟩⟩⟩⟩⟩) ⟨_, (N7 _ (.tail _ (.tail _ (.tail _ (.tail _ (.tail _ (.head _))))))).1, rfl, e5, rfl⟩ ?item2 ?done2
              case done2 =>
                intro hx h8 F8 N8
                have hi9 := ints_no hvs hx
                have hl9 : (marksOf ((es.length : Int) * 2 ^ wd + figure - q * whole) (2 ^ wd) more).length = more + 1 := by simp [marksOf]
                dsimp only
                k_steps
                show Hold _
                obtain rfl : i = more + 1 := by (first | exact omG24.2.2.2.2.2.2.2.2.2.2.1 hni hi9 hl9 | omega)
                have hbn := book_next (q := q) (r := es.length) hp2 (by (first | exact omG24.2.2.2.2.2.2.2.2.2.2.2 | omega) : (es.length : Int) * 2 ^ wd + figure = q * whole + ((es.length : Int) * 2 ^ wd + figure - q * whole)) (by (first | exact omG3.2.1 hhi | omega)) hbw hmore
                have hl7 : (es7.length : Int) = es.length + (more + 1) := by rw [hlen7]; push_cast; rfl
                have hqq : (2 : Int) ^ wd - ((n - 1 : Nat) : Int) = q + 1 := by (first | exact omG25.1 hqe hleft | omega)
                refine ⟨⟨n - 1, by (first | exact omG25.2.1 hqe hqq | omega), ?_⟩⟩
                rw [hqq]
                refine OutJ.mk' (e := e7) (fun hB => hB5 (hB3 hB)) F8 ?_ hi1 hi2 hi3 hbi7 hBk7 (by (first | exact omG7.2.2.2.2.2.2.2.2.2.2.1 hq0 | omega)) (by (first | exact omG25.2.2.1 hleft | omega)) (by rw [hl7]; exact hbn.1) (by rw [hl7]; exact hbn.2) b1 b2 d2 d3 d4 d5 d6
                rw [show (2 : Int) ^ wd - (q + 1) = 2 ^ wd - q - 1 by (first | exact omG25.2.2.2.1 | omega)]
                exact cb_drop N8 (List.forall_mem_cons.mpr ⟨.tail _ (.tail _ (.tail _ (.head _))), List.forall_mem_cons.mpr ⟨.head _, List.forall_mem_cons.mpr ⟨.tail _ (.head _), List.forall_mem_cons.mpr ⟨.tail _ (.tail _ (.head _)), fun p hp => .tail _ (.tail _ (.tail _ (.tail _ (.tail _ hp))))⟩⟩⟩⟩)
              case item2 =>
                intro x hx h8 o8 hO8 F8 N8
                refine ex2 (ints_at hvs i hx) ?_
                rintro z tz xq7
                refine an2 xq7 ?_
                clear xq7
                rintro rfl hz
                walk1
                (rename Fr _ _ _ _ => F9)
                (rename News _ _ _ _ => N9)
                have hzz : i ≤ more ∧ z = ((es.length : Int) * 2 ^ wd + figure - q * whole) + (i : Int) * 2 ^ wd := by
                  unfold marksOf at hz
                  rw [List.getElem?_map] at hz
                  by_cases him : i < more + 1
                  · rw [List.getElem?_range him] at hz
                    simp at hz
                    exact ⟨by (first | exact omG25.2.2.2.2.1 him | omega), hz.symm⟩
                  · rw [List.getElem?_eq_none (by simp; (first | exact omG25.2.2.2.2.2.1 him | omega))] at hz; cases hz
                generalize hRR : [(it2, o8), (D, oD), (it, rngIt (q + 1) (2 ^ wd - q - 1)), (M, W.listOf vs.toArray e5)] ++ bk7 = R
                have hRB : ∀ p ∈ R, p.1 ≠ B := by
                  rw [← hRR]
                  exact List.forall_mem_cons.mpr ⟨Ne.symm a3, List.forall_mem_cons.mpr ⟨Ne.symm hBk7.hBD, List.forall_mem_cons.mpr ⟨hi1, List.forall_mem_cons.mpr ⟨Ne.symm c2', hBk7.bkB⟩⟩⟩⟩
                have hRL : ∀ p ∈ R, p.1 ≠ L + 1 := by
                  rw [← hRR]
                  exact List.forall_mem_cons.mpr ⟨Ne.symm a4, List.forall_mem_cons.mpr ⟨hBk7.hDL, List.forall_mem_cons.mpr ⟨hi2, List.forall_mem_cons.mpr ⟨Ne.symm c3', hBk7.bkL⟩⟩⟩⟩
                have Nt := cb_drop (news := (B, W.listOf (refsOf bk7).toArray e7) :: (L + 1, oc7) :: R) N9 (by
                  rw [← hRR]
                  exact List.forall_mem_cons.mpr ⟨.tail _ (.head _), List.forall_mem_cons.mpr ⟨.tail _ (.tail _ (.head _)), List.forall_mem_cons.mpr ⟨.head _, List.forall_mem_cons.mpr ⟨.tail _ (.tail _ (.tail _ (.head _))),
                    List.forall_mem_cons.mpr ⟨.tail _ (.tail _ (.tail _ (.tail _ (.head _)))), List.forall_mem_cons.mpr ⟨.tail _ (.tail _ (.tail _ (.tail _ (.tail _ (.head _))))), fun p hp => .tail _ (.tail _ (.tail _ (.tail _ (.tail _ (.tail _ hp)))))⟩⟩⟩⟩⟩⟩)
                clear N9
                obtain ⟨hzi, hze⟩ := hzz
                have hz0 : 0 ≤ z := by
                  rw [hze]; exact Int.add_nonneg (by (first | exact omG3.1 hlo | omega)) (Int.mul_nonneg (by (first | exact omG3.2.2.2.2.2.2.2.2.2.1 | omega)) (by (first | exact omG1.2.2.2.2.1 hp2 | omega)))
                have hz1 : z < whole := by
                  have := Int.mul_le_mul_of_nonneg_right (show (i : Int) ≤ more by (first | exact omG22.2.2.2.2.2.1 hzi | omega)) (show 0 ≤ (2 : Int) ^ wd by (first | exact omG1.2.2.2.2.1 hp2 | omega))
                  (first | exact omG25.2.2.2.2.2.2.1 hm9 hze this | omega)
                refine TurnJ.cut (s := s) (L := L) (B := B) (rest := R) (bk := bk7) (q := q) (port := z) (whole := whole) (figure := figure) (dress := dress) (wd := wd) (gens := gens5) (D := D) ?_ ?_
                · clear hRR hz hx hvs hni hO8
                  have hBL := hBk7.hBL
                  have hsz : (refsOf bk7).toArray.size = es7.length := by rw [List.size_toArray, List.length_map, hBk7.ents.length]
                  have hle : es7.length ≤ 64 := by
                    have k1 : (es7.length : Int) * 2 ^ wd + figure = q * whole + z := by rw [hlen7, hze]; push_cast; grind
                    have k2 : (q + 1) * whole ≤ 2 ^ wd * whole := Int.mul_le_mul_of_nonneg_right (by (first | exact omG25.2.2.1 hleft | omega)) (by (first | exact omG0.2.2.2.2.2.2.1 hwl hwpos | omega))
                    have k3 : (2 : Int) ^ wd * es7.length < 2 ^ wd * whole := by grind
                    have := Int.lt_of_mul_lt_mul_left k3 (by (first | exact omG1.2.2.2.2.1 hp2 | omega))
                    (first | exact omG25.2.2.2.2.2.2.2.1 hwb this | omega)
                  have hfit : ((refsOf bk7).toArray.size : Int) < 2 ^ 63 := by rw [hsz]; (first | exact omG25.2.2.2.2.2.2.2.2.1 hle | omega)
                  have hmul : IntMulOk 85 ((refsOf bk7).toArray.size : Int) := IntMulOk.of_bits (by decide) (by rw [hsz]; have := bits_le' (show (0 : Int) ≤ es7.length by (first | exact omG3.2.2.2.2.2.2.2.2.2.1 | omega)) (k := 7) (by (first | exact omG25.2.2.2.2.2.2.2.2.2.1 hle | omega)); (first | exact omG25.2.2.2.2.2.2.2.2.2.2.1 this | omega))
                  k_with "call builtin:len" => refine len_list (items := (refsOf bk7).toArray) ⟨_, ((by assumption : News s.heap L _ ((B, W.listOf (refsOf bk7).toArray e7) :: (L + 1, oc7) :: R)) _ (.head _)).1, rfl, e7, rfl⟩ hfit ?_
                  repeat' ((fail_if_success (with_reducible show wpAny _ _ (call (Value.ref _) _) _ _ _)); first | (k_unfold; (try dsimp only)) | (k_end; kc_close) | walk1 | (dsimp only; walk1) | (leave1; (try dsimp only)) | fail "no step")
                  (rename Fr _ _ _ _ => F9)
                  (rename News _ _ _ _ => N9)
                  refine reply_tells (k := k + 17) (C.pushE F9 rfl rfl) hz0 (by (first | exact omG25.2.2.2.2.2.2.2.2.2.2.2 hwb hz1 | omega)) ?_
                  intro xr tr hr tkr mk hdr fr' prer enr hstr hrep
                  have F10 := fr_on F9 hstr
                  have N10 := news_on N9 hstr
                  clear F9 N9
                  have hoc7 : ∃ v, oc7.data = .cell v := ⟨_, hBk7.cell.choose_spec.1⟩
                  obtain ⟨v7, hoc7⟩ := hoc7
                  try dsimp only
                  repeat' ((fail_if_success (with_reducible show wpAny _ _ (storeName _ _ _) _ _ _)); first | (k_unfold; (try dsimp only)) | (k_end; kc_close) | walk1 | (dsimp only; walk1) | (leave1; (try dsimp only)) | fail "no step")
                  refine storeX_C F10 N10 rfl (.tail hBL (.head hRL)) hoc7 ?_
                  intro h11 o11 F11 N11 hd11
                  clear F10 N10 hoc7
                  try dsimp only at N11
                  repeat' ((fail_if_success (with_reducible show wpAny _ _ (call (Value.ref _) _) _ _ _)); first | (k_unfold; (try dsimp only)) | (k_end; kc_close) | walk1 | (dsimp only; walk1) | (leave1; (try dsimp only)) | fail "no step")
                  (rename Fr _ _ _ _ => F9)
                  (rename News _ _ _ _ => N9)
                  refine ex2 (reply_shape hz0 (by (first | exact omG25.2.2.2.2.2.2.2.2.2.2.2 hwb hz1 | omega)) hrep) ?_
                  rintro H0 mc xq8
                  refine an3 xq8 ?_
                  clear xq8
                  rintro rfl hshape hint
                  refine ex3 (shape_parses hshape hint) ?_
                  rintro body left right hparse
                  refine parse_tells (k := k + 17) (C.pushE F9 rfl rfl) hparse (N9 _ (.head _)).1 ?_
                  intro P hp tkp tp up hstp hnewp hDp
                  have F12 := fr_on F9 hstp
                  have pp1 := (List.forall_mem_cons.mp (news_ne N9 hnewp)).1
                  have pp2 := (List.forall_mem_cons.mp (news_ne N9 hnewp)).2
                  have hfm' := List.forall_mem_cons.mp pp2
                  have pp2 := hfm'.1
                  have pp3 := hfm'.2
                  have hfm' := List.forall_mem_cons.mp pp3
                  have pp3 := hfm'.1
                  have pp4 := hfm'.2
                  try dsimp only at pp2 pp3
                  have N12 := cb_drop (news := (B, W.listOf (refsOf bk7).toArray e7) :: (L + 1, o11) :: (P, tup2 (.int q tp) (.int z up)) :: R) (news_add F9 N9 hstp hnewp hDp) (List.forall_mem_cons.mpr ⟨.tail _ (.tail _ (.head _)), List.forall_mem_cons.mpr ⟨.tail _ (.tail _ (.tail _ (.head _))), List.forall_mem_cons.mpr ⟨.head _, fun p hp => .tail _ (.tail _ (.tail _ (.tail _ hp)))⟩⟩⟩)
                  have hapB : ∀ p ∈ ((L + 1, o11) :: (P, tup2 (.int q tp) (.int z up)) :: R), p.1 ≠ B := List.forall_mem_cons.mpr ⟨Ne.symm hBL, List.forall_mem_cons.mpr ⟨Ne.symm pp2, hRB⟩⟩
                  clear F9 N9
                  have hszl : (refsOf bk7).toArray.size ≤ sizeLine := by rw [hsz]; exact Nat.le_trans hle (by decide)
                  try dsimp only
                  k_with "call builtin:list.append" => refine append_K (by assumption) (by assumption) (.head hapB) ?_ hszl
                  k_steps
                  (rename Fr _ _ _ _ => F9)
                  (rename News _ _ _ _ => N9)
                  exact TurnJ.mk' F9 N9 (Ne.symm pp2) (Ne.symm pp3) pp4 hd11 ⟨xr, tr, z, _, _, _, _, _, rfl, hz0, by (first | exact omG25.2.2.2.2.2.2.2.2.2.2.2 hwb hz1 | omega), hrep⟩ b1 b2 d1 d2 d3 d4 d5 d6
                · intro h9 tk9 m9 e9 oc9 P tp up x tq9 w2' w3' w4' w5' w6' F9 N9 hPB hPL hPR hcell hlast b1' b2' d1' d2' d3' d4' d5' d6'
                  rw [← hRR] at hPR N9
                  have q1 := (List.forall_mem_cons.mp hPR).1
                  have q2 := (List.forall_mem_cons.mp hPR).2
                  have hfm' := List.forall_mem_cons.mp q2
                  have q2 := hfm'.1
                  have q3 := hfm'.2
                  have hfm' := List.forall_mem_cons.mp q3
                  have q3 := hfm'.1
                  have q4 := hfm'.2
                  dsimp only at q1 q2 q3
                  have app : ∀ {A : Addr}, (∀ p ∈ bk7, p.1 ≠ A) → P ≠ A → ∀ p ∈ bk7 ++ [(P, tup2 (.int q tp) (.int z up))], p.1 ≠ A := fun h1 h2 p hp => by
                    rcases List.mem_append.mp hp with hp | hp
                    · exact h1 p hp
                    · rcases List.mem_singleton.mp hp with rfl; exact h2
                  show Hold _
                  refine ⟨⟨n' - 1, by (first | exact omG26.1 hni hzi | omega), i + 1, by (first | exact omG26.2.1 hni hzi | omega), InJ.mk' (e := e9) (bk := bk7 ++ [(P, tup2 (.int q tp) (.int z up))]) (es := es7 ++ [(q, z)]) F9 ?_ hO8 (hBk7.snoc (by rw [hlen7, hze]; push_cast; grind) hz0 hz1 hq0 hcell hlast hPB hPL (Ne.symm q2)) (app hbi7 (Ne.symm q3)) (app hb27 (Ne.symm q1)) (by simp [hlen7]; (first | exact omG26.2.2.1 | omega)) b1' b2' d1' d2' d3' d4' d5' d6'⟩⟩
                  rw [show (refsOf (bk7 ++ [(P, tup2 (.int q tp) (.int z up))])).toArray = (refsOf bk7).toArray.push (.ref P) by simp [refsOf]]
                  refine cb_drop N9 (List.forall_mem_cons.mpr ⟨.tail _ (.tail _ (.tail _ (.head _))), List.forall_mem_cons.mpr ⟨.head _, List.forall_mem_cons.mpr ⟨.tail _ (.head _), List.forall_mem_cons.mpr ⟨.tail _ (.tail _ (.tail _ (.tail _ (.head _)))),
                    List.forall_mem_cons.mpr ⟨.tail _ (.tail _ (.tail _ (.tail _ (.tail _ (.head _))))), List.forall_mem_cons.mpr ⟨.tail _ (.tail _ (.tail _ (.tail _ (.tail _ (.tail _ (.head _)))))), fun p hp => ?_⟩⟩⟩⟩⟩⟩)
                  rcases List.mem_append.mp hp with hp | hp
                  · exact .tail _ (.tail _ (.tail _ (.tail _ (.tail _ (.tail _ (.tail _ hp))))))
                  · rcases List.mem_singleton.mp hp with rfl; exact .tail _ (.tail _ (.head _))
        · clear N2 F2 mB mC m1 m2' m3 m4 m5 hoc'
          intro h3 tk3 gens3 m3 bk es e3 oc3 v1 v2 v3 v4 v5 hB3 F3 N3 hBk hlen nB nC n1 n2 n3 n4 n5
          dsimp only
          refine execs_at 1 ?_
          dsimp only [List.take, List.drop]
          have hrs : ((refsOf bk).toArray.size : Int) = whole := by rw [List.size_toArray, List.length_map, hBk.ents.length]; exact hlen
          have hw6 : whole < 2 ^ 6 := Int.lt_of_lt_of_le hwh (pow_mono (by (first | exact omG15.2.1 hw3 | omega)))
          have hwp : 2 ≤ whole := by have := pow_mono (m := 1) (n := 2 * wd - 1) (by (first | exact omG26.2.2.2.1 hw1 | omega)); (first | exact omG26.2.2.2.2.1 hwl this | omega)
          have hp2 : (2 : Int) ≤ 2 ^ wd := by have := pow_mono (m := 1) (n := wd) hw1; simpa using this
          refine LJ4.cut (s := s) (L := L) (B := B) (D := D) (oD := oD) (wd := wd) (whole := whole) (figure := figure) (dress := dress) ?_ ?_
          · have hfit : ((refsOf bk).toArray.size : Int) < 2 ^ 63 := by rw [hrs]; (first | exact omG26.2.2.2.2.2.1 hw6 | omega)
            k_with "call builtin:len" => refine len_list (items := (refsOf bk).toArray) ⟨_, ((by assumption : News s.heap L _ ((B, W.listOf (refsOf bk).toArray e3) :: (L + 1, oc3) :: (D, oD) :: bk)) _ (.head _)).1, rfl, e3, rfl⟩ hfit ?_
            repeat' ((fail_if_success (with_reducible show wpAny _ _ (compareOp _ _ _) _ _ _)); first | (k_unfold; (try dsimp only)) | (k_end; kc_close) | walk1 | (dsimp only; walk1) | (leave1; (try dsimp only)) | fail "no step")
            try dsimp only
            rw [hrs]
            repeat' ((fail_if_success (with_reducible show wpAny _ _ (call (Value.ref _) _) _ _ _)); first | (k_unfold; (try dsimp only)) | (k_end; kc_close) | walk1 | (dsimp only; walk1) | (leave1; (try dsimp only)) | fail "no step")
            · exact absurd rfl (by assumption : whole ≠ whole)
            (rename Fr _ _ _ _ => F9)
            (rename News _ _ _ _ => N9)
            refine bad_tells (k := k + 13) (C.pushE F9 rfl rfl) (pushX B0 F9 rfl rfl) X T (kd_law F9) hp2 (Int.lt_of_le_of_lt (pow_mono (n := 3) hw3) (by decide)) ?_
            intro tb hb tkb gensb hS hgb
            have F10 := fr_law F9 hS
            have N10 := news_law N9 hS
            clear F9 N9
            try dsimp only
            k_steps
            exact LJ4.mk' (fun h => hgb (hB3 h)) F10 N10 hBk hlen nB nC n1 n2 n3 n4 n5
          · clear F3 N3 hBk hlen nB nC n1 n2 n3 n4 n5 hB3 hrs
            intro h3 tk3 gens3 m3 bk es e3 oc3 v1 v2 v3 v4 v5 hB3 F3 N3 hBk hlen nB nC n1 n2 n3 n4 n5
            dsimp only
            refine execs_at 1 ?_
            dsimp only [List.take, List.drop]
            refine LJ4.cut (s := s) (L := L) (B := B) (D := D) (oD := oD) (wd := wd) (whole := whole) (figure := figure) (dress := dress) ?_ ?_
            · refine wpAny_execs_cons (for_turns (hs := fun _ => rfl) ?_)
              show wpAny _ _ _ _ _ _
              k_fold
              k_steps
              (rename IsRange _ _ _ _ _ _ _ _ => hR)
              (rename Fr _ _ _ _ => F9)
              (rename News _ _ _ _ => N9)
              obtain ⟨hsm, hsz⟩ := whole_rng (whole := whole) (by (first | exact omG12.2.2.2.2.2.2.2.2.1 hwp | omega)) hw6
              refine iter_range hR hsm F9 N9 ?_
              intro it h4 F4 N4 hne
              rw [hsz] at N4
              refine xi2 (fun n s1 => CmpJ s L it B D oD wd whole figure dress (whole - n) s1) whole.toNat ⟨?_, ?_⟩
              · show CmpJ s L it B D oD wd whole figure dress (whole - (whole.toNat : Int)) _
                rw [Int.toNat_of_nonneg (show 0 ≤ whole by (first | exact omG12.2.2.2.2.2.2.2.2.1 hwp | omega)), Int.sub_self]
                have hneB := hne _ (.head _)
                have hneL := hne _ (.tail _ (.head _))
                have hneD := hne _ (.tail _ (.tail _ (.head _)))
                refine CmpJ.mk' (e := e3) hB3 F4 ?_ (Ne.symm hneB) (Ne.symm hneL) (Ne.symm hneD) (fun p hp => hne p (.tail _ (.tail _ (.tail _ hp)))) hBk hlen (Int.le_refl _) (by (first | exact omG12.2.2.2.2.2.2.2.2.1 hwp | omega)) nB nC n1 n2 n3 n4 n5
                rw [Int.sub_zero]
                exact N4
              · intro n s1 HJ
                refine CmpJ.elim HJ ?_
                clear HJ
                intro h3 tk3 gens3 m3 bk es e3 oc3 v1 v2 v3 v4 v5 hB3 F3 N3 hi1 hi2 hi3 hi4 hBk hlen hr0 hr1 nB nC n1 n2 n3 n4 n5
                refine range_next rfl F3 N3 (List.forall_mem_cons.mpr ⟨Ne.symm hi1, List.forall_mem_cons.mpr ⟨Ne.symm hi2, List.forall_mem_cons.mpr ⟨Ne.symm hi3, hi4⟩⟩⟩) ?item ?done
                case done =>
                  intro hleft h4 F4 N4
                  dsimp only
                  k_steps
                  exact LJ4.mk' hB3 F4 N4 hBk hlen nB nC n1 n2 n3 n4 n5
                case item =>
                  intro hleft h4 F4 N4
                  dsimp only
                  generalize hre : whole - (n : Int) = r at *
                  have y2 : (2 : Int) ^ wd ≠ 0 := by (first | exact omG21.2.2.2.2.1 hp2 | omega)
                  have y5 : Builtin.divisionGoesByPylong whole (2 ^ wd) = false := noPy (k := 4) _ (by (first | exact omG12.2.2.2.2.2.2.2.2.1 hp2 | omega)) (Int.lt_of_le_of_lt (pow_mono hw3) (by decide)) (by decide)
                  obtain ⟨rn, rfl⟩ := Int.eq_ofNat_of_zero_le hr0
                  have hrl : rn < es.length := by (first | exact omG26.2.2.2.2.2.2.1 hlen hleft | omega)
                  refine ex1 (hBk.ents.get rn (List.getElem?_eq_getElem hrl)) ?_
                  rintro p xq9
                  refine an2 xq9 ?_
                  clear xq9
                  rintro hp xq10
                  refine ex2 xq10 ?_
                  clear xq10
                  rintro tq tp hpo
                  refine an4 (hBk.told rn _ (List.getElem?_eq_getElem hrl)) ?_
                  rintro g1 g2 g3 g4
                  generalize es[rn] = en at *
                  walk1
                  repeat' ((fail_if_success (with_reducible show wpAny _ _ (call (Value.ref _) _) _ _ _)); first | (k_unfold; (try dsimp only)) | (k_end; kc_close) | walk1 | (dsimp only; walk1) | (leave1; (try dsimp only)) | fail "no step")
                  (rename Fr _ _ _ _ => F9)
                  (rename News _ _ _ _ => N9)
                  refine (d3_book (w := w) (mean := mean) (mg := mg) (mb := mb) (k := k + 18) hw1 hw3 hwl hwh hr0 (by (first | exact omG26.2.2.2.2.2.2.2.1 hleft | omega)) hf0 hf1 g1 g2 g3).use (C.pushE F9 rfl rfl) rfl rfl rfl rfl rfl rfl ?_
                  intro D9 t9 u9 h9 tk9 hst9 hnew9 hD9
                  have F10 := fr_on F9 hst9
                  have N10 := news_add F9 N9 hst9 hnew9 hD9
                  clear F9 N9
                  have hpB := (N10 _ (.tail _ (.tail _ (.tail _ (.tail _ (.tail _ (List.mem_of_getElem? hp))))))).1
                  try dsimp only
                  repeat' ((fail_if_success (with_reducible show wpAny _ _ (subscriptTail _ _ _ _) _ _ _)); first | (k_unfold; (try dsimp only)) | (k_end; kc_close) | walk1 | (dsimp only; walk1) | (leave1; (try dsimp only)) | fail "no step")
                  refine item_list (items := (refsOf bk).toArray) (x := .ref p.1) ⟨_, (N10 _ (.tail _ (.tail _ (.head _)))).1, rfl, e3, rfl⟩ hr0 (by (first | exact omG26.2.2.2.2.2.2.2.2.1 hw6 hre | omega)) (by simp [hp]) ?_
                  repeat' ((fail_if_success (with_reducible show wpAny _ _ (compareOp _ _ _) _ _ _)); first | (k_unfold; (try dsimp only)) | (k_end; kc_close) | walk1 | (dsimp only; walk1) | (leave1; (try dsimp only)) | fail "no step")
                  rw [hpo] at hpB
                  try dsimp only
                  have hu9 := C.units
                  refine ne_dataH (reads_tuple_at hD9 rfl rfl (by ke_reads)) (reads_tuple_at hpB rfl rfl (by ke_reads)) (by ke_shaped) (by ke_shaped) (by simp only [Around.deeper_units] at hu9 ⊢; (first | exact omG26.2.2.2.2.2.2.2.2.2.1 hu9 | omega)) ?_
                  ke_norm
                  k_steps
                  show Hold _
                  have hqq : whole - ((n - 1 : Nat) : Int) = (rn : Int) + 1 := by (first | exact omG26.2.2.2.2.2.2.2.2.2.2.1 hre hleft | omega)
                  refine ⟨⟨n - 1, by (first | exact omG26.2.2.2.2.2.2.2.2.2.2.2 hre hqq | omega), ?_⟩⟩
                  rw [hqq]
                  refine CmpJ.mk' (e := e3) hB3 F10 ?_ hi1 hi2 hi3 hi4 hBk hlen (by (first | exact omG27.1 | omega)) (by (first | exact omG27.2.1 hleft | omega)) nB nC n1 n2 n3 n4 n5
                  rw [show whole - ((rn : Int) + 1) = whole - (rn : Int) - 1 by (first | exact omG27.2.2.1 | omega)]
                  exact fun p hp => N10 p (.tail _ hp)
            · clear F3 N3 hBk hlen nB nC n1 n2 n3 n4 n5 hB3
              intro h3 tk3 gens3 m3 bk es e3 oc3 v1 v2 v3 v4 v5 hB3 F3 N3 hBk hlen nB nC n1 n2 n3 n4 n5
              dsimp only
              refine execs_at 2 ?_
              dsimp only [List.take, List.drop]
              refine LJ4.cut (s := s) (L := L) (B := B) (D := D) (oD := oD) (wd := wd) (whole := whole) (figure := figure) (dress := dress) ?_ ?_
              · refine ex1 hBk.cell ?_
                rintro vr xq11
                refine an2 xq11 ?_
                clear xq11
                rintro hvr hlast
                refine ex8 (hlast (by rintro rfl; simp at hlen; (first | exact omG27.2.2.2.1 hwp hlen | omega))) ?_
                rintro xr tr port mk hdr fr' prer enr xq12
                refine an4 xq12 ?_
                clear xq12
                rintro rfl hz0 hz1 hrep
                repeat' ((fail_if_success (with_reducible show wpAny _ _ (call (Value.ref _) _) _ _ _)); first | (k_unfold; (try dsimp only)) | (k_end; kc_close) | walk1 | (dsimp only; walk1) | (leave1; (try dsimp only)) | fail "no step")
                (rename Fr _ _ _ _ => F9)
                (rename News _ _ _ _ => N9)
                refine spoiled_tells (k := k + 17) (C.pushE F9 rfl rfl) hz0 hz1 hrep ?_
                intro S vs ys eS hS tkS hst hSnew hSat hvs hysl hys hyok
                have F10 := fr_on F9 hst
                have N10 := news_add F9 N9 hst hSnew hSat
                clear F9 N9
                try dsimp only
                repeat' ((fail_if_success (with_reducible show wpAny _ _ (eval (Expr.ListComp _ _ _ _) _) _ _ _)); first | (k_unfold; (try dsimp only)) | (k_end; kc_close) | walk1 | (dsimp only; walk1) | (leave1; (try dsimp only)) | fail "no step")
                (rename Fr _ _ _ _ => F9)
                (rename News _ _ _ _ => N9)
                refine comp_list (hs := fun _ => rfl) (P := fun i v => ∃ y t, ys[i]? = some y ∧ v = .str (Str.ofString "proto " ++ y) t) F9 rfl rfl (by decide) rfl (by decide) rfl ?_
                walk1
                refine xi3 _ S vs.toArray ⟨rfl, ⟨_, (N9 _ (.head _)).1, rfl, eS, rfl⟩, ?szz, F9, N9, ⟨_, .head _, rfl⟩, fun h' N' => ⟨_, (N' _ (.head _)).1, rfl, eS, rfl⟩, ?elt, ?ret⟩
                case szz => rw [List.size_toArray, hvs.len_eq, hysl]; decide
                case elt =>
                  intro i v hv C3 h3 tk3 m3 F3 N3 hns hm3
                  refine ex2 (hvs.item i v (by simpa using hv)) ?_
                  rintro y ty xq13
                  refine an2 xq13 ?_
                  clear xq13
                  rintro rfl hy
                  k_with "eval Name" => first | refine nameG_K F3 X (topRead_of T) (by k_is) ?_ rfl rfl rfl rfl | refine wpAny_Name (wpAny_loadName_local rfl rfl hns hm3 ?_)
                  repeat' ((fail_if_success (with_reducible show wpAny _ _ (call (Value.ref _) _) _ _ _)); first | (k_unfold; (try dsimp only)) | (k_end; kc_close) | walk1 | (dsimp only; walk1) | (leave1; (try dsimp only)) | fail "no step")
                  refine refused_tells (k := k + 15) (C.pushE F3 rfl rfl) (pushX B0 F3 rfl rfl) X T (kd_law F3) (hys y (List.mem_of_getElem? hy)) ?_
                  intro t' h' tk' hS'
                  try dsimp only
                  exact ⟨⟨y, _, hy, rfl⟩, xi2 h' _ ⟨rfl, hS'⟩⟩
                case ret =>
                  intro D2 y2 e2 h2 tk2 F2 N2 hsz2 hP2
                  clear F9 N9
                  repeat' ((fail_if_success (with_reducible show wpAny _ _ (eval (Expr.ListComp _ _ _ _) _) _ _ _)); first | (k_unfold; (try dsimp only)) | (k_end; kc_close) | walk1 | (dsimp only; walk1) | (leave1; (try dsimp only)) | fail "no step")
                  refine comp_list (hs := fun _ => rfl) (P := fun i v => ∃ y t, ys[i]? = some y ∧ v = .str (Str.ofString "proto " ++ y) t) F2 rfl rfl (by decide) rfl (by decide) rfl ?_
                  walk1
                  refine xi3 _ S vs.toArray ⟨rfl, ⟨_, (N2 _ (.tail _ (.head _))).1, rfl, eS, rfl⟩, ?szz, F2, N2, ⟨_, .tail _ (.head _), rfl⟩, fun h' N' => ⟨_, (N' _ (.tail _ (.head _))).1, rfl, eS, rfl⟩, ?elt, ?ret⟩
                  case szz => rw [List.size_toArray, hvs.len_eq, hysl]; decide
                  case elt =>
                    intro i v hv C3 h3 tk3 m3 F3 N3 hns hm3
                    refine ex2 (hvs.item i v (by simpa using hv)) ?_
                    rintro y ty xq14
                    refine an2 xq14 ?_
                    clear xq14
                    rintro rfl hy
                    k_with "eval Name" => refine wpAny_Name (wpAny_loadName_local rfl rfl hns hm3 ?_)
                    have hyl : y.length ≤ 80 := (hys y (List.mem_of_getElem? hy)).len
                    repeat' ((fail_if_success (with_reducible show wpAny _ _ (binaryOp _ _ _) _ _ _)); first | (k_unfold; (try dsimp only)) | (k_end; kc_close) | walk1 | (dsimp only; walk1) | (leave1; (try dsimp only)) | fail "no step")
                    refine PyProof.Rows.add_str (fun t' tk' => ?_) (Nat.le_trans (Nat.add_le_add_left hyl _) (by decide))
                    exact ⟨⟨y, _, hy, rfl⟩, xi2 h3 _ ⟨rfl, .refl⟩⟩
                  case ret =>
                    intro D3 y3 e3' h3 tk3 F3 N3 hsz3 hP3
                    repeat' ((fail_if_success (with_reducible show wpAny _ _ (compareOp _ _ _) _ _ _)); first | (k_unfold; (try dsimp only)) | (k_end; kc_close) | walk1 | (dsimp only; walk1) | (leave1; (try dsimp only)) | fail "no step")
                    have hu9 := C.units
                    have hs2 := strs_of (f := fun y => Str.ofString "proto " ++ y) (vs := y2.toList) (ys := ys) (by rw [Array.length_toList, hsz2, List.size_toArray]; exact hvs.len_eq) (fun i v hv => hP2 i v (by simpa using hv))
                    have hs3 := strs_of (f := fun y => Str.ofString "proto " ++ y) (vs := y3.toList) (ys := ys) (by rw [Array.length_toList, hsz3, List.size_toArray]; exact hvs.len_eq) (fun i v hv => hP3 i v (by simpa using hv))
                    refine ne_strs_same ⟨_, (N3 _ (.tail _ (.head _))).1, rfl, e2, by simp⟩ ⟨_, (N3 _ (.head _)).1, rfl, e3', by simp⟩ hs2 hs3 (fun y hy => by obtain ⟨z, hz, rfl⟩ := List.mem_map.mp hy; exact strOk_app (by decide +kernel) (hyok z hz)) (by simp only [Around.deeper_units] at hu9 ⊢; (first | exact omG26.2.2.2.2.2.2.2.2.2.1 hu9 | omega)) ?_
                    k_steps
                    exact LJ4.mk' hB3 F3 (fun q hq => N3 q (.tail _ (.tail _ (.tail _ hq)))) hBk hlen nB nC n1 n2 n3 n4 n5
              · clear F3 N3 hBk hlen nB nC n1 n2 n3 n4 n5 hB3
                intro h3 tk3 gens3 m3 bk es e3 oc3 v1 v2 v3 v4 v5 hB3 F3 N3 hBk hlen nB nC n1 n2 n3 n4 n5
                dsimp only
                refine execs_at 2 ?_
                dsimp only [List.take, List.drop]
                refine LJ4.cut (s := s) (L := L) (B := B) (D := D) (oD := oD) (wd := wd) (whole := whole) (figure := figure) (dress := dress) ?_ ?_
                · refine ex1 hBk.cell ?_
                  rintro vr xq15
                  refine an2 xq15 ?_
                  clear xq15
                  rintro hvr hlast
                  refine ex8 (hlast (by rintro rfl; simp at hlen; (first | exact omG27.2.2.2.1 hwp hlen | omega))) ?_
                  rintro xr tr port mk hdr fr' prer enr xq16
                  refine an4 xq16 ?_
                  clear xq16
                  rintro rfl hz0 hz1 hrep
                  have hx64 := reply_len hz0 hz1 hrep
                  have hcf := codes_fail hz0 hz1 hrep
                  have hxl : xr.length ≤ sizeLine := Nat.le_trans hx64 (by decide)
                  have hsl : 3 + (Txt.slice xr (some 3) none).length ≤ sizeLine := Nat.le_trans (Nat.add_le_add_left (Nat.le_trans (PyProof.Txt.length_slice_le xr _ _) hx64) 3) (by decide)
                  generalize htl : Txt.slice xr (some 3) none = tl at hcf hsl
                  refine wpAny_execs_cons (comp_assign (hs := fun _ => rfl) (P := fun i v => ∃ c t, ([Str.ofString "129", Str.ofString "239", Str.ofString "228"])[i]? = some c ∧ v = .str (c ++ tl) t) F3 rfl rfl rfl rfl (by decide) rfl (by decide) rfl rfl rfl ?_)
                  repeat' ((fail_if_success (with_reducible show wpAny _ _ (newList _) _ _ _)); first | (k_unfold; (try dsimp only)) | (k_end; kc_close) | walk1 | (dsimp only; walk1) | (leave1; (try dsimp only)) | fail "no step")
                  refine newList_K F3 N3 ?_
                  intro Z hZ F4 N4 hZlt
                  refine xi3 _ Z _ ⟨rfl, ⟨_, (N4 _ (.head _)).1, rfl, 0, rfl⟩, (by rw [sizeLine_eq]; exact Nat.le_of_ble_eq_true rfl), F4, N4, ⟨_, .head _, rfl⟩, fun h' N' => ⟨_, (N' _ (.head _)).1, rfl, 0, rfl⟩, ?elt, ?ret⟩
                  case elt =>
                    intro i v hv C3 h3 tk3 m3 F3 N3 hns hm3
                    have hv' : ∃ c t, ([Str.ofString "129", Str.ofString "239", Str.ofString "228"])[i]? = some c ∧ v = .str c t ∧ c.length = 3 := by
                      match i, hv with
                      | 0, hv => cases hv; exact ⟨_, _, rfl, rfl, by decide⟩
                      | 1, hv => cases hv; exact ⟨_, _, rfl, rfl, by decide⟩
                      | 2, hv => cases hv; exact ⟨_, _, rfl, rfl, by decide⟩
                      | n + 3, hv => simp at hv
                    refine ex2 hv' ?_
                    clear hv'
                    rintro c tc xq17
                    refine an3 xq17 ?_
                    clear xq17
                    rintro hc rfl hcl
                    k_with "eval Name" => first | refine wpAny_Name (wpAny_loadName_local rfl rfl hns hm3 ?_) | refine wpAny_Name (wpAny_loadName_cell rfl rfl rfl ⟨_, (N3 _ (.tail _ (.tail _ (.head _)))).1, hvr⟩ ?_)
                    repeat' ((fail_if_success (with_reducible show wpAny _ _ (subscriptTail _ _ _ _) _ _ _)); first | (k_unfold; (try dsimp only)) | (k_end; kc_close) | walk1 | (dsimp only; walk1) | (leave1; (try dsimp only)) | fail "no step")
                    refine slice_keep_sn (hsz := hxl) (s := ⟨_, _, _, _, _⟩) (h₁ := h3) (fun _ _ e => e) ?_
                    intro h5 t5 k5 hst5
                    try dsimp only
                    rw [htl]
                    refine PyProof.Rows.add_str (fun t' tk' => ?_) (by rw [hcl]; exact hsl)
                    exact ⟨⟨c, _, hc, rfl⟩, xi2 h5 _ ⟨rfl, .of_stays hst5⟩⟩
                  case ret =>
                    intro D2 y2 e2 h2 tk2 F2 N2 hsz2 hP2
                    clear F3 N3 F4 N4
                    obtain ⟨ys, hys⟩ : ∃ ys, ys = ([Str.ofString "129", Str.ofString "239", Str.ofString "228"]).map fun c => c ++ tl := ⟨_, rfl⟩
                    have hyf : ∀ y ∈ ys, PFail y 51 ∧ PyData.strOk y = true := fun y hy => by
                      rw [hys] at hy
                      refine ex1 (List.mem_map.mp hy) ?_
                      rintro c xq18
                      refine an2 xq18 ?_
                      clear xq18
                      rintro hc rfl
                      exact hcf c hc
                    have hvs : StrsAre y2.toList ys := by
                      rw [hys]
                      exact strs_of (by rw [Array.length_toList, hsz2]; rfl) fun i v hv => hP2 i v (by simpa using hv)
                    have hy2 : y2 = y2.toList.toArray := rfl
                    have hysl : ys.length = 3 := by rw [hys]; rfl
                    repeat' ((fail_if_success (with_reducible show wpAny _ _ (eval (Expr.ListComp _ _ _ _) _) _ _ _)); first | (k_unfold; (try dsimp only)) | (k_end; kc_close) | walk1 | (dsimp only; walk1) | (leave1; (try dsimp only)) | fail "no step")
                    refine comp_list (hs := fun _ => rfl) (P := fun i v => ∃ y t, ys[i]? = some y ∧ v = .str (Str.ofString "reply " ++ y) t) F2 rfl rfl (by decide) rfl (by decide) rfl ?_
                    walk1
                    refine xi3 _ D2 y2 ⟨rfl, ⟨_, (N2 _ (.head _)).1, rfl, e2, rfl⟩, ?szz, F2, N2, ⟨_, .head _, rfl⟩, fun h' N' => ⟨_, (N' _ (.head _)).1, rfl, e2, rfl⟩, ?elt, ?ret⟩
                    case szz => rw [hsz2, sizeLine_eq]; exact Nat.le_of_ble_eq_true rfl
                    case elt =>
                      intro i v hv C3 h3 tk3 m3 F3 N3 hns hm3
                      refine ex2 (hvs.item i v (by simpa using hv)) ?_
                      rintro y ty xq19
                      refine an2 xq19 ?_
                      clear xq19
                      rintro rfl hy
                      k_with "eval Name" => first | refine nameG_K F3 X (topRead_of T) (by k_is) ?_ rfl rfl rfl rfl | refine wpAny_Name (wpAny_loadName_local rfl rfl hns hm3 ?_)
                      repeat' ((fail_if_success (with_reducible show wpAny _ _ (call (Value.ref _) _) _ _ _)); first | (k_unfold; (try dsimp only)) | (k_end; kc_close) | walk1 | (dsimp only; walk1) | (leave1; (try dsimp only)) | fail "no step")
                      refine refused_tells (k := k + 15) (C.pushE F3 rfl rfl) (pushX B0 F3 rfl rfl) X T (kd_law F3) (hyf y (List.mem_of_getElem? hy)).1 ?_
                      intro t' h' tk' hS'
                      try dsimp only
                      exact ⟨⟨y, _, hy, rfl⟩, xi2 h' _ ⟨rfl, hS'⟩⟩
                    case ret =>
                      intro D3 y3 e3' h3 tk3 F3 N3 hsz3 hP3
                      clear F2
                      repeat' ((fail_if_success (with_reducible show wpAny _ _ (eval (Expr.ListComp _ _ _ _) _) _ _ _)); first | (k_unfold; (try dsimp only)) | (k_end; kc_close) | walk1 | (dsimp only; walk1) | (leave1; (try dsimp only)) | fail "no step")
                      refine comp_list (hs := fun _ => rfl) (P := fun i v => ∃ y t, ys[i]? = some y ∧ v = .str (Str.ofString "reply " ++ y) t) F3 rfl rfl (by decide) rfl (by decide) rfl ?_
                      walk1
                      refine xi3 _ D2 y2 ⟨rfl, ⟨_, (N3 _ (.tail _ (.head _))).1, rfl, e2, rfl⟩, ?szz, F3, N3, ⟨_, .tail _ (.head _), rfl⟩, fun h' N' => ⟨_, (N' _ (.tail _ (.head _))).1, rfl, e2, rfl⟩, ?elt, ?ret⟩
                      case szz => rw [hsz2, sizeLine_eq]; exact Nat.le_of_ble_eq_true rfl
                      case elt =>
                        intro i v hv C3 h4 tk4 m4 F4 N4 hns hm4
                        refine ex2 (hvs.item i v (by simpa using hv)) ?_
                        rintro y ty xq20
                        refine an2 xq20 ?_
                        clear xq20
                        rintro rfl hy
                        k_with "eval Name" => refine wpAny_Name (wpAny_loadName_local rfl rfl hns hm4 ?_)
                        have hyl : y.length ≤ 80 := (hyf y (List.mem_of_getElem? hy)).1.len
                        repeat' ((fail_if_success (with_reducible show wpAny _ _ (binaryOp _ _ _) _ _ _)); first | (k_unfold; (try dsimp only)) | (k_end; kc_close) | walk1 | (dsimp only; walk1) | (leave1; (try dsimp only)) | fail "no step")
                        refine PyProof.Rows.add_str (fun t' tk' => ?_) (Nat.le_trans (Nat.add_le_add_left hyl _) (by decide))
                        exact ⟨⟨y, _, hy, rfl⟩, xi2 h4 _ ⟨rfl, .refl⟩⟩
                      case ret =>
                        intro D4 y4 e4' h4 tk4 F4 N4 hsz4 hP4
                        repeat' ((fail_if_success (with_reducible show wpAny _ _ (compareOp _ _ _) _ _ _)); first | (k_unfold; (try dsimp only)) | (k_end; kc_close) | walk1 | (dsimp only; walk1) | (leave1; (try dsimp only)) | fail "no step")
                        have hu9 := C.units
                        have hs2 := strs_of (f := fun y => Str.ofString "reply " ++ y) (vs := y3.toList) (ys := ys) (by rw [Array.length_toList, hsz3, hsz2, hysl]; rfl) (fun i v hv => hP3 i v (by simpa using hv))
                        have hs3 := strs_of (f := fun y => Str.ofString "reply " ++ y) (vs := y4.toList) (ys := ys) (by rw [Array.length_toList, hsz4, hsz2, hysl]; rfl) (fun i v hv => hP4 i v (by simpa using hv))
                        refine ne_strs_same ⟨_, (N4 _ (.tail _ (.head _))).1, rfl, e3', by simp⟩ ⟨_, (N4 _ (.head _)).1, rfl, e4', by simp⟩ hs2 hs3 (fun y hy => by obtain ⟨z, hz, rfl⟩ := List.mem_map.mp hy; exact strOk_app (by decide +kernel) (hyf z hz).2) (by simp only [Around.deeper_units] at hu9 ⊢; (first | exact omG26.2.2.2.2.2.2.2.2.2.1 hu9 | omega)) ?_
                        k_steps
                        exact LJ4.mk' hB3 F4 (fun q hq => N4 q (.tail _ (.tail _ (.tail _ (.tail _ hq))))) hBk hlen nB nC n1 n2 n3 n4 n5
                · clear F3 N3 hBk hlen nB nC n1 n2 n3 n4 n5 hB3
                  intro h3 tk3 gens3 m3 bk es e3 oc3 v1 v2 v3 v4 v5 hB3 F3 N3 hBk hlen nB nC n1 n2 n3 n4 n5
                  dsimp only
                  · subst hoD
                    have y1 : whole - 1 ≠ 0 := by (first | exact omG7.2.2.2.2.2.2.2.2.2.1 hwp | omega)
                    have y2 : Builtin.divisionGoesByPylong c2 (whole - 1) = false := noPy (k := 6) _ (by (first | exact omG14.2.2.2.2.2.2.2.2.2.1 hwp | omega)) (by (first | exact omG27.2.2.2.2.1 hw6 | omega)) (by decide)
                    have y3 : (1000 : Int) ≠ 0 := by decide
                    have y4 : Builtin.divisionGoesByPylong c3 1000 = false := noPy (k := 10) _ (by decide) (by decide) (by decide)
                    refine execs_at 1 ?_
                    dsimp only [List.take, List.drop]
                    refine WalkS.cut (s := s) (L := L) (B := B) (D := D) (oD := fourI c0 c1 c2 c3 t0 t1 t2 t3 e) (oc := oc3) (wd := wd) (whole := whole) (figure := figure) (dress := dress) (gens := gens3) (bk := bk) (e3 := e3) ?_ ?_
                    · repeat' ((fail_if_success (with_reducible show wpAny _ _ (newList _) _ _ _)); first | (k_unfold; (try dsimp only)) | (k_end; kc_close) | walk1 | (dsimp only; walk1) | (leave1; (try dsimp only)) | fail "no step")
                      refine newList_K (by assumption) (by assumption) ?_
                      intro P hP4 FP NP hPlt
                      repeat' ((fail_if_success (with_reducible show wpAny _ _ (newList _) _ _ _)); first | (k_unfold; (try dsimp only)) | (k_end; kc_close) | walk1 | (dsimp only; walk1) | (leave1; (try dsimp only)) | fail "no step")
                      refine newList_K (by assumption) (by assumption) ?_
                      intro G hG4 FG NG hGlt
                      clear FP NP
                      repeat' (first | (k_unfold; (try dsimp only)) | (k_end; kc_close) | walk1 | (dsimp only; walk1) | (leave1; (try dsimp only)) | fail "no step")
                      (rename Fr _ _ _ _ => F9)
                      (rename News _ _ _ _ => N9)
                      have hff' := fdiv_facts c2 (b := whole - 1) (by (first | exact omG27.2.2.2.2.2.1 hwp | omega))
                      have f1 := hff'.2.1
                      have f2 := hff'.2.2
                      clear hff'
                      refine ⟨rfl, P, G, (whole - 0).toNat, fun q hq => ⟨Nat.ne_of_lt (hPlt q hq), Nat.ne_of_lt (hGlt q (.tail _ hq))⟩, Nat.ne_of_lt (hGlt _ (.head _)), WalkJ.mk' (pv := []) (gv := []) (ps := []) (gs := []) (e1 := 0) (e2 := 0) (place := 1 + c2.fmod (whole - 1)) F9 ?_ .nil .nil (.start ⟨by (first | exact omG27.2.2.2.2.2.2.1 f1 | omega), by (first | exact omG27.2.2.2.2.2.2.2.1 f2 | omega)⟩) (by simp; (first | exact omG27.2.2.2.2.2.2.2.2.1 hwp | omega)) rfl rfl rfl nB nC n1 n2 n3 n4 n5⟩
                      exact cb_drop N9 (List.forall_mem_cons.mpr ⟨.tail _ (.tail _ (.head _)), List.forall_mem_cons.mpr ⟨.tail _ (.head _), fun p hp => .tail _ (.tail _ (.tail _ hp))⟩⟩)
                    · intro P G n0 s1 hap hPG W0
                      clear F3 N3 nB nC n1 n2 n3 n4 n5 y1 y2
                      dsimp only
                      have hapP : ∀ h, ∀ q ∈ (G, h) :: (B, W.listOf (refsOf bk).toArray e3) :: (L + 1, oc3) :: (D, fourI c0 c1 c2 c3 t0 t1 t2 t3 e) :: bk, q.1 ≠ P := fun h => List.forall_mem_cons.mpr ⟨Ne.symm hPG, fun q hq => (hap q hq).1⟩
                      have hapG : ∀ q ∈ (B, W.listOf (refsOf bk).toArray e3) :: (L + 1, oc3) :: (D, fourI c0 c1 c2 c3 t0 t1 t2 t3 e) :: bk, q.1 ≠ G := fun q hq => (hap q hq).2
                      refine execs_at 1 ?_
                      dsimp only [List.take, List.drop]
                      refine wpAny_execs_cons (while_turns ⟨_, n0, W0, ?_⟩)
                      clear W0
                      intro n s1 HJ
                      refine WalkJ.elim HJ ?_
                      clear HJ
                      intro h tk m1 pv gv ps gs e1 e2 place tp v1 v2 v3 v4 v5 F N hpI hgI hPre hn mp mP mG mB mC n1 n2 n3 n4 n5
                      dsimp only
                      repeat' ((fail_if_success (with_reducible show wpAny _ _ (compareOp _ _ _) _ _ _)); first | (k_unfold; (try dsimp only)) | (k_end; kc_close) | walk1 | (dsimp only; walk1) | (leave1; (try dsimp only)) | fail "no step")
                      refine notin_list_ints ⟨_, (N _ (.head _)).1, rfl, e1, rfl⟩ hpI ?_
                      have hle := hPre.le
                      by_cases hmem : place ∈ ps
                      · rw [show ps.any (· == place) = true from List.any_eq_true.mpr ⟨place, hmem, by simp⟩]
                        have hN := hPre.notes hmem
                        repeat' ((fail_if_success (with_reducible show wpAny _ _ (call (Value.ref _) _) _ _ _)); first | (k_unfold; (try dsimp only)) | (k_end; kc_close) | walk1 | (dsimp only; walk1) | (leave1; (try dsimp only)) | fail "no step")
                        (rename Fr _ _ _ _ => F9)
                        (rename News _ _ _ _ => N9)
                        have hff' := fdiv_facts c3 (b := 1000) (by decide)
                        have f1 := hff'.2.1
                        have f2 := hff'.2.2
                        clear hff'
                        refine far_tells (k := k + 13) (C.pushE F9 rfl rfl) (N9 _ (.head _)).1 hpI (N9 _ (.tail _ (.head _))).1 hgI hN (by (first | exact omG27.2.2.2.2.2.2.2.2.2.1 hw6 hn | omega)) hw1 hw3 hwl hwh f1 f2 hf0 hf1 ?_
                        intro h' tk' hst'
                        exact ret _ _ _ (fr_on F9 hst').keep hB3
                      · rw [show ps.any (· == place) = false from by
                          rw [List.any_eq_false]
                          intro x hx e
                          exact hmem (by simpa using (beq_iff_eq.mp e) ▸ hx)]
                        obtain ⟨pn, hpn⟩ := Int.eq_ofNat_of_zero_le hPre.pl.1
                        have hpl2 := hPre.pl.2
                        have hrl : pn < es.length := by (first | exact omG27.2.2.2.2.2.2.2.2.2.2.1 hlen hpn hpl2 | omega)
                        refine ex1 (hBk.ents.get pn (List.getElem?_eq_getElem hrl)) ?_
                        rintro p xq21
                        refine an2 xq21 ?_
                        clear xq21
                        rintro hp xq22
                        refine ex2 xq22 ?_
                        clear xq22
                        rintro tq tp' hpo
                        refine an4 (hBk.told pn _ (List.getElem?_eq_getElem hrl)) ?_
                        rintro g1 g2 g3 g4
                        generalize es[pn] = en at *
                        have hz1 : pv.toArray.size ≤ sizeLine := by rw [List.size_toArray, hpI.length]; exact Nat.le_trans (show ps.length ≤ 64 by (first | exact omG27.2.2.2.2.2.2.2.2.2.2.2 hw6 hn | omega)) (by decide)
                        have hz2 : gv.toArray.size ≤ sizeLine := by rw [List.size_toArray, hgI.length, hPre.len]; exact Nat.le_trans (show ps.length ≤ 64 by (first | exact omG27.2.2.2.2.2.2.2.2.2.2.2 hw6 hn | omega)) (by decide)
                        repeat' ((fail_if_success (with_reducible show wpAny _ _ (call (Value.builtin "list.append") _) _ _ _)); first | (k_unfold; (try dsimp only)) | (k_end; kc_close) | walk1 | (dsimp only; walk1) | (leave1; (try dsimp only)) | fail "no step")
                        refine append_K F N (.head (hapP _)) ?_ hz1
                        intro h5 F5 N5
                        clear F N
                        repeat' ((fail_if_success (with_reducible show wpAny _ _ (subscriptTail _ _ _ _) _ _ _)); first | (k_unfold; (try dsimp only)) | (k_end; kc_close) | walk1 | (dsimp only; walk1) | (leave1; (try dsimp only)) | fail "no step")
                        refine item_list (items := (refsOf bk).toArray) (x := .ref p.1) ⟨_, (N5 _ (.tail _ (.tail _ (.head _)))).1, rfl, e3, rfl⟩ hPre.pl.1 (by (first | exact omG28.1 hw6 hpl2 | omega)) (by rw [hpn]; simp [hp]) ?_
                        repeat' ((fail_if_success (with_reducible show wpAny _ _ (subscriptTail _ _ _ _) _ _ _)); first | (k_unfold; (try dsimp only)) | (k_end; kc_close) | walk1 | (dsimp only; walk1) | (leave1; (try dsimp only)) | fail "no step")
                        have hp5 := (N5 _ (.tail _ (.tail _ (.tail _ (.tail _ (.tail _ (List.mem_of_getElem? hp))))))).1
                        rw [hpo] at hp5
                        refine item_tupleT (k := 0) (j := 0) (l := [.int en.1 tq, .int en.2 tp']) ⟨_, hp5, rfl, _, rfl⟩ (by decide) (by decide) rfl rfl ?_
                        repeat' ((fail_if_success (with_reducible show wpAny _ _ (call (Value.builtin "list.append") _) _ _ _)); first | (k_unfold; (try dsimp only)) | (k_end; kc_close) | walk1 | (dsimp only; walk1) | (leave1; (try dsimp only)) | fail "no step")
                        refine append_K F5 N5 (.tail hPG (.head hapG)) ?_ hz2
                        intro h6 F6 N6
                        clear F5 N5 hp5
                        repeat' ((fail_if_success (with_reducible show wpAny _ _ (subscriptTail _ _ _ _) _ _ _)); first | (k_unfold; (try dsimp only)) | (k_end; kc_close) | walk1 | (dsimp only; walk1) | (leave1; (try dsimp only)) | fail "no step")
                        refine item_list (items := (refsOf bk).toArray) (x := .ref p.1) ⟨_, (N6 _ (.tail _ (.tail _ (.head _)))).1, rfl, e3, rfl⟩ hPre.pl.1 (by (first | exact omG28.1 hw6 hpl2 | omega)) (by rw [hpn]; simp [hp]) ?_
                        repeat' ((fail_if_success (with_reducible show wpAny _ _ (subscriptTail _ _ _ _) _ _ _)); first | (k_unfold; (try dsimp only)) | (k_end; kc_close) | walk1 | (dsimp only; walk1) | (leave1; (try dsimp only)) | fail "no step")
                        have hp6 := (N6 _ (.tail _ (.tail _ (.tail _ (.tail _ (.tail _ (List.mem_of_getElem? hp))))))).1
                        rw [hpo] at hp6
                        refine item_tupleT (k := 1) (j := 1) (l := [.int en.1 tq, .int en.2 tp']) ⟨_, hp6, rfl, _, rfl⟩ (by decide) (by decide) rfl rfl ?_
                        k_steps
                        (rename Fr _ _ _ _ => F9)
                        (rename News _ _ _ _ => N9)
                        show Hold _
                        rw [List.push_toArray, List.push_toArray] at N9
                        have hpp : place * 2 ^ wd + figure = en.1 * whole + en.2 := by rw [hpn]; exact g1
                        have hgb : en.1 < 2 ^ wd := by
                          have q1 : place * 2 ^ wd ≤ (whole - 1) * 2 ^ wd := Int.mul_le_mul_of_nonneg_right (by (first | exact omG16.2.2.2.2.2.2.2.2.2.2.1 hpl2 | omega)) (by (first | exact omG12.2.2.2.2.2.2.2.2.1 hp2 | omega))
                          have q2 : whole * en.1 < whole * 2 ^ wd := by
                            rw [Int.sub_mul] at q1
                            rw [Int.mul_comm whole en.1]
                            (first | exact omG28.2.1 hf1 g2 hpp q1 | omega)
                          exact Int.lt_of_mul_lt_mul_left q2 (by (first | exact omG12.2.2.2.2.2.2.2.2.1 hwp | omega))
                        have hPre' := hPre.snoc hmem hpp ⟨g4, hgb⟩ ⟨g2, g3⟩
                        have hle' := hPre'.le
                        rw [List.length_append, List.length_singleton] at hle'
                        exact ⟨⟨n - 1, by (first | exact omG28.2.2.1 hn hle' | omega), WalkJ.mk' (pv := pv ++ [.int place tp]) (gv := gv ++ [.int en.1 tq]) F9 N9 (IntsAre.append hpI (.cons _ _ .nil)) (IntsAre.append hgI (.cons _ _ .nil)) hPre' (by rw [List.length_append, List.length_singleton]; (first | exact omG28.2.2.2.1 hn hle' | omega)) rfl mP mG mB mC n1 n2 n3 n4 n5⟩⟩
end

section
open PySem PySem.W PySem.Calls PyProof.Rows
set_option maxRecDepth 100000
set_option maxHeartbeats 8000000
theorem main : PySem.Challenge.rw_xi0003_01.Holds := hd (by
  k_with_none
  k_fill
  intro w s₀ s₁ mg mb G Y fa o pm cd doc dV kV ho hd hcd hD hmg hg args vals as hpre hlay hrd hwl hlo
  have KX := kIn_of Y
  have X := (Ground.X G).1
  have V := (Ground.X G).2
  try w_nolog (first | (have GL := glob_more (Ground.glob G (by first | k_qdec | decide +kernel) (by first | k_qdec | decide +kernel)) V) | (have GL := glob_more (Ground.glob G (by decide +kernel)) V))
  refine Ground.open G ?_
  intro T B D TE TW
  try (refine guard_noD D (by decide +kernel) ?_; clear D)
  obtain ⟨_, _, M⟩ := bmod_of_top T
  have TA := at_of_top T
  try (obtain ⟨_, _, he, B0⟩ := based_of_top T rfl hmg ho hd; have he' : cd = _ := he; subst he'; clear he)
  have hfa := mg_of (n := Str.ofString "law") (v := .ref 133) KX T.g (by k_is)
  have hfe : fa = 133 := by
    have := hfa.symm.trans hmg
    cases this; rfl
  clear hmg
  wrow_args hpre hlay hrd hwl hlo
  have K0 := below_caller (Top.heap T)
  subst hfe
  refine enter_call ?_
  refine law_tells (k := 0) ⟨⟨_, _, K0⟩, KX, T, by decide, by decide +kernel, rfl⟩ rfl (by assumption) (by assumption) ?_
  intro h' tk' gens' hst hgb
  refine ⟨.inl ⟨.bool true, ofPy (.bool true), [], rfl, fun cls => rfl, ?_, ?_, fun _ => ⟨.nil, fun _ h => nomatch h⟩⟩, OldK.of_keep hst, rfl, hgb (AllBare.of_eq hg)⟩
  · exact ReadsW.bool true
  · wrow_post)
end

end Xi

set_option maxRecDepth 100000 in
set_option maxHeartbeats 8000000 in
theorem PySem.Challenge.cw_xi0003_01_holds : PySem.Challenge.rw_xi0003_01.Holds := by
  exact Xi.main
