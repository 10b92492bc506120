import PyProof.Rows.All
import Wide.All
import OpenK.AllK
import Wide.FinOn
import KE.KxBytes
import KE.KTryMore
import KE.KNest
import Lean
import PySem.Challenge.RW_sw0033_01
open PySem PySem.W PyProof.Rows PySem.Calls
set_option Elab.async false
set_option linter.all false
set_option maxRecDepth 100000
set_option bootstrap.genMatcherCode false
set_option genSizeOf false
set_option compiler.extract_closed false
set_option maxHeartbeats 2000000
local macro_rules | `(tactic| omega) => `(tactic| lia)

set_option Elab.async false
set_option linter.all false
set_option maxRecDepth 100000
namespace Mine
theorem dep {a m n L : Nat} (h : a + m < L) (k : n ≤ m := by decide) : a + n < L := Nat.lt_of_le_of_lt (Nat.add_le_add_left k a) h
theorem dep0 {a m L : Nat} (h : a + m < L) : a < L := Nat.lt_of_le_of_lt (Nat.le_add_right a m) h
theorem na_lt {c : Int} {m n : Nat} (h : c.natAbs < n) (k : n ≤ m := by decide) : c.natAbs < m := Nat.lt_of_lt_of_le h k
theorem na_up {c : Int} {n : Nat} {N : Int} (h : c.natAbs < n) (k : (n : Int) ≤ N := by decide) : c < N :=
  Int.lt_of_lt_of_le (Int.lt_of_le_of_lt Int.le_natAbs (Int.ofNat_lt.mpr h)) k
theorem na_lo {c : Int} {n : Nat} {N : Int} (h : c.natAbs < n) (k : N ≤ -(n : Int) := by decide) : N < c :=
  Int.lt_of_le_of_lt k (Int.neg_lt_of_neg_lt (Int.lt_of_le_of_lt (Int.natAbs_neg c ▸ Int.le_natAbs) (Int.ofNat_lt.mpr h)))
theorem na_one {s x : Int} {n : Nat} (h : s = 1 ∨ s = -1) (k : x.natAbs < n) : (s * x).natAbs < n := by
  rw [Int.natAbs_mul]
  rcases h with rfl | rfl <;> exact (Nat.one_mul _).symm ▸ k
theorem na_pos {x : Int} {W n : Nat} (h0 : 0 ≤ x) (h1 : x < (W : Int)) (k : W ≤ n) : x.natAbs < n :=
  Nat.lt_of_lt_of_le ((Int.ofNat_lt).mp ((Int.natAbs_of_nonneg h0).symm ▸ h1)) k
theorem one_lo {s : Int} (h : s = 1 ∨ s = -1) : -2 ^ 64 < s := by rcases h with rfl | rfl <;> decide
theorem one_up {s : Int} (h : s = 1 ∨ s = -1) : s < 2 ^ 64 := by rcases h with rfl | rfl <;> decide
theorem nat_lo {n : Nat} {N : Int} (k : N < 0 := by decide) : N < (n : Int) := Int.lt_of_lt_of_le k (Int.natCast_nonneg n)
theorem nat_up {n m : Nat} {N : Int} (h : n < m) (k : (m : Int) ≤ N := by decide) : (n : Int) < N := Int.lt_of_lt_of_le (Int.ofNat_lt.mpr h) k
theorem nat_ul {n m : Nat} {N : Int} (h : n ≤ m) (k : (m : Int) < N := by decide) : (n : Int) < N := Int.lt_of_le_of_lt (Int.ofNat_le.mpr h) k
theorem le_by {a b c : Nat} (h : a ≤ b) (k : b ≤ c := by decide) : a ≤ c := Nat.le_trans h k
theorem lt_by {a b c : Nat} (h : a ≤ b) (k : b < c := by decide) : a < c := Nat.lt_of_le_of_lt h k
theorem dep1 {a k L : Nat} (h : a + (k + 1) < L) : a + 1 + k < L := by rw [Nat.add_assoc, Nat.add_comm 1 k]; exact h
theorem beq_t {a b : Nat} (h : a + 1 = b) : ((a : Int) + 1 == (b : Int)) = true := by subst h; exact beq_self_eq_true _
theorem beq_f {a b : Nat} (h : ¬ a + 1 = b) : ((a : Int) + 1 == (b : Int)) = false := beq_eq_false_iff_ne.mpr fun e => h (Int.ofNat.inj e)
theorem half_cast (a b : Nat) : ((a : Int) + b) / 2 = ((a + b) / 2 : Nat) := rfl
theorem mid_ok {a b m : Nat} (h : a < b) (he : ¬ a + 1 = b) (hm : (a + b) / 2 = m) : a < m ∧ m < b := by lia
theorem dif_lo {a b : Nat} (h : a ≤ b) : -2 ^ 64 < (b : Int) - a := by lia
theorem dif_up {a b n : Nat} (h : b < n) (k : (n : Int) ≤ 2 ^ 64 := by decide) : (b : Int) - a < 2 ^ 64 := by lia
theorem take_drop_len {α : Type} {l : List α} {a b : Nat} (h : b ≤ l.length) : ((l.drop a).take (b - a)).length = b - a := by
  rw [List.length_take, List.length_drop]; exact Nat.min_eq_left (Nat.sub_le_sub_right h a)
theorem sub_k {lo m hi k : Nat} (h : hi - lo ≤ k + 1) (h1 : lo < m) : hi - m ≤ k := Nat.le_trans (Nat.sub_le_sub_left h1 hi) (show hi - (lo + 1) ≤ k by rw [Nat.sub_add_eq]; exact Nat.sub_le_of_le_add h)
theorem sub_k' {lo m hi k : Nat} (h : hi - lo ≤ k + 1) (h1 : m < hi) : m - lo ≤ k := Nat.le_trans (Nat.sub_le_sub_right (Nat.le_sub_one_of_lt h1) lo) (show hi - 1 - lo ≤ k by rw [Nat.sub_right_comm]; exact Nat.sub_le_of_le_add h)
theorem sum27 {a b c : Nat} (h1 : a ≤ c) (h2 : c ≤ 64 * 64) (h3 : b ≤ 64 * 64) : (a : Int) + b ≤ 2 ^ 27 := by lia
theorem sub_split {a b c : Nat} (h1 : a ≤ b) (h2 : b ≤ c) : b - a + (c - b) = c - a := by rw [Nat.add_comm, Nat.sub_add_sub_cancel h2 h1]
theorem na_pow {a : Int} {k : Nat} (h0 : 0 ≤ a) (h : a < 2 ^ k) : a.natAbs < 2 ^ k :=
  Int.ofNat_lt.mp ((Int.natAbs_of_nonneg h0).symm ▸ (show ((2 ^ k : Nat) : Int) = 2 ^ k by simp).symm ▸ h)
theorem ne_of_big {r most : Int} (h0 : 0 ≤ most) (h : most < r.natAbs) : r ≠ 0 := by rintro rfl; exact absurd h (Int.not_lt_of_ge h0)
theorem abs_gt {r most : Int} (h : most < r.natAbs) : most < (if r < 0 then -r else r) := by split <;> lia
theorem abs_ng {r most : Int} (h : r.natAbs ≤ most) : ¬ most < (if r < 0 then -r else r) := by split <;> lia
theorem par_e (a c : Nat) : ((a + 1 + c : Nat) : Int) - 1 = ((a + c : Nat) : Int) := by lia
theorem par {n a c d : Nat} (h : n = a + 1 + c + 1 + d) : (a + 1 < n ∧ a + c < n ∧ a + 1 + c ≤ n ∧ c ≤ n) ∧ ((-(n : Int) ≤ (a : Int) + 1 ∧ (a : Int) + 1 < n) ∧ -(n : Int) ≤ ((a + 1 + c : Nat) : Int) - 1 ∧ ((a + 1 + c : Nat) : Int) - 1 < n) := by
  subst h
  have h1 := Nat.lt_of_lt_of_le (Nat.lt_succ_of_le (Nat.le_add_right (a + 1) c)) (Nat.le_add_right _ d)
  have h2 := Nat.lt_of_lt_of_le (Nat.lt_succ_of_le (Nat.add_le_add_right (Nat.le_succ a) c)) (Nat.le_add_right _ d)
  have h3 := Nat.le_trans (Nat.le_succ (a + 1 + c)) (Nat.le_add_right _ d)
  have h4 : ∀ {x y : Nat}, -(x : Int) ≤ y := fun {x y} => Int.le_trans (Int.neg_nonpos_of_nonneg (Int.natCast_nonneg x)) (Int.natCast_nonneg y)
  rw [par_e]
  exact ⟨⟨h1, h2, h3, Nat.le_trans (Nat.le_add_left c (a + 1)) h3⟩, ⟨h4 (y := a + 1), Int.ofNat_lt.mpr h1⟩, h4, Int.ofNat_lt.mpr h2⟩
theorem sub_lt_n {p n L q : Nat} (h : p + n = L) (h1 : p < q) (h2 : q ≤ L) : L - q < n := Nat.sub_lt_left_of_lt_add h2 (h ▸ Nat.add_lt_add_right h1 n)
theorem two_more {a b p q : Nat} (h : a ≤ b + 1) (h1 : b ≤ 2 * p) (h2 : p < q) : a + 1 ≤ 2 * q := by lia
theorem three_more {a b r s p q : Nat} (h : a ≤ 3 * p) (hr : r ≤ 2) (h1 : p ≤ s) (h2 : s < q) : a + min (s - p) b + r ≤ 3 * q := by
  obtain ⟨d, rfl⟩ := Nat.exists_eq_add_of_le h1
  rw [Nat.add_sub_cancel_left]
  have := Nat.min_le_left d b
  generalize min d b = m at this
  lia
theorem in_drop {p L a b : Nat} (_ : p ≤ L) (h : L - p = a + 1 + b) : p + a < L := Nat.add_lt_of_lt_sub' (h ▸ Nat.lt_of_lt_of_le (Nat.lt_succ_self a) (Nat.le_add_right _ b))
theorem sub_s {L i : Nat} (h : i < L) : L - (i + 1) + 1 = L - i := by rw [Nat.sub_add_eq, Nat.sub_add_cancel (Nat.sub_pos_of_lt h)]
theorem big {n : Nat} {p m : Int} (hb : n ≤ 151) (hp : 0 ≤ p ∧ p < n) (h0 : 0 ≤ m) (hm : m ≤ 151 * 399) : (0 ≤ p + m ∧ p + m < 10 ^ 10) ∧ (0 ≤ (n : Int) - p + m ∧ (n : Int) - p + m < 10 ^ 10) ∧ (p + m).natAbs < 2 ^ 64 ∧ ((n : Int) - p + m).natAbs < 2 ^ 64 := by
  have h1 : 0 ≤ p + m := Int.add_nonneg hp.1 h0
  have h2 : p + m < 151 + 151 * 399 := Int.add_lt_add_of_lt_of_le (Int.lt_of_lt_of_le hp.2 (Int.ofNat_le.mpr hb)) hm
  have h3 : 0 ≤ (n : Int) - p + m := Int.add_nonneg (Int.sub_nonneg_of_le (Int.le_of_lt hp.2)) h0
  have h4 : (n : Int) - p + m ≤ 151 + 151 * 399 := Int.add_le_add (Int.le_trans (Int.sub_le_self _ hp.1) (Int.ofNat_le.mpr hb)) hm
  exact ⟨⟨h1, Int.lt_of_lt_of_le h2 (by decide)⟩, ⟨h3, Int.lt_of_le_of_lt h4 (by decide)⟩, na_pow h1 (Int.lt_of_lt_of_le h2 (by decide)), na_pow h3 (Int.lt_of_le_of_lt h4 (by decide))⟩
theorem end_n {x : Int} (h : 0 ≤ x) : ((x + 1) % 3).toNat = (x.toNat + 1) % 3 := by
  obtain ⟨n, rfl⟩ := Int.eq_ofNat_of_zero_le h
  rfl
theorem mod_n {x m : Int} (h : m ≠ 0) : x % m = ((x % m).toNat : Int) := (Int.toNat_of_nonneg (Int.emod_nonneg _ h)).symm
theorem neg_one {n : Nat} (h : 0 < n) : ((-1 : Int) + (n : Nat)).toNat = n - 1 := by
  cases n with
  | zero => cases h
  | succ n => rw [Int.natCast_succ, Int.add_comm, Int.add_neg_cancel_right]; rfl
theorem pred_nat {a : Int} (h : 0 < a) : (1 : Int) + ((a - 1).toNat : Int) = a := by
  rw [Int.toNat_of_nonneg (show 0 ≤ a - 1 from Int.sub_nonneg_of_le h), Int.add_comm, Int.sub_add_cancel]
theorem pred_lt {a b : Int} (h : 0 < a) (k : a ≤ b) : (a - 1).toNat < (b + 1 - 1).toNat := by
  rw [Int.add_sub_cancel]; exact (Int.toNat_lt_toNat (Int.lt_of_lt_of_le h k)).mpr (Int.sub_one_lt_of_le k)
theorem abs_89 {x : Int} (h1 : -89 ≤ x) (h2 : x ≤ 89) : x.natAbs ≤ 89 := by lia
theorem half_up (n : Nat) : (n : Int) - (n : Int) / 2 + 1 = ((n - n / 2 + 1 : Nat) : Int) := by
  rw [Int.natCast_add, Int.natCast_sub (Nat.div_le_self n 2)]; rfl
theorem kk5 {n k m c : Nat} (h : k ≤ 2) (h3 : m ≤ 3 * n + c) : k + (m + 1) ≤ 3 * (n + 1) + c := by lia
theorem quo_lo {a u s : Int} (hs : 0 < s) (e : a = u * s) (h : -89 ≤ a) : -89 ≤ u := Int.not_lt.mp fun hu => by
  have h1 : u * s ≤ u * 1 := Int.mul_le_mul_of_nonpos_left (Int.le_of_lt (Int.lt_trans hu (by decide))) hs
  rw [Int.mul_one, ← e] at h1
  exact absurd (Int.lt_of_le_of_lt h1 hu) (Int.not_lt.mpr h)
theorem quo_up {a u s N : Int} (hN : 0 ≤ N) (hs : 0 < s) (e : a = u * s) (h : a ≤ N) : u ≤ N := Int.not_lt.mp fun hu => by
  have h1 : u * 1 ≤ u * s := Int.mul_le_mul_of_nonneg_left hs (Int.le_trans hN (Int.le_of_lt hu))
  rw [Int.mul_one, ← e] at h1
  exact absurd (Int.lt_of_lt_of_le hu h1) (Int.not_lt.mpr h)
end Mine

open PySem PySem.W PyProof.Rows PySem.Calls
set_option Elab.async false
set_option linter.all false
set_option maxRecDepth 100000
namespace Mine
/-- the claim's caller is on the stack -/
noncomputable def CIn (Γ : Ctx) : Prop := (Γ.code.isCaller || Γ.below.any fun q => q.1.isCaller) = true
noncomputable def CBelow (Γ : Ctx) : Prop := (Γ.below.any fun q => q.1.isCaller) = true
noncomputable def wpC {α : Type} (M : Model) (A : Around) (t : Sem α) (Q : α → Shared → Prop) (E : Value → Shared → Prop) (s : Shared) : Prop :=
  ∀ Γ p, Γ.In A → CIn Γ → Sem.wp M Γ t (fun a _ s' => Q a s') (fun e _ s' => E e s') p s
noncomputable def codeC (M : Model) (A : Around) (c : Code) (R : Result → Shared → Prop) (s : Shared) : Prop :=
  ∀ Γ p, Γ.code = c → Γ.Below A → CBelow Γ → wpCode M Γ R p s
section
variable {α β : Type} {M : Model} {A : Around} {E : Value → Shared → Prop} {s : Shared}
theorem CBelow.in {Γ : Ctx} (h : CBelow Γ) : CIn Γ := by unfold CIn; rw [show (Γ.below.any fun q => q.1.isCaller) = true from h, Bool.or_true]
theorem CIn.enter {Γ : Ctx} (h : CIn Γ) (c : Code) (hd : Option Value) (p : Pos) : CBelow (Γ.enter c hd p) := h
theorem wpC_of_any {t : Sem α} {Q : α → Shared → Prop} (h : wpAny M A t Q E s) : wpC M A t Q E s := fun Γ p hΓ _ => h Γ p hΓ
theorem codeC_of_any {c : Code} {R : Result → Shared → Prop} (h : codeAny M A c R s) : codeC M A c R s := fun Γ p hc hΓ _ => h Γ p hc hΓ
theorem wpC_pure {a : α} {Q : α → Shared → Prop} (h : Q a s) : wpC M A (pure a) Q E s := fun _ _ _ _ => h
theorem wpC_mono {t : Sem α} {Q Q' : α → Shared → Prop} {E' : Value → Shared → Prop} (h : wpC M A t Q E s) (hQ : ∀ a s, Q a s → Q' a s) (hE : ∀ e s, E e s → E' e s) : wpC M A t Q' E' s :=
  fun Γ p hΓ hc => Sem.wp_mono M Γ t (fun a _ s => hQ a s) (fun e _ s => hE e s) p s (h Γ p hΓ hc)
theorem wpC_bind {m : Sem α} {f : α → Sem β} {Q : β → Shared → Prop} (h : wpC M A m (fun a s' => wpC M A (f a) Q E s') E s) : wpC M A (m >>= f) Q E s := fun Γ p hΓ hc => by
  rw [Sem.wp_bind']
  exact Sem.wp_mono M Γ m (fun a p' s' h' => h' Γ p' hΓ hc) (fun _ _ _ h' => h') p s (h Γ p hΓ hc)
/-- a leaf first -/
theorem wpC_then {m : Sem α} {f : α → Sem β} {Q : β → Shared → Prop} (h : wpAny M A m (fun a s' => wpC M A (f a) Q E s') E s) : wpC M A (m >>= f) Q E s := wpC_bind (wpC_of_any h)
theorem wpC_of_eq {t : Sem α} {a : α} {Q : α → Shared → Prop} (h : t = pure a) (hQ : Q a s) : wpC M A t Q E s := h ▸ wpC_pure hQ
theorem wpC_onRaise {m : Sem α} {k : Value → Sem Unit} {Q : α → Shared → Prop} (h : wpC M A m Q (fun e s' => wpC M A (k e) (fun _ s'' => E e s'') E s') s) : wpC M A (m.onRaise k) Q E s := fun Γ p hΓ hc => by
  rw [Sem.wp_onRaise]
  exact Sem.wp_mono M Γ m (fun _ _ _ h' => h') (fun e p' s' h' => h' Γ p' hΓ hc) p s (h Γ p hΓ hc)
theorem wpC_attempt {m : Sem α} {Q : Except Value α → Shared → Prop} (h : wpC M A m (fun a => Q (.ok a)) (fun e => Q (.error e)) s) : wpC M A m.attempt Q E s := fun Γ p hΓ hc => by rw [Sem.wp_attempt]; exact h Γ p hΓ hc
theorem wpC_holding {vs : List Value} {m : Sem α} {Q : α → Shared → Prop} (h : wpC M A m Q E s) : wpC M A (holding vs m) Q E s := fun Γ p hΓ hc => by rw [Sem.wp_holding]; exact h Γ p hΓ hc
theorem wpC_run {c : Code} {h : Option Value} {Q : Flow → Shared → Prop} (hc : codeC M (A.mark h) c (fun r s' => match r with | .ok f => Q f s' | .error e => E e s') s) (hnb : h ≠ some byPass := by intro x; cases x) :
    wpC M A (PySem.run c h) Q E s := fun Γ p hΓ hcl => by rw [Sem.wp_run]; exact hc _ p rfl (hΓ.enter c h p hnb) (hcl.enter c h p)
theorem wpC_runValue {c : Code} {Q : Value → Shared → Prop} (hc : codeC M A c (fun r s' => match r with | .ok (.ret v) => Q v s' | .ok _ => False | .error e => E e s') s) :
    wpC M A (runValue c) Q E s := fun Γ p hΓ hcl => by rw [Sem.wp_runValue]; exact hc _ p rfl (hΓ.enter c none p (by intro x; cases x)) (hcl.enter c none p)
theorem wpC_call {f : Value} {pos : List Value} {kw : List (PySem.Str × Value)} {Q : Value → Shared → Prop} (hc : codeC M A (.call f ⟨pos, kw⟩) (fun r s' => match r with | .ok (.ret v) => Q v s' | .ok _ => False | .error e => E e s') s) :
    wpC M A (call f pos kw) Q E s := wpC_runValue hc
theorem codeC_mono {c : Code} {R R' : Result → Shared → Prop} (h : codeC M A c R s) (hR : ∀ r s, R r s → R' r s) : codeC M A c R' s := fun Γ p hc hΓ hcl => wpCode_mono hR (h Γ p hc hΓ hcl)
/-- the tree of a code: it may go on with a code of this calculus -/
noncomputable def FinC (M : Model) (A : Around) (R : Result → Shared → Prop) (fin : Fin) (s' : Shared) : Prop := match fin with | .done f => R (.ok f) s' | .again c' => c'.quiet = true ∧ codeC M A c' R s'
theorem codeC_of_tree {c : Code} {R : Result → Shared → Prop} (h : wpC M (A.under c) (M.den c) (FinC M A R) (fun e s' => R (.error e) s') s) : codeC M A c R s := fun Γ p hc hΓ hcl => by
  rw [wpCode_iff_wp, hc]
  refine Sem.wp_mono M Γ _ (fun fin p' s' h' => ?_) (fun _ _ _ h' => h') p s (h Γ p (hc ▸ hΓ.in) hcl.in)
  cases fin with
  | done f => exact h'
  | again c' => exact ⟨h'.1, h'.2 (Γ.goto c') p' rfl (hΓ.goto c') hcl⟩
theorem codeC_loop {c : Code} {R : Result → Shared → Prop} (hq : c.quiet = true) (I : Nat → Shared → Prop)
    (turn : ∀ n s, I n s → wpC M (A.under c) (M.den c) (fun fin s' => match fin with | .done f => R (.ok f) s' | .again c' => c' = c ∧ ∃ m, m < n ∧ I m s') (fun e s' => R (.error e) s') s)
    (n : Nat) (h : I n s) : codeC M A c R s := by
  induction n using Nat.strongRecOn generalizing s with
  | ind n ih =>
    refine codeC_of_tree (wpC_mono (turn n s h) (fun fin s' hf => ?_) fun _ _ h' => h')
    cases fin with
    | done f => exact hf
    | again c' => obtain ⟨rfl, m, hm, hI⟩ := hf; exact ⟨hq, ih m hm hI⟩
theorem codeC_with_toks {c : Code} {R : Result → Shared → Prop} {n : Nat} (hn : n ≤ s.toks) (h : codeC M A c (fun r s' => n ≤ s'.toks → R r s') s) : codeC M A c R s := by
  intro Γ p hc hΓ hcl
  obtain ⟨r, s', hr, hR⟩ := h Γ p hc hΓ hcl
  exact ⟨r, s', hr, hR (Nat.le_trans hn hr.toks_le)⟩
/-- the stack has the caller -/
theorem wpC_stack {Q : List (Code × Pos) → Shared → Prop} (h : ∀ st : List (Code × Pos), (st.any fun q => q.1.isCaller) = true → Q st s) : wpC M A stack Q E s := fun Γ p hΓ hcl => by
  show Q ((Γ.code, p) :: Γ.below) s
  exact h _ hcl
theorem wpC_execs_cons {env : Env} {st rest} {Q : Flow → Shared → Prop}
    (h : wpC M A (exec st env) (fun f s' => match f with | .next => wpC M A (execs rest env) Q E s' | f => Q f s') E s) : wpC M A (execs (st :: rest) env) Q E s := fun Γ p hΓ hcl => by
  rw [execs_cons, Sem.wp_bind']
  refine Sem.wp_mono M Γ _ (fun f p' s' h' => ?_) (fun _ _ _ h' => h') _ _ (h Γ p hΓ hcl)
  cases f <;> first | exact h' Γ p' hΓ hcl | exact h'
theorem wpC_Assign_Name {env : Env} {x pos' value pos} {Q : Flow → Shared → Prop} (h : wpC M A (eval value env) (fun v s₁ => wpAny M A (storeName env x v) (fun _ => Q .next) E s₁) E s)
    (hs : swapsWith value (some (.Name x pos')) pos.line env = pure false := by rfl) : wpC M A (exec (.Assign [.Name x pos'] value pos) env) Q E s := fun Γ p hΓ hcl => by
  simp only [exec_Assign_Name env x pos' value pos hs, Sem.wp_bind', Sem.wp_cmd_standAt, Sem.wp_bindName, Sem.wp_pure']
  exact Sem.wp_mono M Γ _ (fun v _ s₁ h₁ => h₁ Γ _ hΓ) (fun _ _ _ h' => h') _ _ (h Γ _ hΓ hcl)
end
end Mine

open PySem PySem.W PyProof.Rows PySem.Calls
set_option Elab.async false
set_option linter.all false
set_option maxRecDepth 100000
namespace Mine
theorem caller_c : CIn (⟨.builtin "claim.caller" {}, none, none, [], none⟩ : Ctx) := by
  unfold CIn
  rw [show (⟨.builtin "claim.caller" {}, none, none, [], none⟩ : Ctx).code.isCaller = true by rfl, Bool.true_or]
theorem thread_ends_C {prog : Program} {w : World} {t : Sem PySem.Fin} {s : Shared} {R : Result → Shared → Prop} (hreg : s.asleep)
    (h : wpC (model prog w) callerA t (fun fin s' => ∃ f, fin = .done f ∧ (R (.ok f) s' ∧ leftWithCleanup s'.gens = false)) (fun e s' => R (.error e) s' ∧ leftWithCleanup s'.gens = false) s) :
    ∃ n r s' s'', runN (denote table) prog w n s ⟨t, .builtin "claim.caller" {}, default, []⟩ = .halted (outcomeOf r) s' ∧
      schedN (denote table) prog w n (.single s ⟨t, .builtin "claim.caller" {}, default, []⟩) = .halted (outcomeOf r) s' ∧ s'.forget = s''.forget ∧ R r s'' := by
  obtain ⟨n, r, s₁, s₂, hs, hn, hfo, hR⟩ := wp_halts_full (M := model prog w) (R := R) hreg (by
    refine Sem.wp_mono (model prog w) ⟨.builtin "claim.caller" {}, none, none, [], none⟩ t (fun fin p' s' h' => ?_) (fun _ _ _ h' => h') default s (h _ default caller_in caller_c)
    obtain ⟨f, rfl, hf⟩ := h'
    exact hf)
  exact ⟨n, r, s₂, s₁, hn, hs, hfo, hR⟩
theorem callFrom_C {c : ClaimW} {tree : List Value → Sem PySem.Fin} {w : World} {s : Shared} {free : Addr → Prop} {gens : Prop} {kept : Heap → Prop} (hz : s.asleep) (hgens : s.gens = #[])
    (hspec : ∀ args, c.pre args = true → WData.layableAll args = true →
      ∀ ord : List DictEntry → List DictEntry, (∀ l, (ord l).Perm l) →
      ∃ vs s₁, layAllW c.records (classAt s.heap) w.params ord args s = some (vs, s₁) ∧
        wpC (model c.prog w) callerA (tree vs) (fun fin s' => ∃ f, fin = .done f ∧ (c.Ends s args vs s₁ (.ok f) s' ∧ s'.os = s.os ∧ AllBare s'.gens ∧ kept s'.heap))
          (fun e s' => c.Ends s args vs s₁ (.error e) s' ∧ s'.os = s.os ∧ AllBare s'.gens ∧ kept s'.heap) s₁) :
    c.CallFrom (fun vs => ⟨tree vs, .builtin "claim.caller" {}, default, []⟩) w free gens kept s := by
  intro args hpre hlay ord hord
  obtain ⟨vs, s₁, hlaid, hcode⟩ := hspec args hpre hlay ord hord
  have hal := layAllW_rest _ _ _ hlaid
  obtain ⟨k, r, s', s'', hrun, hsched, hfo, hcase, hos, hkp⟩ := thread_ends_C (prog := c.prog) (w := w) (t := tree vs) (s := s₁)
    (R := fun r s' => c.Ends s args vs s₁ r s' ∧ s'.os = s.os ∧ kept s'.heap)
    (Shared.asleep_of_life hal.2.2.2 hz)
    (wpC_mono hcode (by
      rintro fin s' ⟨f, e, h1, h2, h3, h4⟩
      exact ⟨f, e, ⟨h1, h2, h4⟩, leftWithCleanup_false_of_bare h3⟩) (by
      rintro e s' ⟨h1, h2, h3, h4⟩
      exact ⟨⟨h1, h2, h4⟩, leftWithCleanup_false_of_bare h3⟩))
  obtain ⟨eh, _, _, eo, _⟩ := Shared.forget_eq hfo
  have hcase := hcase.congr eh
  have hkp : kept s'.heap := by first | exact eh ▸ hkp | (rw [eh] at hkp; exact hkp) | (rw [← eh] at hkp; exact hkp)
  rw [← eo] at hos
  have hlife : s'.heap.life = s.heap.life := (runN_life _ _ _ hrun).trans hal.2.2.2
  refine ⟨vs, s₁, hlaid, k, _, s', hsched, ?_, (fun _ i x hx => by rw [hgens] at hx; simp at hx), hkp, by rw [hlife], Shared.rest_eq hos⟩
  rcases hcase with ⟨v, rfl, d1, d2, d3, d4, d5⟩ | ⟨e, ob, cls, rfl, d1, d2, d3, d4, d5⟩
  · exact .inl ⟨v, rfl, d1, d2, d3, fun b o y _ => d4 b o y, d5⟩
  · exact .inr ⟨e, ob, cls, rfl, d1, d2, d3, d4, fun b o y _ => d5 b o y⟩
theorem open_anyC {r : RowW} {run : Value → List Value → Sem Value} {tree : List Value → Sem PySem.Fin} {q : Program} {loose defs kps : List PySem.Str} {writes : Bool} {Xt : Shared → Bool} {XP : (PySem.Str → Option Value) → Heap → Prop} {α : Type} {Yf : Shared → α} {Ya : World → α} {YP : World → Heap → Prop} {N : Nat}
    (left : LeftO r.prog q loose Xt Yf Ya N) (hY : ∀ w s, Yf s = Ya w → YP w s.heap) (hYk : ∀ w h h', YP w h → (∀ b o, h.get? b = some o → h'.get? b = some o) → YP w h') (hX : ∀ s, Xt s = true → XP (s.heap.nsMap mainGlobals) s.heap) (hXk : ∀ mg h h', XP mg h → (∀ b o, h.get? b = some o → h'.get? b = some o) → XP mg h')
    (hRf : ∀ s, Xt s = true → RecFacts r.records s.heap) (hwr : (!writes || r.records.isEmpty) = true) (ok : (chainsOk q && opensWell r.prog && (frees r && r.within.isEmpty)) = true) (hb : r.prog.bare) (hw : r.promised)
    (ht : ∀ vs (w : World) (s : Shared) mg f (Q : PySem.Fin → Shared → Prop) (E : Value → Shared → Prop), s.heap.Ns mainGlobals mg → mg r.name = some f → wpC (model r.prog w) callerA (run f vs) (fun v s' => Q (.done (.ret v)) s') E s → wpC (model r.prog w) callerA (tree vs) Q E s)
    (pin : ∀ w s, s.heap.isNs mainGlobals = true → Ground q loose [] XP w s (s.heap.nsMap mainGlobals) (s.heap.nsMap builtinsNs) s.heap → ∀ n ∈ defs, isTheDefsW r.prog s.heap n)
    (call : ∀ (w : World) (s₀ s₁ : Shared) (mg mb : PySem.Str → Option Value), Ground q loose r.records XP w s₀ mg mb s₁.heap → YP w s₁.heap → ∀ (args : List WData) (vs : List Value) (as : List Addr),
      r.claim.pre args = true → WData.layableAll args = true → Laid r.records w s₀ s₁ args vs as → sysModules < s₀.heap.objs.size → ∃ f, mg r.name = some f ∧
        wpC (model r.prog w) callerA (run f vs) (fun v s' => GoodWG r.claim (classAt s₀.heap) (ExcName.means s₀.heap) args s₁ (.ok (.ret v)) s')
          (fun e s' => GoodWG r.claim (classAt s₀.heap) (ExcName.means s₀.heap) args s₁ (.error e) s') s₁) : r.claim.HoldsOpenBy (fun vs => ⟨tree vs, .builtin "claim.caller" {}, default, []⟩) defs kps writes := by
  obtain ⟨ok, k5⟩ := Bool.and_eq_true_iff.mp ok
  obtain ⟨hch, o1⟩ := Bool.and_eq_true_iff.mp ok
  obtain ⟨k5, k6⟩ := Bool.and_eq_true_iff.mp k5
  obtain ⟨hsame, hu, ha, hap, hm⟩ := frees_parts k5
  refine ⟨⟨hb, o1, by show r.makers.map _ = []; rw [hm]; rfl⟩, hw.witness, fun w => ⟨(left.behind hX hch w).1, fun s' hs' => ?_⟩⟩
  obtain ⟨s₀, hf, hg0, s, hT, hz, hgens, hg, G00, y⟩ := (left.behind (XP := fun mg h => XP mg h ∧ RecFacts r.records h) (fun s hs => ⟨hX s hs, hRf s hs⟩) hch w).2 s' hs'
  have G0 : Ground q loose [] XP w s (s.heap.nsMap mainGlobals) (s.heap.nsMap builtinsNs) s.heap := ⟨G00.T, G00.B, G00.D, G00.TE, G00.TD, G00.W, G00.X.1, G00.cls, G00.has, G00.apart, G00.once, G00.K⟩
  have RF := G00.X.2
  have hT' := hT
  refine ⟨s₀, hf, hg0, s, hT, pin w s hg G0, RF.1, RF.2.1, ?_⟩
  have hgens : s.gens = #[] := Array.eq_empty_of_size_eq_zero (beq_iff_eq.mp hgens)
  have G : Ground q loose r.records XP w s _ _ s.heap := RF.ground G0
  refine callFrom_C (c := r.claim) hz hgens fun args hpre hlay ord hord => ?_
  obtain ⟨⟨vs, s₁⟩, hlaid⟩ := Option.isSome_iff_exists.mp (layAllW_isSome (P := w.params) (ord := ord) G.has args r.args s (pre_splitW hpre).1)
  have keeps := layAllW_keeps _ _ _ hlaid
  have hal := layAllW_rest _ _ _ hlaid
  obtain ⟨as, hrd, hin, hold⟩ := reads_layAllW hord _ _ _ hlaid hlay s₁.heap (fun _ _ e => e)
  have L : Laid r.records w s s₁ args vs as := ⟨⟨ord, hord, hlaid⟩, hrd, hin, hold, keeps, hal.1.trans hgens, hal.2.2.1⟩
  have G₁ := G.keeps hXk keeps
  obtain ⟨f, hf, h⟩ := call w s s₁ _ _ G₁ (hYk _ _ _ (hY w s y) keeps) args vs as hpre hlay L G.low
  have hi := ident_freeW hu ha hap
  have hwi : r.claim.within = [] := List.isEmpty_iff.mp k6
  exact ⟨vs, s₁, hlaid, ht vs w s₁ _ f _ _ G₁.T.g hf (wpC_mono h (fun v s' g => ⟨_, rfl, have z := g.laid (c := r.claim) hsame hwi hi L; ⟨z.1, z.2.1, z.2.2, fun q => ⟨namesKept_of hT' hg kps keeps g.2.1.old, noTable hwr q⟩⟩⟩) fun e s' g => have z := g.laid (c := r.claim) hsame hwi hi L; ⟨z.1, z.2.1, z.2.2, fun q => ⟨namesKept_of hT' hg kps keeps g.2.1.old, noTable hwr q⟩⟩)⟩
/-- the walk that is left, in the contexts that have the caller on the stack -/
noncomputable def WalkC (q : Program) (loose : List PySem.Str) (XP : (PySem.Str → Option Value) → Heap → Prop) (YP : World → Heap → Prop) (r : RowW) (d : DefRec) (kwd : List (PySem.Str × PySem.Expr)) (run : Value → List Value → Sem Value) : Prop :=
  ∀ (w : World) (s₀ s₁ : Shared) (mg mb : PySem.Str → Option Value), Ground q loose r.records XP w s₀ mg mb s₁.heap → YP w s₁.heap → ∀ (a : Addr) (o : Obj) (pm cd doc dV kV : Value), s₁.heap.get? a = some o →
    o.data = .func { docDef d.name d.params d.body d.scope pm cd doc with defaults := dV, kwdefaults := kV } → s₁.heap.CodeRec cd d.name → Dflts mg s₁.heap d.params kwd dV kV → mg d.name = some (.ref a) → s₁.gens = #[] →
    ∀ (args : List WData) (vals : List Value) (as : List Addr), r.claim.pre args = true → WData.layableAll args = true → ReadsAllW r.records (classAt s₀.heap) s₁.heap vals args as → WellAll w.params s₁.heap vals args → (∀ a ∈ as, (a == sysModules) = false) →
      wpC (model r.prog w) callerA (run (.ref a) vals) (fun v s' => GoodWG r.claim (classAt s₀.heap) (ExcName.means s₀.heap) args s₁ (.ok (.ret v)) s')
        (fun e s' => GoodWG r.claim (classAt s₀.heap) (ExcName.means s₀.heap) args s₁ (.error e) s') s₁
end Mine
theorem Mine.PySem.W.holds_open {r : OpenRow} {q : Program} {loose : List PySem.Str} {Xt : Shared → Bool} {XP : (PySem.Str → Option Value) → Heap → Prop} {α : Type} {Yf : Shared → α} {Ya : World → α} {YP : World → Heap → Prop} {d : DefRec} {kwd : List (PySem.Str × PySem.Expr)} {N : Nat}
    (left : LeftO r.prog q loose Xt Yf Ya N) (hY : ∀ w s, Yf s = Ya w → YP w s.heap) (hYk : ∀ w h h', YP w h → (∀ b o, h.get? b = some o → h'.get? b = some o) → YP w h')
    (hX : ∀ s, Xt s = true → XP (s.heap.nsMap mainGlobals) s.heap) (hXk : ∀ mg h h', XP mg h → (∀ b o, h.get? b = some o → h'.get? b = some o) → XP mg h')
    (hdef : defOf q r.name = some (d, kwd)) (hp : r.prog.theDef r.name = some (d.params, d.body, d.scope)) (hk : kwWritten? d.params.kwonlyargs d.params.kw_defaults = some kwd) (hRf : ∀ s, Xt s = true → RecFacts r.records s.heap) (hwr : (!r.writes || r.records.isEmpty) = true)
    (k1 : r.wellSaid = true) (ok : (chainsOk q && opensWell r.prog && (frees r.toRowW && r.within.isEmpty)) = true) (hb : r.prog.bare) (hw : r.toRowW.promised)
    (call : Mine.WalkC q loose XP YP r.toRowW d kwd fun f vs => PySem.call f vs) : r.Holds := by
  refine ⟨k1, hw, Mine.open_anyC (r := r.toRowW) (run := fun f vs => PySem.call f vs) (tree := fun vs => do match ← nsGet mainNs r.name with
      | some f => do ret (← PySem.call f vs)
      | none => unsupported "claim.caller:no-such-global") left hY hYk hX hXk hRf hwr ok hb hw
    (fun vs w s mg f Q E hg hf h => Mine.wpC_then (wpAny_nsGet hg (by rw [hf]; exact Mine.wpC_bind (Mine.wpC_mono h (fun _ _ x => Mine.wpC_pure x) fun _ _ x => x))))
    (fun w s hg G n hn => ?_) fun w s₀ s₁ mg mb G Y args vs as hpre hlay L low => ?_⟩
  · obtain rfl : n = r.name := by split at hn <;> simp_all
    exact pinned_of_view hg G hdef hp hk
  · obtain ⟨a, o, pm, cd, doc, dV, kV, h1, h2, h3, h4, h5⟩ := G.fn hdef
    exact ⟨.ref a, h1, call w s₀ s₁ mg mb G Y a o pm cd doc dV kV h2 h3 h4 h5 (defOf_name hdef ▸ h1) L.gens args vs as hpre hlay L.reads L.well (L.low low)⟩

open PySem PySem.W PyProof.Rows
set_option Elab.async false
set_option maxRecDepth 100000
namespace Mine
set_option maxHeartbeats 8000000
open_top hd for PySem.Challenge.rw_sw0033_01
end Mine

open PySem PySem.W PyProof.Rows PySem.Calls
set_option Elab.async false
set_option linter.all false
set_option maxRecDepth 100000
namespace Mine

/-! abstract data and how the heap bears it -/
inductive D where
  | none
  | bool (b : Bool)
  | int (n : Int)
  | str (x : PySem.Str)
  | cst (x : PySem.Str)
  | bytes (b : Array UInt8)
  | tup (ds : List D)
  | lst (ds : List D)
  | val (v : Value)

noncomputable def TupAt (h : Heap) (a : Addr) (vs : List Value) : Prop := h.IsTuple a vs.toArray

mutual
noncomputable def Rep (O : Addr → Prop) (h : Heap) (T : Nat) : D → Value → Prop
  | .none, v => v = Value.none
  | .bool b, v => v = Value.bool b
  | .int n, v => ∃ t, v = Value.int n t
  | .str x, v => ∃ t, v = Value.str x t
  | .cst x, v => ∃ t, v = Value.str x t ∧ 0 < t ∧ t < T
  | .bytes b, v => ∃ t, v = Value.bytes b t
  | .tup ds, v => ∃ a vs, v = Value.ref a ∧ ¬ O a ∧ TupAt h a vs ∧ Reps O h T ds vs
  | .lst ds, v => ∃ a vs, v = Value.ref a ∧ ¬ O a ∧ h.IsList a vs.toArray ∧ Reps O h T ds vs
  | .val w, v => v = w
noncomputable def Reps (O : Addr → Prop) (h : Heap) (T : Nat) : List D → List Value → Prop
  | [], vs => vs = []
  | d :: ds, vs => ∃ v r, vs = v :: r ∧ Rep O h T d v ∧ Reps O h T ds r
end

mutual
theorem Rep.keep {O O' : Addr → Prop} {h h' : Heap} {T T' : Nat} (k : ∀ b o, ¬ O b → h.get? b = some o → h'.get? b = some o ∧ ¬ O' b) (hT : T ≤ T') : ∀ (d : D) {v : Value}, Rep O h T d v → Rep O' h' T' d v
  | .none, _, r => by simpa only [Rep] using r
  | .bool _, _, r => by simpa only [Rep] using r
  | .int _, _, r => by simpa only [Rep] using r
  | .str _, _, r => by simpa only [Rep] using r
  | .cst _, _, r => by
    simp only [Rep] at r ⊢
    obtain ⟨t, e, p, q⟩ := r
    exact ⟨t, e, p, Nat.lt_of_lt_of_le q hT⟩
  | .bytes _, _, r => by simpa only [Rep] using r
  | .tup ds, _, r => by
    simp only [Rep] at r ⊢
    obtain ⟨a, vs, e, ho, ⟨o, g, r⟩, rs⟩ := r
    exact ⟨a, vs, e, (k a _ ho g).2, ⟨o, (k a _ ho g).1, r⟩, Reps.keep k hT ds rs⟩
  | .lst ds, _, r => by
    simp only [Rep] at r ⊢
    obtain ⟨a, vs, e, ho, ⟨o, g, r⟩, rs⟩ := r
    exact ⟨a, vs, e, (k a _ ho g).2, ⟨o, (k a _ ho g).1, r⟩, Reps.keep k hT ds rs⟩
  | .val _, _, r => by simpa only [Rep] using r
theorem Reps.keep {O O' : Addr → Prop} {h h' : Heap} {T T' : Nat} (k : ∀ b o, ¬ O b → h.get? b = some o → h'.get? b = some o ∧ ¬ O' b) (hT : T ≤ T') : ∀ (ds : List D) {vs : List Value}, Reps O h T ds vs → Reps O' h' T' ds vs
  | [], _, r => by simpa only [Reps] using r
  | d :: ds, _, r => by
    simp only [Reps] at r ⊢
    obtain ⟨v, rs, e, r1, r2⟩ := r
    exact ⟨v, rs, e, Rep.keep k hT d r1, Reps.keep k hT ds r2⟩
end

abbrev Rho := List (PySem.Str × D)
noncomputable def get : Rho → PySem.Str → Option D
  | [], _ => .none
  | (x, d) :: r, y => if x = y then some d else get r y

example (a b c : D) : get [("alpha", a), ("beta", b), ("gamma", c)] "gamma" = some c := rfl
end Mine

open PySem PySem.W PyProof.Rows PySem.Calls
set_option Elab.async false
set_option linter.all false
set_option maxRecDepth 100000
namespace Mine

/-- one code table that a def of the text fills when it makes its inner def -/
structure Tabi where
  P : Addr
  line : Nat
  col : Nat
  qual : PySem.Str

structure Zone where
  prog : Program
  w : World
  H : Heap
  mg : PySem.Str → Option Value
  mb : PySem.Str → Option Value
  tl : List Tabi

noncomputable def TabOne (O : Addr → Prop) (h : Heap) (q : Tabi) : Prop :=
  O q.P ∧ ∃ ps, h.get? q.P = some (tabObj ps) ∧ (ps = #[] ∨ ∃ c, ps = #[rawInt q.line, rawInt q.col, .ref c] ∧ ¬ O c ∧ h.CodeRec (.ref c) q.qual)
noncomputable def Tab (Z : Zone) (O : Addr → Prop) (h : Heap) : Prop := ∀ q ∈ Z.tl, TabOne O h q
noncomputable def isTab (Z : Zone) (b : Addr) : Prop := ∃ q ∈ Z.tl, b = q.P

noncomputable def Grow (Z : Zone) (O : Addr → Prop) (h h' : Heap) : Prop :=
  (∀ b o, ¬ isTab Z b → h.get? b = some o → h'.get? b = some o) ∧ (∀ b o, h.get? b = some o → ∃ o', h'.get? b = some o') ∧ Tab Z O h'

/-- the world is well: what every piece of the call may lean on -/
structure Wd (Z : Zone) (O : Addr → Prop) (s : Shared) : Prop where
  zone : ∀ b o, Z.H.get? b = some o → s.heap.get? b = some o
  OZ : ∀ b o, O b → Z.H.get? b ≠ some o
  Oex : ∀ b, O b → ∃ o, s.heap.get? b = some o
  tabs : Tab Z O s.heap
  pos : 0 < s.toks

theorem CodeRec.up {h h' : Heap} {c : Addr} {q : PySem.Str} (k : ∀ o, h.get? c = some o → h'.get? c = some o) (x : h.CodeRec (.ref c) q) : h'.CodeRec (.ref c) q := by
  obtain ⟨c', o, vs, t, e, g, r⟩ := x
  cases e
  exact ⟨c, o, vs, t, rfl, k o g, r⟩
theorem CodeRec.ex {h : Heap} {c : Addr} {q : PySem.Str} (x : h.CodeRec (.ref c) q) : ∃ o, h.get? c = some o := by
  obtain ⟨c', o, vs, t, e, g, r⟩ := x
  cases e
  exact ⟨o, g⟩

section
variable {Z : Zone} {O : Addr → Prop} {h h' h'' : Heap}
theorem Tab.stay (t : Tab Z O h) (k : ∀ b o, h.get? b = some o → h'.get? b = some o) : Tab Z O h' := fun q hq => by
  obtain ⟨o, ps, g, r⟩ := t q hq
  exact ⟨o, ps, k _ _ g, r.imp id fun ⟨c, e, n, x⟩ => ⟨c, e, n, CodeRec.up (k c) x⟩⟩
theorem Tab.isO (t : Tab Z O h) {b : Addr} (hb : isTab Z b) : O b := by
  obtain ⟨q, hq, rfl⟩ := hb
  exact (t q hq).1
theorem Grow.of (t : Tab Z O h) (k : ∀ b o, h.get? b = some o → h'.get? b = some o) : Grow Z O h h' := ⟨fun b o _ e => k b o e, fun b o e => ⟨o, k b o e⟩, t.stay k⟩
theorem Grow.refl (t : Tab Z O h) : Grow Z O h h := Grow.of t fun _ _ e => e
theorem Grow.trans (x : Grow Z O h h') (y : Grow Z O h' h'') : Grow Z O h h'' :=
  ⟨fun b o n e => y.1 b o n (x.1 b o n e), fun b o e => by obtain ⟨o', e'⟩ := x.2.1 b o e; exact y.2.1 b o' e', y.2.2⟩
theorem Rep.grow {T T' : Nat} {d : D} {v : Value} (r : Rep O h T d v) (g : Grow Z O h h') (hT : T ≤ T') : Rep O h' T' d v :=
  Rep.keep (fun b _ n e => ⟨g.1 b _ (fun q => n (g.2.2.isO q)) e, n⟩) hT d r
theorem Reps.grow {T T' : Nat} {d : List D} {v : List Value} (r : Reps O h T d v) (g : Grow Z O h h') (hT : T ≤ T') : Reps O h' T' d v :=
  Reps.keep (fun b _ n e => ⟨g.1 b _ (fun q => n (g.2.2.isO q)) e, n⟩) hT d r
theorem Wd.grow {s : Shared} {tk : Nat} (x : Wd Z O s) (g : Grow Z O s.heap h') (hT : s.toks ≤ tk) : Wd Z O { s with heap := h', toks := tk } where
  zone := fun b o e => g.1 b o (fun q => x.OZ b o (g.2.2.isO q) e) (x.zone b o e)
  OZ := x.OZ
  Oex := fun b hb => by obtain ⟨o, e⟩ := x.Oex b hb; exact g.2.1 b o e
  tabs := g.2.2
  pos := Nat.lt_of_lt_of_le x.pos hT
theorem Wd.new {s : Shared} (x : Wd Z O s) {a : Addr} (e : s.heap.get? a = none) : ¬ O a := fun h => by
  obtain ⟨o, q⟩ := x.Oex a h
  rw [e] at q; cases q
theorem get_size (h : Heap) : h.get? h.objs.size = none := Heap.get?_none_of_le (Nat.le_refl _)
theorem Wd.fresh {s : Shared} (x : Wd Z O s) : ¬ O s.heap.objs.size := x.new (get_size _)
end

/-- a computation that gives back one datum and only makes things -/
noncomputable def Cp (Z : Zone) (A : Around) (O : Addr → Prop) (t : Sem Value) (s : Shared) (d : D) : Prop :=
  ∀ (Q : Value → Shared → Prop) (E : Value → Shared → Prop),
    (∀ v h' tk, Grow Z O s.heap h' → s.toks ≤ tk → Rep O h' tk d v → Q v { s with heap := h', toks := tk }) → wpAny (model Z.prog Z.w) A t Q E s
noncomputable def CpC (Z : Zone) (A : Around) (O : Addr → Prop) (c : Code) (s : Shared) (d : D) : Prop :=
  ∀ (R : Result → Shared → Prop),
    (∀ v h' tk, Grow Z O s.heap h' → s.toks ≤ tk → Rep O h' tk d v → R (.ok (.ret v)) { s with heap := h', toks := tk }) → codeAny (model Z.prog Z.w) A c R s

section
variable {Z : Zone} {A : Around} {O : Addr → Prop} {s : Shared} {d : D}
theorem Cp.call {f : Value} {vs : List Value} (h : CpC Z A O (.call f ⟨vs, []⟩) s d) : Cp Z A O (call f vs) s d := fun Q E k => wpAny_call (h _ k)

/-- a rule of the library's that says what comes out, with no word of the tokens -/
theorem Cp.of {t : Sem Value} (W : Wd Z O s) (h : ∀ (Q : Value → Shared → Prop) (E : Value → Shared → Prop), (∀ v h' tk, (∀ b o, s.heap.get? b = some o → h'.get? b = some o) → (s.toks ≤ tk → Rep O h' tk d v) → Q v { s with heap := h', toks := tk }) → wpAny (model Z.prog Z.w) A t Q E s) : Cp Z A O t s d := fun Q E k =>
  wpAny_with_toks (Nat.le_refl _) (h _ _ fun v h' tk kk r => fun le => k v h' tk (Grow.of W.tabs kk) le (r le))
end

/-- the state of one activation -/
structure St (Z : Zone) (env : Env) (O : Addr → Prop) (B : Addr → Obj → Prop) (own : List (Addr × List D)) (ρ : Rho) (s : Shared) : Prop where
  base : ∀ b o, B b o → s.heap.get? b = some o
  zone : ∀ b o, Z.H.get? b = some o → B b o
  OH : ∀ b o, O b → Z.H.get? b ≠ some o
  tabB : ∀ b o, isTab Z b → ¬ B b o
  LB : ∀ o, ¬ B env.locals o
  ownB : ∀ p ∈ own, ∀ o, ¬ B p.1 o
  ownD : (own.map (·.1)).Nodup
  Oex : ∀ b, O b → ∃ o, s.heap.get? b = some o
  tabs : Tab Z O s.heap
  pos : 0 < s.toks
  OL : O env.locals
  loc : ∃ m, s.heap.Ns env.locals m ∧ ∀ x d, env.kindOf x = some .local → get ρ x = some d → ∃ v, m x = some v ∧ Rep O s.heap s.toks d v
  cel : ∀ x c, env.kindOf x ≠ some .local → env.cells.lookup x = some c → ∃ ov, s.heap.IsCell c ov ∧ ∀ d, get ρ x = some d → ∃ v, ov = some v ∧ Rep O s.heap s.toks d v
  ownd : ∀ p ∈ own, O p.1 ∧ ∃ vs, s.heap.PlainList p.1 vs.toArray ∧ Reps O s.heap s.toks p.2 vs

/-- what every rule asks of the def's environment -/
structure EnvOk (env : Env) : Prop where
  fn : env.scope.kind = .function
  gl : env.globals = mainGlobals
  bi : env.builtins = builtinsNs

section
variable {Z : Zone} {A : Around} {env : Env} {O : Addr → Prop} {B : Addr → Obj → Prop} {own : List (Addr × List D)} {ρ ρ' : Rho} {s : Shared} {h' : Heap} {tk : Nat}
theorem St.wd (x : St Z env O B own ρ s) : Wd Z O s where
  zone := fun b o e => x.base b o (x.zone b o e)
  OZ := x.OH
  Oex := x.Oex
  tabs := x.tabs
  pos := x.pos
theorem Ns.at_ {h h' : Heap} {a : Addr} {m : PySem.Str → Option Value} (x : h.Ns a m) (k : ∀ o, h.get? a = some o → h'.get? a = some o) : h'.Ns a m := by
  obtain ⟨o, es, ep, e, r⟩ := x
  exact ⟨o, es, ep, k o e, r⟩
theorem Ns.notTab (t : Tab Z O s.heap) {a : Addr} {m : PySem.Str → Option Value} (x : s.heap.Ns a m) : ¬ isTab Z a := by
  rintro ⟨q, hq, rfl⟩
  obtain ⟨_, ps, g, _⟩ := t q hq
  obtain ⟨o, es, ep, e, hd, _⟩ := x
  rw [g] at e; cases e; cases hd
theorem Cell.notTab (t : Tab Z O s.heap) {a : Addr} {v : Option Value} (x : s.heap.IsCell a v) : ¬ isTab Z a := by
  rintro ⟨q, hq, rfl⟩
  obtain ⟨_, ps, g, _⟩ := t q hq
  obtain ⟨o, e, hd⟩ := x
  rw [g] at e; cases e; cases hd
theorem Plain.notTab (t : Tab Z O s.heap) {a : Addr} {v : Array Value} (x : s.heap.PlainList a v) : ¬ isTab Z a := by
  rintro ⟨q, hq, rfl⟩
  obtain ⟨_, ps, g, _⟩ := t q hq
  obtain ⟨n, e⟩ := x
  rw [g] at e; cases e
theorem St.grow (x : St Z env O B own ρ s) (g : Grow Z O s.heap h') (hT : s.toks ≤ tk) : St Z env O B own ρ { s with heap := h', toks := tk } where
  base := fun b o e => g.1 b o (fun q => x.tabB b o q e) (x.base b o e)
  zone := x.zone
  OH := x.OH
  tabB := x.tabB
  LB := x.LB
  ownB := x.ownB
  ownD := x.ownD
  Oex := fun b hb => by obtain ⟨o, e⟩ := x.Oex b hb; exact g.2.1 b o e
  tabs := g.2.2
  pos := Nat.lt_of_lt_of_le x.pos hT
  OL := x.OL
  loc := by
    obtain ⟨m, hn, r⟩ := x.loc
    exact ⟨m, Ns.at_ hn fun o e => g.1 _ o (Ns.notTab x.tabs hn) e, fun y d hk hg => by obtain ⟨v, e, p⟩ := r y d hk hg; exact ⟨v, e, p.grow g hT⟩⟩
  cel := fun y c hy hc => by
    obtain ⟨ov, hv, r⟩ := x.cel y c hy hc
    have hn := Cell.notTab x.tabs hv
    obtain ⟨o, ho, hd⟩ := hv
    exact ⟨ov, ⟨o, g.1 _ o hn ho, hd⟩, fun d hg => by obtain ⟨v, e, p⟩ := r d hg; exact ⟨v, e, p.grow g hT⟩⟩
  ownd := fun p hp => by
    obtain ⟨ho, vs, hl, r⟩ := x.ownd p hp
    have hn := Plain.notTab x.tabs hl
    obtain ⟨n, e⟩ := hl
    exact ⟨ho, vs, ⟨n, g.1 _ _ hn e⟩, r.grow g hT⟩
end

/-- an expression gives one datum -/
structure Ev (Z : Zone) (A : Around) (env : Env) (O : Addr → Prop) (B : Addr → Obj → Prop) (own : List (Addr × List D)) (ρ : Rho) (e : PySem.Expr) (d : D) : Prop where
  run : 
    ∀ s, St Z env O B own ρ s → Cp Z A O (eval e env) s d
structure Evs (Z : Zone) (A : Around) (env : Env) (O : Addr → Prop) (B : Addr → Obj → Prop) (own : List (Addr × List D)) (ρ : Rho) (pos : Pos) (es : List PySem.Expr) (ds : List D) : Prop where
  run : 
    ∀ s, St Z env O B own ρ s → ∀ (Q : List Value → Shared → Prop) (E : Value → Shared → Prop),
      (∀ vs h' tk, Grow Z O s.heap h' → s.toks ≤ tk → Reps O h' tk ds vs → Q vs { s with heap := h', toks := tk }) → wpAny (model Z.prog Z.w) A (spliced (backTo pos (starEach es env))) Q E s
/-- a test gives one bool -/
structure Tst (Z : Zone) (A : Around) (env : Env) (O : Addr → Prop) (B : Addr → Obj → Prop) (own : List (Addr × List D)) (ρ : Rho) (e : PySem.Expr) (b : Bool) : Prop where
  run : 
    ∀ s, St Z env O B own ρ s → ∀ (Q : Bool → Shared → Prop) (E : Value → Shared → Prop),
      (∀ h' tk, Grow Z O s.heap h' → s.toks ≤ tk → Q b { s with heap := h', toks := tk }) → wpAny (model Z.prog Z.w) A (isTrue e env (eval e env)) Q E s

section
variable {Z : Zone} {A : Around} {env : Env} {O : Addr → Prop} {B : Addr → Obj → Prop} {own : List (Addr × List D)} {ρ ρ' : Rho} {s : Shared}
theorem ev_int {n : Int} {k pos} : Ev Z A env O B own ρ (.Constant (.int n) k pos) (.int n) := .mk fun s x Q E h =>
  wpAny_Constant_int (h _ s.heap (s.toks + 1) (Grow.refl x.tabs) (Nat.le_succ _) (by simp only [Rep]; exact ⟨_, rfl⟩))
theorem ev_cst {y : PySem.Str} {k pos} : Ev Z A env O B own ρ (.Constant (.str y) k pos) (.cst y) := .mk fun s x Q E h =>
  Constant_str (h _ s.heap (s.toks + 1) (Grow.refl x.tabs) (Nat.le_succ _) (by simp only [Rep]; exact ⟨_, rfl, x.pos, Nat.lt_succ_self _⟩))
theorem ev_bool {b : Bool} {k pos} : Ev Z A env O B own ρ (.Constant (.bool b) k pos) (.bool b) := .mk fun s x Q E h =>
  wpAny_Constant_bool (h _ s.heap s.toks (Grow.refl x.tabs) (Nat.le_refl _) (by simp only [Rep]))
theorem Rep.str_of {h : Heap} {T : Nat} {y : PySem.Str} {v : Value} (r : Rep O h T (.cst y) v) : Rep O h T (.str y) v := by
  simp only [Rep] at r ⊢
  obtain ⟨t, e, _⟩ := r
  exact ⟨t, e⟩
theorem ev_str_of {e : PySem.Expr} {y : PySem.Str} (h : Ev Z A env O B own ρ e (.cst y)) : Ev Z A env O B own ρ e (.str y) := .mk fun s x Q E k =>
  h.run s x Q E fun v h' tk g le r => k v h' tk g le r.str_of
theorem ev_str {y : PySem.Str} {k pos} : Ev Z A env O B own ρ (.Constant (.str y) k pos) (.str y) := ev_str_of ev_cst

theorem ev_local {x : PySem.Str} {pos : Pos} {d : D} (hg : get ρ x = some d) (hk : env.scope.kind = .function := by rfl) (hl : env.kindOf x = some .local := by rfl) (hd : (x == ("__debug__" : PySem.Str)) = false := by decide) :
    Ev Z A env O B own ρ (.Name x pos) d := .mk fun s X Q E h => by
  obtain ⟨m, hn, r⟩ := X.loc
  obtain ⟨v, hv, rv⟩ := r x d hl hg
  exact wpAny_Name (wpAny_loadName_local hk hl hn hv (h v s.heap s.toks (Grow.refl X.tabs) (Nat.le_refl _) rv)) hd
theorem ev_cell {x : PySem.Str} {pos : Pos} {c : Addr} {d : D} (hg : get ρ x = some d) (hc : env.cells.lookup x = some c) (hk : env.scope.kind = .function := by rfl) (hl : env.kindOf x = some .cell := by rfl) (hd : (x == ("__debug__" : PySem.Str)) = false := by decide) :
    Ev Z A env O B own ρ (.Name x pos) d := .mk fun s X Q E h => by
  obtain ⟨ov, hv, r⟩ := X.cel x c (by rw [hl]; exact fun e => by cases e) hc
  obtain ⟨v, e, rv⟩ := r d hg
  subst e
  exact wpAny_Name (wpAny_loadName_cell hk hl hc hv (h v s.heap s.toks (Grow.refl X.tabs) (Nat.le_refl _) rv)) hd
theorem ev_free {x : PySem.Str} {pos : Pos} {c : Addr} {d : D} (hg : get ρ x = some d) (hc : env.cells.lookup x = some c) (hk : env.scope.kind = .function := by rfl) (hl : env.kindOf x = some .free := by rfl) (hd : (x == ("__debug__" : PySem.Str)) = false := by decide)
    (hn : (x == ("__classdict__" : PySem.Str)) = false := by decide) : Ev Z A env O B own ρ (.Name x pos) d := .mk fun s X Q E h => by
  obtain ⟨ov, hv, r⟩ := X.cel x c (by rw [hl]; exact fun e => by cases e) hc
  obtain ⟨v, e, rv⟩ := r d hg
  subst e
  exact wpAny_Name (wpAny_loadName_free hk hl hc hv (h v s.heap s.toks (Grow.refl X.tabs) (Nat.le_refl _) rv) hn) hd

/-- the globals of the text, as the zone has them -/
structure ZoneOk (Z : Zone) : Prop where
  g : Z.H.Ns mainGlobals Z.mg
  b : Z.H.Ns builtinsNs Z.mb
  nolimit : Z.H.NoLimit
theorem Wd.ns (W : Wd Z O s) {a : Addr} {m : PySem.Str → Option Value} (x : Z.H.Ns a m) : s.heap.Ns a m := Ns.at_ x fun o e => W.zone _ o e
theorem ev_global {x : PySem.Str} {pos : Pos} {v : Value} (G : ZoneOk Z) (ok : EnvOk env) (hv : Z.mg x = some v) (hl : env.kindOf x = some .globalImplicit := by rfl) (hd : (x == ("__debug__" : PySem.Str)) = false := by decide) :
    Ev Z A env O B own ρ (.Name x pos) (.val v) := .mk fun s X Q E h =>
  Name_function_global ok.fn hl (loadGlobal_global (ok.gl ▸ X.wd.ns G.g) hv (h v s.heap s.toks (Grow.refl X.tabs) (Nat.le_refl _) (by simp only [Rep]))) hd
theorem ev_builtin {x : PySem.Str} {pos : Pos} {v : Value} (G : ZoneOk Z) (ok : EnvOk env) (hm : Z.mg x = .none) (hv : Z.mb x = some v) (hl : env.kindOf x = some .globalImplicit := by rfl) (hd : (x == ("__debug__" : PySem.Str)) = false := by decide) :
    Ev Z A env O B own ρ (.Name x pos) (.val v) := .mk fun s X Q E h =>
  Name_function_global ok.fn hl (loadGlobal_builtin (ok.gl ▸ X.wd.ns G.g) hm (ok.bi ▸ X.wd.ns G.b) hv (h v s.heap s.toks (Grow.refl X.tabs) (Nat.le_refl _) (by simp only [Rep]))) hd

/-- two operands -/
structure Op2 (Z : Zone) (A : Around) (O : Addr → Prop) (t : Value → Value → Sem Value) (d1 d2 d : D) : Prop where
  run : 
    ∀ s v1 v2, Wd Z O s → Rep O s.heap s.toks d1 v1 → Rep O s.heap s.toks d2 v2 → Cp Z A O (t v1 v2) s d
structure Op1 (Z : Zone) (A : Around) (O : Addr → Prop) (t : Value → Sem Value) (d1 d : D) : Prop where
  run : 
    ∀ s v1, Wd Z O s → Rep O s.heap s.toks d1 v1 → Cp Z A O (t v1) s d
theorem Cp.then2 {α : Type} {t : Sem Value} {d1 : D} (h1 : Cp Z A O t s d1) {f : Value → Sem α} {Q : α → Shared → Prop} {E : Value → Shared → Prop}
    (h2 : ∀ v h' tk, Grow Z O s.heap h' → s.toks ≤ tk → Rep O h' tk d1 v → wpAny (model Z.prog Z.w) A (f v) Q E { s with heap := h', toks := tk }) : wpAny (model Z.prog Z.w) A t (fun v s' => wpAny (model Z.prog Z.w) A (f v) Q E s') E s := h1 _ _ h2
theorem ev_bin {op : Operator} {l r : PySem.Expr} {pos : Pos} {d1 d2 d : D} (h1 : Ev Z A env O B own ρ l d1) (h2 : Ev Z A env O B own ρ r d2) (ho : Op2 Z A O (binaryOp op) d1 d2 d) : Ev Z A env O B own ρ (.BinOp l op r pos) d := .mk fun s X Q E h =>
  wpAny_BinOp (h1.run s X _ _ fun v1 h₁ t₁ g₁ le₁ r₁ => h2.run _ (X.grow g₁ le₁) _ _ fun v2 h₂ t₂ g₂ le₂ r₂ =>
    ho.run _ v1 v2 (((X.grow g₁ le₁).grow g₂ le₂).wd) (r₁.grow g₂ le₂) r₂ _ _ fun v h₃ t₃ g₃ le₃ r₃ => h v h₃ t₃ ((g₁.trans g₂).trans g₃) (Nat.le_trans (Nat.le_trans le₁ le₂) le₃) r₃)
theorem ev_cmp {op : CmpOp} {l r : PySem.Expr} {pos : Pos} {d1 d2 d : D} (h1 : Ev Z A env O B own ρ l d1) (h2 : Ev Z A env O B own ρ r d2) (ho : Op2 Z A O (compareOp op) d1 d2 d) (hm : behindInMarks op r = false := by with_unfolding_all rfl) : Ev Z A env O B own ρ (.Compare l [op] [r] pos) d := .mk fun s X Q E h =>
  wpAny_Compare1 (h1.run s X _ _ fun v1 h₁ t₁ g₁ le₁ r₁ => h2.run _ (X.grow g₁ le₁) _ _ fun v2 h₂ t₂ g₂ le₂ r₂ =>
    ho.run _ v1 v2 (((X.grow g₁ le₁).grow g₂ le₂).wd) (r₁.grow g₂ le₂) r₂ _ _ fun v h₃ t₃ g₃ le₃ r₃ => h v h₃ t₃ ((g₁.trans g₂).trans g₃) (Nat.le_trans (Nat.le_trans le₁ le₂) le₃) r₃) hm
theorem tst_cmp {op : CmpOp} {l r : PySem.Expr} {pos : Pos} {d1 d2 : D} {b : Bool} (h1 : Ev Z A env O B own ρ l d1) (h2 : Ev Z A env O B own ρ r d2) (ho : Op2 Z A O (compareOp op) d1 d2 (.bool b)) (hm : behindInMarks op r = false := by with_unfolding_all rfl) : Tst Z A env O B own ρ (.Compare l [op] [r] pos) b := .mk fun s X Q E h =>
  wpAny_isTrue_Compare1 (h1.run s X _ _ fun v1 h₁ t₁ g₁ le₁ r₁ => h2.run _ (X.grow g₁ le₁) _ _ fun v2 h₂ t₂ g₂ le₂ r₂ =>
    ho.run _ v1 v2 (((X.grow g₁ le₁).grow g₂ le₂).wd) (r₁.grow g₂ le₂) r₂ _ _ fun v h₃ t₃ g₃ le₃ r₃ => by
      simp only [Rep] at r₃
      subst r₃
      exact wpAny_truthy_bool (h h₃ t₃ ((g₁.trans g₂).trans g₃) (Nat.le_trans (Nat.le_trans le₁ le₂) le₃))) hm
theorem ev_un {op : UnaryOp} {e : PySem.Expr} {pos : Pos} {d1 d : D} (h1 : Ev Z A env O B own ρ e d1) (ho : Op1 Z A O (unaryOp op) d1 d) : Ev Z A env O B own ρ (.UnaryOp op e pos) d := .mk fun s X Q E h =>
  wpAny_UnaryOp (h1.run s X _ _ fun v1 h₁ t₁ g₁ le₁ r₁ => ho.run _ v1 (X.grow g₁ le₁).wd r₁ _ _ fun v h₃ t₃ g₃ le₃ r₃ => h v h₃ t₃ (g₁.trans g₃) (Nat.le_trans le₁ le₃) r₃)
theorem ev_ife {t a c : PySem.Expr} {pos : Pos} {b : Bool} {d : D} (h0 : Tst Z A env O B own ρ t b) (h1 : b = true → Ev Z A env O B own ρ a d) (h2 : b = false → Ev Z A env O B own ρ c d) : Ev Z A env O B own ρ (.IfExp t a c pos) d := .mk fun s X Q E h =>
  wpAny_IfExp (h0.run s X _ _ fun h₁ t₁ g₁ le₁ => by
    cases b with
    | true => exact (h1 rfl).run _ (X.grow g₁ le₁) _ _ fun v h₃ t₃ g₃ le₃ r₃ => h v h₃ t₃ (g₁.trans g₃) (Nat.le_trans le₁ le₃) r₃
    | false => exact (h2 rfl).run _ (X.grow g₁ le₁) _ _ fun v h₃ t₃ g₃ le₃ r₃ => h v h₃ t₃ (g₁.trans g₃) (Nat.le_trans le₁ le₃) r₃)

/-- lists of expressions -/
theorem evs_nil {pos : Pos} : Evs Z A env O B own ρ pos [] [] := .mk fun s X Q E h => wpAny_items_nil (h [] s.heap s.toks (Grow.refl X.tabs) (Nat.le_refl _) (by simp only [Reps]))
theorem evs_cons {pos : Pos} {e : PySem.Expr} {es : List PySem.Expr} {d : D} {ds : List D} (h1 : Ev Z A env O B own ρ e d) (h2 : Evs Z A env O B own ρ pos es ds) (he : starEach (e :: es) env = (false, eval e env) :: starEach es env := by rfl) :
    Evs Z A env O B own ρ pos (e :: es) (d :: ds) := .mk fun s X Q E h =>
  wpAny_items_cons (h1.run s X _ _ fun v1 h₁ t₁ g₁ le₁ r₁ => h2.run _ (X.grow g₁ le₁) _ _ fun vs h₂ t₂ g₂ le₂ r₂ =>
    h (v1 :: vs) h₂ t₂ (g₁.trans g₂) (Nat.le_trans le₁ le₂) (by simp only [Reps]; exact ⟨v1, vs, rfl, r₁.grow g₂ le₂, r₂⟩)) he
theorem Reps.length : ∀ {ds : List D} {vs : List Value} {h : Heap} {T : Nat}, Reps O h T ds vs → vs.length = ds.length
  | [], _, _, _, r => by simp only [Reps] at r; subst r; rfl
  | d :: ds, _, _, _, r => by
    simp only [Reps] at r
    obtain ⟨v, rs, e, _, r2⟩ := r
    subst e
    simp only [List.length_cons, Reps.length r2]
theorem Grow.push {h : Heap} (t : Tab Z O h) (o : Obj) : Grow Z O h (h.push o) := Grow.of t fun b o' e => Heap.get?_push_of_some o e
theorem ev_tup {es : List PySem.Expr} {k : Nat} {pos : Pos} {ds : List D} (h1 : Evs Z A env O B own ρ pos es ds) (hs : ds.length ≤ sizeLine := by simp [sizeLine]) : Ev Z A env O B own ρ (.Tuple es k pos) (.tup ds) := .mk fun s X Q E h =>
  wpAny_Tuple (h1.run s X _ _ fun vs h₁ t₁ g₁ le₁ r₁ => ⟨by rw [r₁.length]; exact hs, by
    have W := (X.grow g₁ le₁).wd
    have g₂ := Grow.push (Z := Z) (O := O) (h := h₁) W.tabs { cls := .type "tuple", data := .seq vs.toArray }
    refine h _ _ t₁ (g₁.trans g₂) le₁ ?_
    simp only [Rep]
    exact ⟨_, vs, rfl, W.fresh, ⟨_, Heap.get?_push_size _ rfl, rfl, 0, rfl⟩, r₁.grow g₂ (Nat.le_refl _)⟩⟩)
theorem ev_lst {es : List PySem.Expr} {pos : Pos} {ds : List D} (h1 : Evs Z A env O B own ρ pos es ds) (hs : ds.length ≤ sizeLine := by simp [sizeLine]) : Ev Z A env O B own ρ (.List es pos) (.lst ds) := .mk fun s X Q E h =>
  wpAny_List (h1.run s X _ _ fun vs h₁ t₁ g₁ le₁ r₁ => ⟨by rw [r₁.length]; exact hs, by
    have W := (X.grow g₁ le₁).wd
    have g₂ := Grow.push (Z := Z) (O := O) (h := h₁) W.tabs { cls := .type "list", data := .seq vs.toArray }
    refine h _ _ t₁ (g₁.trans g₂) le₁ ?_
    simp only [Rep]
    exact ⟨_, vs, rfl, W.fresh, ⟨_, Heap.get?_push_size _ rfl, rfl, 0, rfl⟩, r₁.grow g₂ (Nat.le_refl _)⟩⟩)
end
end Mine

open PySem PySem.W PyProof.Rows PySem.Calls
set_option Elab.async false
set_option linter.all false
set_option maxRecDepth 100000
namespace Mine
section
variable {Z : Zone} {A : Around} {O : Addr → Prop}

theorem log_small {b : Int} (h : b.natAbs < 2 ^ 64) : b.natAbs.log2 < 9000 := by
  by_cases h0 : b.natAbs = 0
  · rw [h0]; decide
  · exact Nat.lt_trans ((Nat.log2_lt h0).mpr h) (by decide)

/-- an int out of two ints, one token spent -/
theorem op_ii {t : Value → Value → Sem Value} {a b r : Int}
    (h : ∀ (s : Shared) (u v : Tok) (Q E : Value → Shared → Prop), Q (.int r s.toks) { s with toks := s.toks + 1 } → wpAny (model Z.prog Z.w) A (t (.int a u) (.int b v)) Q E s) :
    Op2 Z A O t (.int a) (.int b) (.int r) := .mk fun s v1 v2 W r1 r2 Q E k => by
  simp only [Rep] at r1 r2
  obtain ⟨t1, rfl⟩ := r1
  obtain ⟨t2, rfl⟩ := r2
  exact h s t1 t2 Q E (k _ s.heap _ (Grow.refl W.tabs) (Nat.le_succ _) (by simp only [Rep]; exact ⟨_, rfl⟩))
theorem op_ib {t : Value → Value → Sem Value} {a b : Int} {r : Bool}
    (h : ∀ (s : Shared) (u v : Tok) (Q E : Value → Shared → Prop), Q (.bool r) s → wpAny (model Z.prog Z.w) A (t (.int a u) (.int b v)) Q E s) :
    Op2 Z A O t (.int a) (.int b) (.bool r) := .mk fun s v1 v2 W r1 r2 Q E k => by
  simp only [Rep] at r1 r2
  obtain ⟨t1, rfl⟩ := r1
  obtain ⟨t2, rfl⟩ := r2
  exact h s t1 t2 Q E (k _ s.heap s.toks (Grow.refl W.tabs) (Nat.le_refl _) (by simp only [Rep]))
theorem op_add {a b : Int} : Op2 Z A O (binaryOp .Add) (.int a) (.int b) (.int (a + b)) := op_ii fun _ _ _ _ _ k => wpAny_add_int k
theorem op_sub {a b : Int} : Op2 Z A O (binaryOp .Sub) (.int a) (.int b) (.int (a - b)) := op_ii fun _ _ _ _ _ k => PyProof.Rows.sub_int k
theorem op_mul {a b : Int} (h : Builtin.Int.intBits a ≤ 64) : Op2 Z A O (binaryOp .Mult) (.int a) (.int b) (.int (a * b)) := op_ii fun _ _ _ _ _ k => PyProof.Rows.mul_int k (IntMulOk.of_left h)
theorem op_mod {a b : Int} (h : b ≠ 0) : Op2 Z A O (binaryOp .Mod) (.int a) (.int b) (.int (a.fmod b)) := op_ii fun _ _ _ _ _ k => PyProof.Rows.mod_int h k
theorem op_div {a b : Int} (h : b ≠ 0) (hs : b.natAbs < 2 ^ 64) : Op2 Z A O (binaryOp .FloorDiv) (.int a) (.int b) (.int (a.fdiv b)) := op_ii fun _ _ _ _ _ k => PyProof.Rows.floordiv_int h k (.inl (PyProof.noPylong_of_log2 (log_small hs)))
theorem op_shl {a n : Int} (h0 : 0 ≤ n) (hs : (Builtin.Int.intBits a : Int) + n ≤ 2 ^ 27) : Op2 Z A O (binaryOp .LShift) (.int a) (.int n) (.int (a * 2 ^ n.toNat)) := op_ii fun _ _ _ _ _ k => PyProof.Rows.lshift_int h0 hs k
theorem op_shr {a n : Int} (h0 : 0 ≤ n) : Op2 Z A O (binaryOp .RShift) (.int a) (.int n) (.int (a.fdiv (2 ^ n.toNat))) := op_ii fun _ _ _ _ _ k => PyProof.Rows.rshift_int h0 k
theorem op_xor {a b : Int} : Op2 Z A O (binaryOp .BitXor) (.int a) (.int b) (.int (Builtin.bitXor a b)) := op_ii fun _ _ _ _ _ k => PyProof.Rows.xor_int k
theorem op_pow {a n : Int} (h0 : 0 ≤ n) (hs : (Builtin.Int.intBits a : Int) * n ≤ 2 ^ 27) : Op2 Z A O (binaryOp .Pow) (.int a) (.int n) (.int (a ^ n.toNat)) := op_ii fun _ _ _ _ _ k => PyProof.Rows.pow_int h0 hs k
theorem op_lt {a b : Int} : Op2 Z A O (compareOp .Lt) (.int a) (.int b) (.bool (decide (a < b))) := op_ib fun _ _ _ _ _ k => PyProof.Rows.lt_int k
theorem op_le {a b : Int} : Op2 Z A O (compareOp .LtE) (.int a) (.int b) (.bool (decide (a ≤ b))) := op_ib fun _ _ _ _ _ k => PyProof.Rows.le_int k
theorem op_gt {a b : Int} : Op2 Z A O (compareOp .Gt) (.int a) (.int b) (.bool (decide (b < a))) := op_ib fun _ _ _ _ _ k => PyProof.Rows.gt_int k
theorem op_eqi {a b : Int} : Op2 Z A O (compareOp .Eq) (.int a) (.int b) (.bool (a == b)) := op_ib fun _ _ _ _ _ k => PyProof.Rows.eq_int k
theorem op_nei {a b : Int} : Op2 Z A O (compareOp .NotEq) (.int a) (.int b) (.bool (a != b)) := op_ib fun _ _ _ _ _ k => PyProof.Rows.ne_int k
theorem op_neg {a : Int} : Op1 Z A O (unaryOp .USub) (.int a) (.int (-a)) := .mk fun s v1 W r1 Q E k => by
  simp only [Rep] at r1
  obtain ⟨t1, rfl⟩ := r1
  exact PyProof.Rows.neg_int (k _ s.heap _ (Grow.refl W.tabs) (Nat.le_succ _) (by simp only [Rep]; exact ⟨_, rfl⟩))
theorem op_inv {a : Int} : Op1 Z A O (unaryOp .Invert) (.int a) (.int (Builtin.bitNot a)) := .mk fun s v1 W r1 Q E k => by
  simp only [Rep] at r1
  obtain ⟨t1, rfl⟩ := r1
  exact PyProof.Rows.invert_int (k _ s.heap _ (Grow.refl W.tabs) (Nat.le_succ _) (by simp only [Rep]; exact ⟨_, rfl⟩))
theorem op_not {b : Bool} : Op1 Z A O (unaryOp .Not) (.bool b) (.bool (!b)) := .mk fun s v1 W r1 Q E k => by
  simp only [Rep] at r1
  subst r1
  exact PySem.not_value (wpAny_truthy_bool (k _ s.heap _ (Grow.refl W.tabs) (Nat.le_refl _) (by simp only [Rep])))
theorem op_eqs {x y : PySem.Str} : Op2 Z A O (compareOp .Eq) (.str x) (.str y) (.bool (x == y)) := .mk fun s v1 v2 W r1 r2 Q E k => by
  simp only [Rep] at r1 r2
  obtain ⟨t1, rfl⟩ := r1
  obtain ⟨t2, rfl⟩ := r2
  exact PyProof.Rows.eq_str (k _ s.heap s.toks (Grow.refl W.tabs) (Nat.le_refl _) (by simp only [Rep]))
theorem op_nes {x y : PySem.Str} : Op2 Z A O (compareOp .NotEq) (.str x) (.str y) (.bool (x != y)) := .mk fun s v1 v2 W r1 r2 Q E k => by
  simp only [Rep] at r1 r2
  obtain ⟨t1, rfl⟩ := r1
  obtain ⟨t2, rfl⟩ := r2
  exact PyProof.Rows.ne_str (k _ s.heap s.toks (Grow.refl W.tabs) (Nat.le_refl _) (by simp only [Rep]))
theorem op_adds {x y : PySem.Str} (hs : x.length + y.length ≤ sizeLine) : Op2 Z A O (binaryOp .Add) (.str x) (.str y) (.str (x ++ y)) := .mk fun s v1 v2 W r1 r2 => by
  simp only [Rep] at r1 r2
  obtain ⟨t1, rfl⟩ := r1
  obtain ⟨t2, rfl⟩ := r2
  exact Cp.of W fun Q E k => PyProof.Rows.add_str (fun t' tk => k _ s.heap tk (fun _ _ e => e) fun _ => by simp only [Rep]; exact ⟨_, rfl⟩) hs

/-- calls of built-ins, their arguments at hand -/
theorem cp_bitlen {a : Int} {s : Shared} {t : Tok} (W : Wd Z O s) : Cp Z A O (call (.builtin "int.bit_length") [.int a t]) s (.int (Builtin.Int.intBits a)) := fun Q E k =>
  call_int_bit_length (k _ s.heap _ (Grow.refl W.tabs) (Nat.le_succ _) (by simp only [Rep]; exact ⟨_, rfl⟩))
theorem cp_abs {a : Int} {s : Shared} {t : Tok} (W : Wd Z O s) : Cp Z A O (call (.builtin "abs") [.int a t]) s (.int (if a < 0 then -a else a)) := Cp.of W fun Q E k =>
  call_abs_int fun u tk => k _ s.heap tk (fun _ _ e => e) fun _ => by simp only [Rep]; exact ⟨_, rfl⟩
theorem cp_divmod {a b : Int} {s : Shared} {t u : Tok} (W : Wd Z O s) (hb : b ≠ 0) (hs : b.natAbs < 2 ^ 64) : Cp Z A O (call (.builtin "divmod") [.int a t, .int b u]) s (.tup [.int (a.fdiv b), .int (a.fmod b)]) := fun Q E k =>
  divmod_int hb (k _ _ _ (Grow.push W.tabs _) (Nat.le_add_right _ 2) (by
    simp only [Rep, Reps]
    exact ⟨_, [_, _], rfl, W.fresh, ⟨_, Heap.get?_push_size _ rfl, rfl, 0, rfl⟩, _, _, rfl, ⟨_, rfl⟩, _, _, rfl, ⟨_, rfl⟩, rfl⟩)) (.inl (PyProof.noPylong_of_log2 (log_small hs)))
end

section
variable {Z : Zone} {A : Around} {env : Env} {O : Addr → Prop} {B : Addr → Obj → Prop} {own : List (Addr × List D)} {ρ ρ' : Rho} {s : Shared}
/-- a call: the callee's value, the arguments, the call -/
theorem ev_call {f e : PySem.Expr} {es : List PySem.Expr} {pos : Pos} {id : String} {ds : List D} {d : D} (hf : Ev Z A env O B own ρ f (.val (.builtin id))) (ha : Evs Z A env O B own ρ pos (e :: es) ds)
    (hc : ∀ s vs, Wd Z O s → Reps O s.heap s.toks ds vs → Cp Z A O (call (.builtin id) vs) s d)
    (he : eval (.Call f (e :: es) [] pos) env = (do callWith pos (← eval f env) [] (backTo pos (starEach (e :: es) env)) (backToKw pos (keywordEach [] env))) := by rfl)
    (hs : starEach (e :: es) env = (false, eval e env) :: starEach es env := by rfl) (hp : (backTo pos (starEach es env)).any (·.1) = false := by rfl) : Ev Z A env O B own ρ (.Call f (e :: es) [] pos) d := .mk fun s X Q E k => by
  rw [he]
  refine wpAny_bind (hf.run s X _ _ fun v h₁ t₁ g₁ le₁ r₁ => ?_)
  simp only [Rep] at r₁
  subst r₁
  refine PyProof.Rows.callWith_builtin1 (ha.run _ (X.grow g₁ le₁) _ _ fun vs h₂ t₂ g₂ le₂ r₂ => ?_) hs hp
  exact hc _ vs ((X.grow g₁ le₁).grow g₂ le₂).wd r₂ _ _ fun v h₃ t₃ g₃ le₃ r₃ => k v h₃ t₃ ((g₁.trans g₂).trans g₃) (Nat.le_trans (Nat.le_trans le₁ le₂) le₃) r₃
theorem ev_callT {f e : PySem.Expr} {es : List PySem.Expr} {pos : Pos} {T : String} {ds : List D} {d : D} (hf : Ev Z A env O B own ρ f (.val (.type T))) (ha : Evs Z A env O B own ρ pos (e :: es) ds)
    (hc : ∀ s vs, Wd Z O s → Reps O s.heap s.toks ds vs → Cp Z A O (call (.type T) vs) s d)
    (he : eval (.Call f (e :: es) [] pos) env = (do callWith pos (← eval f env) [] (backTo pos (starEach (e :: es) env)) (backToKw pos (keywordEach [] env))) := by rfl)
    (hs : starEach (e :: es) env = (false, eval e env) :: starEach es env := by rfl) (hp : (backTo pos (starEach es env)).any (·.1) = false := by rfl) : Ev Z A env O B own ρ (.Call f (e :: es) [] pos) d := .mk fun s X Q E k => by
  rw [he]
  refine wpAny_bind (hf.run s X _ _ fun v h₁ t₁ g₁ le₁ r₁ => ?_)
  simp only [Rep] at r₁
  subst r₁
  refine PyProof.Rows.callWith_type1 (ha.run _ (X.grow g₁ le₁) _ _ fun vs h₂ t₂ g₂ le₂ r₂ => ?_) hs hp
  exact hc _ vs ((X.grow g₁ le₁).grow g₂ le₂).wd r₂ _ _ fun v h₃ t₃ g₃ le₃ r₃ => k v h₃ t₃ ((g₁.trans g₂).trans g₃) (Nat.le_trans (Nat.le_trans le₁ le₂) le₃) r₃
theorem callFn {pos : Pos} {f : Addr} {o : Obj} {fd : FuncData} {e : PySem.Expr} {es : List PySem.Expr} {Q : Value → Shared → Prop} {E : Value → Shared → Prop}
    (h : wpAny (model Z.prog Z.w) A (spliced (backTo pos (starEach (e :: es) env))) (fun vs s₁ => (s₁.heap.get? f = some o ∧ o.data = .func fd) ∧ wpAny (model Z.prog Z.w) A (call (.ref f) vs) Q E s₁) E s)
    (hs : starEach (e :: es) env = (false, eval e env) :: starEach es env := by rfl) : wpAny (model Z.prog Z.w) A (callWith pos (.ref f) [] (backTo pos (starEach (e :: es) env)) []) Q E s := by
  rw [hs] at h ⊢
  exact callWith_function (evalArgs_plain h)
/-- a call of a def -/
theorem ev_callF {fe e : PySem.Expr} {es : List PySem.Expr} {pos : Pos} {f : Addr} {o : Obj} {fd : FuncData} {ds : List D} {d : D} (hF : B f o) (hd : o.data = .func fd) (hf : Ev Z A env O B own ρ fe (.val (.ref f))) (ha : Evs Z A env O B own ρ pos (e :: es) ds)
    (hc : ∀ s vs, St Z env O B own ρ s → Reps O s.heap s.toks ds vs → Cp Z A O (call (.ref f) vs) s d)
    (he : eval (.Call fe (e :: es) [] pos) env = (do callWith pos (← eval fe env) [] (backTo pos (starEach (e :: es) env)) (backToKw pos (keywordEach [] env))) := by rfl)
    (hs : starEach (e :: es) env = (false, eval e env) :: starEach es env := by rfl) : Ev Z A env O B own ρ (.Call fe (e :: es) [] pos) d := .mk fun s X Q E k => by
  rw [he]
  refine wpAny_bind (hf.run s X _ _ fun v h₁ t₁ g₁ le₁ r₁ => ?_)
  simp only [Rep] at r₁
  subst r₁
  refine callFn (o := o) (fd := fd) (ha.run _ (X.grow g₁ le₁) _ _ fun vs h₂ t₂ g₂ le₂ r₂ => ⟨⟨((X.grow g₁ le₁).grow g₂ le₂).base f o hF, hd⟩, ?_⟩) hs
  exact hc _ vs ((X.grow g₁ le₁).grow g₂ le₂) r₂ _ _ fun v h₃ t₃ g₃ le₃ r₃ => k v h₃ t₃ ((g₁.trans g₂).trans g₃) (Nat.le_trans (Nat.le_trans le₁ le₂) le₃) r₃

/-- a call of a method -/
theorem ev_meth {o e : PySem.Expr} {name : PySem.Str} {apos pos : Pos} {es : List PySem.Expr} {id : String} {pl : Sem Bool} {d0 : D} {ds : List D} {d : D} (ho : Ev Z A env O B own ρ o d0) (ha : Evs Z A env O B own ρ pos (e :: es) ds)
    (hm : ∀ s v, Wd Z O s → Rep O s.heap s.toks d0 v → ∀ (Q : Value × List Value → Shared → Prop) (E : Value → Shared → Prop), Q (.builtin id, [v]) s → wpAny (model Z.prog Z.w) A (getMethod v name pl) Q E s)
    (hc : ∀ s v vs, Wd Z O s → Rep O s.heap s.toks d0 v → Reps O s.heap s.toks ds vs → Cp Z A O (call (.builtin id) (v :: vs)) s d)
    (he : eval (.Call (.Attribute o name apos) (e :: es) [] pos) env = (do
      let ov ← eval o env
      standAt apos.atName
      let (f, first) ← holding [ov] (getMethod ov name pl)
      callWith pos f first (backTo pos (starEach (e :: es) env)) []) := by rfl)
    (hs : starEach (e :: es) env = (false, eval e env) :: starEach es env := by rfl) (hp : (backTo pos (starEach es env)).any (·.1) = false := by rfl) : Ev Z A env O B own ρ (.Call (.Attribute o name apos) (e :: es) [] pos) d := .mk fun s X Q E k => by
  refine MethodCall_ (pl := pl) (ho.run s X _ _ fun v h₁ t₁ g₁ le₁ r₁ => hm _ v (X.grow g₁ le₁).wd r₁ _ _ ?_) he
  have ha2 := ha.run _ (X.grow g₁ le₁)
  rw [hs] at ha2 ⊢
  refine callWith_builtin (by show ((false || (backTo pos (starEach es env)).any (·.1)) = false); rw [hp]; rfl) ?_
  refine evalArgs_plain (x := eval e env) (rest := backTo pos (starEach es env)) ?_
  refine ha2 _ _ fun vs h₂ t₂ g₂ le₂ r₂ => ?_
  exact hc _ v vs ((X.grow g₁ le₁).grow g₂ le₂).wd (r₁.grow g₂ le₂) r₂ _ _ fun v h₃ t₃ g₃ le₃ r₃ => k v h₃ t₃ ((g₁.trans g₂).trans g₃) (Nat.le_trans (Nat.le_trans le₁ le₂) le₃) r₃
theorem ev_meth0 {o : PySem.Expr} {name : PySem.Str} {apos pos : Pos} {id : String} {pl : Sem Bool} {d0 : D} {d : D} (ho : Ev Z A env O B own ρ o d0)
    (hm : ∀ s v, Wd Z O s → Rep O s.heap s.toks d0 v → ∀ (Q : Value × List Value → Shared → Prop) (E : Value → Shared → Prop), Q (.builtin id, [v]) s → wpAny (model Z.prog Z.w) A (getMethod v name pl) Q E s)
    (hc : ∀ s v, Wd Z O s → Rep O s.heap s.toks d0 v → Cp Z A O (call (.builtin id) [v]) s d)
    (he : eval (.Call (.Attribute o name apos) [] [] pos) env = (do
      let ov ← eval o env
      standAt apos.atName
      let (f, first) ← holding [ov] (getMethod ov name pl)
      callWith pos f first (backTo pos (starEach [] env)) []) := by rfl) : Ev Z A env O B own ρ (.Call (.Attribute o name apos) [] [] pos) d := .mk fun s X Q E k => by
  refine MethodCall_ (pl := pl) (ho.run s X _ _ fun v h₁ t₁ g₁ le₁ r₁ => hm _ v (X.grow g₁ le₁).wd r₁ _ _ ?_) he
  exact PyProof.Rows.callWith_method0 (hc _ v (X.grow g₁ le₁).wd r₁ _ _ fun v h₃ t₃ g₃ le₃ r₃ => k v h₃ t₃ (g₁.trans g₃) (Nat.le_trans le₁ le₃) r₃)
theorem ev_bitlen {o : PySem.Expr} {apos pos : Pos} {pl : Sem Bool} {n : Int} (ho : Ev Z A env O B own ρ o (.int n))
    (he : eval (.Call (.Attribute o (Str.ofString "bit_length") apos) [] [] pos) env = (do
      let ov ← eval o env
      standAt apos.atName
      let (f, first) ← holding [ov] (getMethod ov (Str.ofString "bit_length") pl)
      callWith pos f first (backTo pos (starEach [] env)) []) := by rfl) : Ev Z A env O B own ρ (.Call (.Attribute o (Str.ofString "bit_length") apos) [] [] pos) (.int (Builtin.Int.intBits n)) :=
  ev_meth0 (id := "int.bit_length") ho (fun s v W r Q E k => by
    simp only [Rep] at r
    obtain ⟨t, rfl⟩ := r
    exact getMethod_int_bit_length k) (fun s v W r => by
    simp only [Rep] at r
    obtain ⟨t, rfl⟩ := r
    exact cp_bitlen W) he

theorem ev_divmod {f e1 e2 : PySem.Expr} {pos : Pos} {a b : Int} (hf : Ev Z A env O B own ρ f (.val (.builtin "divmod"))) (h1 : Ev Z A env O B own ρ e1 (.int a)) (h2 : Ev Z A env O B own ρ e2 (.int b)) (hb : b ≠ 0) (hs : b.natAbs < 2 ^ 64)
    (he : eval (.Call f [e1, e2] [] pos) env = (do callWith pos (← eval f env) [] (backTo pos (starEach [e1, e2] env)) (backToKw pos (keywordEach [] env))) := by rfl) (s1 : starEach [e1, e2] env = (false, eval e1 env) :: starEach [e2] env := by rfl) (s2 : starEach [e2] env = (false, eval e2 env) :: starEach [] env := by rfl) (hp : (backTo pos (starEach [e2] env)).any (·.1) = false := by rfl) :
    Ev Z A env O B own ρ (.Call f [e1, e2] [] pos) (.tup [.int (a.fdiv b), .int (a.fmod b)]) :=
  ev_call hf (evs_cons h1 (evs_cons h2 evs_nil s2) s1) (fun s vs W r => by
    simp only [Reps, Rep] at r
    obtain ⟨_, _, rfl, ⟨t1, rfl⟩, _, _, rfl, ⟨t2, rfl⟩, rfl⟩ := r
    exact cp_divmod W hb hs) he s1 hp
theorem ev_abs {f e1 : PySem.Expr} {pos : Pos} {a : Int} (hf : Ev Z A env O B own ρ f (.val (.builtin "abs"))) (h1 : Ev Z A env O B own ρ e1 (.int a))
    (he : eval (.Call f [e1] [] pos) env = (do callWith pos (← eval f env) [] (backTo pos (starEach [e1] env)) (backToKw pos (keywordEach [] env))) := by rfl) (s1 : starEach [e1] env = (false, eval e1 env) :: starEach [] env := by rfl) :
    Ev Z A env O B own ρ (.Call f [e1] [] pos) (.int (if a < 0 then -a else a)) :=
  ev_call hf (evs_cons h1 evs_nil s1) (fun s vs W r => by
    simp only [Reps, Rep] at r
    obtain ⟨_, _, rfl, ⟨t1, rfl⟩, rfl⟩ := r
    exact cp_abs W) he s1 rfl

/-- truth -/
theorem tst_int {e : PySem.Expr} {n : Int} (h : Ev Z A env O B own ρ e (.int n)) (he : isTrue e env (eval e env) = (do let v ← eval e env; standAt e.pos; holding [v] (truthy v)) := by rfl) : Tst Z A env O B own ρ e (n != 0) := .mk fun s X Q E k =>
  wpAny_isTrue_value (h.run s X _ _ fun v h₁ t₁ g₁ le₁ r₁ => by
    simp only [Rep] at r₁
    obtain ⟨t, rfl⟩ := r₁
    exact PyProof.Rows.truthy_int (k h₁ t₁ g₁ le₁)) he
theorem tst_bool {e : PySem.Expr} {b : Bool} (h : Ev Z A env O B own ρ e (.bool b)) (he : isTrue e env (eval e env) = (do let v ← eval e env; standAt e.pos; holding [v] (truthy v)) := by rfl) : Tst Z A env O B own ρ e b := .mk fun s X Q E k =>
  wpAny_isTrue_value (h.run s X _ _ fun v h₁ t₁ g₁ le₁ r₁ => by
    simp only [Rep] at r₁
    subst r₁
    exact wpAny_truthy_bool (k h₁ t₁ g₁ le₁)) he
theorem tst_lst {e : PySem.Expr} {ds : List D} (h : Ev Z A env O B own ρ e (.lst ds)) (hs : (ds.length : Int) < 2 ^ 63) (he : isTrue e env (eval e env) = (do let v ← eval e env; standAt e.pos; holding [v] (truthy v)) := by rfl) : Tst Z A env O B own ρ e (!ds.isEmpty) := .mk fun s X Q E k =>
  wpAny_isTrue_value (h.run s X _ _ fun v h₁ t₁ g₁ le₁ r₁ => by
    simp only [Rep] at r₁
    obtain ⟨a, vs, rfl, no, hl, rs⟩ := r₁
    have hn : vs.length = ds.length := rs.length
    have he : (!vs.toArray.isEmpty) = !ds.isEmpty := by
      cases vs <;> cases ds <;> simp_all
    exact wpAny_truthy_list hl (by simpa [hn] using hs) (by rw [he]; exact k h₁ _ g₁ (Nat.le_trans le₁ (Nat.le_add_right _ 2)))) he
theorem tst_not {e : PySem.Expr} {pos : Pos} {b : Bool} (h : Tst Z A env O B own ρ e b) : Tst Z A env O B own ρ (.UnaryOp .Not e pos) (!b) := .mk fun s X Q E k => wpAny_isTrue_Not (h.run s X _ _ fun h₁ t₁ g₁ le₁ => k h₁ t₁ g₁ le₁)
theorem tst_and {a b : PySem.Expr} {pos : Pos} {x y : Bool} (h1 : Tst Z A env O B own ρ a x) (h2 : x = true → Tst Z A env O B own ρ b y) : Tst Z A env O B own ρ (.BoolOp .And [a, b] pos) (x && y) := .mk fun s X Q E k =>
  wpAny_isTrue_BoolOp (wpAny_allTrue_And_cons (h1.run s X _ _ fun h₁ t₁ g₁ le₁ => by
    cases x with
    | false => exact k h₁ t₁ g₁ le₁
    | true => exact wpAny_allTrue_And_cons ((h2 rfl).run _ (X.grow g₁ le₁) _ _ fun h₂ t₂ g₂ le₂ => by
        cases y with
        | false => exact k h₂ t₂ (g₁.trans g₂) (Nat.le_trans le₁ le₂)
        | true => exact wpAny_allTrue_And_nil (k h₂ t₂ (g₁.trans g₂) (Nat.le_trans le₁ le₂)))))
theorem tst_or {a b : PySem.Expr} {pos : Pos} {x y : Bool} (h1 : Tst Z A env O B own ρ a x) (h2 : x = false → Tst Z A env O B own ρ b y) : Tst Z A env O B own ρ (.BoolOp .Or [a, b] pos) (x || y) := .mk fun s X Q E k =>
  wpAny_isTrue_BoolOp (wpAny_allTrue_Or_cons (h1.run s X _ _ fun h₁ t₁ g₁ le₁ => by
    cases x with
    | true => exact k h₁ t₁ g₁ le₁
    | false => exact wpAny_allTrue_Or_cons ((h2 rfl).run _ (X.grow g₁ le₁) _ _ fun h₂ t₂ g₂ le₂ => by
        cases y with
        | true => exact k h₂ t₂ (g₁.trans g₂) (Nat.le_trans le₁ le₂)
        | false => exact wpAny_allTrue_Or_nil (k h₂ t₂ (g₁.trans g₂) (Nat.le_trans le₁ le₂)))))
/-- and | or of bools, as a value -/
theorem ev_and2 {a b : PySem.Expr} {pos : Pos} {x : Bool} {y : Bool} (h1 : Ev Z A env O B own ρ a (.bool x)) (h2 : x = true → Ev Z A env O B own ρ b (.bool y)) : Ev Z A env O B own ρ (.BoolOp .And [a, b] pos) (.bool (x && y)) := .mk fun s X Q E k =>
  wpAny_And2 (h1.run s X _ _ fun v h₁ t₁ g₁ le₁ r₁ => by
    simp only [Rep] at r₁
    subst r₁
    refine wpAny_truthy_bool ?_
    cases x with
    | false => exact k _ h₁ t₁ g₁ le₁ (by simp only [Rep]; rfl)
    | true => exact (h2 rfl).run _ (X.grow g₁ le₁) _ _ fun v h₂ t₂ g₂ le₂ r₂ => k v h₂ t₂ (g₁.trans g₂) (Nat.le_trans le₁ le₂) r₂)
end
end Mine

open PySem PySem.W PyProof.Rows PySem.Calls
set_option Elab.async false
set_option linter.all false
set_option maxRecDepth 100000
namespace Mine
section
variable {Z : Zone} {A : Around} {env : Env} {O : Addr → Prop} {B : Addr → Obj → Prop} {own : List (Addr × List D)} {ρ ρ' : Rho} {s : Shared} {h' : Heap} {tk : Nat} {a : Addr} {E : Value → Shared → Prop}

theorem Rep.same {h : Heap} {T T' : Nat} {d : D} {v : Value} (r : Rep O h T d v) (hO : O a) (k : Heap.ExtBut a h h') (hT : T ≤ T') : Rep O h' T' d v :=
  Rep.keep (fun b _ n e => ⟨k b _ (fun q => n (q ▸ hO)) e, n⟩) hT d r
theorem Reps.same {h : Heap} {T T' : Nat} {d : List D} {v : List Value} (r : Reps O h T d v) (hO : O a) (k : Heap.ExtBut a h h') (hT : T ≤ T') : Reps O h' T' d v :=
  Reps.keep (fun b _ n e => ⟨k b _ (fun q => n (q ▸ hO)) e, n⟩) hT d r
theorem Tab.same {h : Heap} (t : Tab Z O h) (hO : O a) (hn : ¬ isTab Z a) (k : Heap.ExtBut a h h') : Tab Z O h' := fun q hq => by
  obtain ⟨o, ps, g, r⟩ := t q hq
  exact ⟨o, ps, k _ _ (fun e => hn ⟨q, hq, e.symm⟩) g, r.imp id fun ⟨c, e, n, x⟩ => ⟨c, e, n, CodeRec.up (fun o e => k c o (fun z => n (z ▸ hO)) e) x⟩⟩
theorem get_put {x y : PySem.Str} {d d' : D} (h : get ((x, d) :: ρ) y = some d') : (y = x ∧ d' = d) ∨ (y ≠ x ∧ get ρ y = some d') := by
  unfold get at h
  split at h
  · rename_i e; cases h; exact .inl ⟨e.symm, rfl⟩
  · rename_i e; exact .inr ⟨fun z => e z.symm, h⟩

/-- a local is stored -/
theorem St.local_ (X : St Z env O B own ρ s) {x : PySem.Str} {d : D} {v : Value} (hx : env.kindOf x = some .local) (r : Rep O s.heap s.toks d v) {m : PySem.Str → Option Value}
    (hm : ∀ y d, env.kindOf y = some .local → get ρ y = some d → ∃ v, m y = some v ∧ Rep O s.heap s.toks d v) (hL : s.heap.Ns env.locals m)
    (hn : h'.Ns env.locals (fun y => if y = x then some v else m y)) (k : Heap.SameBut env.locals s.heap h') (hT : s.toks ≤ tk) :
    St Z env O B own ((x, d) :: ρ) { s with heap := h', toks := tk } := by
  have ke := k.extBut
  have nt := Ns.notTab X.tabs hL
  exact {
    base := fun b o e => ke b o (fun q => X.LB o (q ▸ e)) (X.base b o e)
    zone := X.zone
    OH := X.OH
    tabB := X.tabB
    LB := X.LB
    ownB := X.ownB
    ownD := X.ownD
    Oex := fun b hb => by
      obtain ⟨o, e⟩ := X.Oex b hb
      by_cases q : b = env.locals
      · obtain ⟨o', _, _, e', _⟩ := hn; exact ⟨o', q ▸ e'⟩
      · exact ⟨o, ke b o q e⟩
    tabs := X.tabs.same X.OL nt ke
    pos := Nat.lt_of_lt_of_le X.pos hT
    OL := X.OL
    loc := ⟨_, hn, fun y d' hk hg => by
      rcases get_put hg with ⟨rfl, rfl⟩ | ⟨ne, hg⟩
      · exact ⟨v, by simp, r.same X.OL ke hT⟩
      · obtain ⟨v', e, r'⟩ := hm y d' hk hg
        exact ⟨v', by simp [ne, e], r'.same X.OL ke hT⟩⟩
    cel := fun y c hy hc => by
      obtain ⟨ov, hv, rr⟩ := X.cel y c hy hc
      have hcL : c ≠ env.locals := by
        rintro rfl
        obtain ⟨o, ho, hd⟩ := hv
        obtain ⟨o', _, _, e', hd', _⟩ := hL
        rw [ho] at e'; cases e'; rw [hd] at hd'; cases hd'
      refine ⟨ov, hv.sameBut k hcL, fun d' hg => ?_⟩
      rcases get_put hg with ⟨rfl, rfl⟩ | ⟨ne, hg⟩
      · exact absurd hx hy
      · obtain ⟨v', e, r'⟩ := rr d' hg
        exact ⟨v', e, r'.same X.OL ke hT⟩
    ownd := fun p hp => by
      obtain ⟨ho, vs, hl, rr⟩ := X.ownd p hp
      have hpL : p.1 ≠ env.locals := by
        intro q
        obtain ⟨n, ho⟩ := hl
        obtain ⟨o', _, _, e', hd', _⟩ := hL
        rw [q, e'] at ho; cases ho; cases hd'
      exact ⟨ho, vs, hl.extBut ke hpL, rr.same X.OL ke hT⟩ }

theorem sname_local (X : St Z env O B own ρ s) {x : PySem.Str} {d : D} {v : Value} {Q : Unit → Shared → Prop} (hf : env.scope.kind = .function) (hx : env.kindOf x = some .local) (r : Rep O s.heap s.toks d v)
    (k : ∀ h' tk, (∀ d v, Rep O s.heap s.toks d v → Rep O h' tk d v) → St Z env O B own ((x, d) :: ρ) { s with heap := h', toks := tk } → Q () { s with heap := h', toks := tk }) : wpAny (model Z.prog Z.w) A (storeName env x v) Q E s := by
  obtain ⟨m, hL, hm⟩ := X.loc
  refine wpAny_storeName_local hx hL (fun h' hn hs => k h' _ (fun d v r => r.same X.OL hs.extBut (Nat.le_succ _)) (X.local_ hx r hm hL hn hs (Nat.le_succ _))) ?_
  rw [hf]; rfl

/-- a cell is stored -/
theorem sname_cell (X : St Z env O B own ρ s) {x : PySem.Str} {c : Addr} {d : D} {v : Value} {Q : Unit → Shared → Prop} (hf : env.scope.kind = .function) (hx : env.kindOf x = some .cell) (hc : env.cells.lookup x = some c) (r : Rep O s.heap s.toks d v)
    (hO : O c) (hB : ∀ o, ¬ B c o) (hap : ∀ y, env.cells.lookup y = some c → y = x)
    (k : ∀ h' tk, (∀ d v, Rep O s.heap s.toks d v → Rep O h' tk d v) → St Z env O B own ((x, d) :: ρ) { s with heap := h', toks := tk } → Q () { s with heap := h', toks := tk }) : wpAny (model Z.prog Z.w) A (storeName env x v) Q E s := by
  have hxl : env.kindOf x ≠ some .local := by rw [hx]; exact fun e => by cases e
  obtain ⟨ov, hv, _⟩ := X.cel x c hxl hc
  refine wpAny_storeName_cell hf hx hc hv fun h' hn hs => k h' s.toks (fun d v r => r.same hO hs.extBut (Nat.le_refl _)) ?_
  have ke := hs.extBut
  have nt := Cell.notTab X.tabs hv
  obtain ⟨oc, hoc, hdc⟩ := hv
  have hT := Nat.le_refl s.toks
  exact {
    base := fun b o e => ke b o (fun q => hB o (q ▸ e)) (X.base b o e)
    zone := X.zone
    OH := X.OH
    tabB := X.tabB
    LB := X.LB
    ownB := X.ownB
    ownD := X.ownD
    Oex := fun b hb => by
      obtain ⟨o, e⟩ := X.Oex b hb
      by_cases q : b = c
      · obtain ⟨o', e', _⟩ := hn; exact ⟨o', q ▸ e'⟩
      · exact ⟨o, ke b o q e⟩
    tabs := X.tabs.same hO nt ke
    pos := X.pos
    OL := X.OL
    loc := by
      obtain ⟨m, hL, hm⟩ := X.loc
      have hcL : env.locals ≠ c := by
        intro q
        obtain ⟨o', _, _, e', hd', _⟩ := hL
        rw [q, hoc] at e'; cases e'; rw [hdc] at hd'; cases hd'
      refine ⟨m, hL.sameBut hs hcL, fun y d' hk hg => ?_⟩
      rcases get_put hg with ⟨rfl, rfl⟩ | ⟨ne, hg⟩
      · exact absurd hk hxl
      · obtain ⟨v', e, r'⟩ := hm y d' hk hg
        exact ⟨v', e, r'.same hO ke hT⟩
    cel := fun y c' hy hc' => by
      by_cases q : c' = c
      · subst q
        obtain rfl := hap y hc'
        refine ⟨some v, hn, fun d' hg => ?_⟩
        rcases get_put hg with ⟨_, rfl⟩ | ⟨ne, hg⟩
        · exact ⟨v, rfl, r.same hO ke hT⟩
        · exact absurd rfl ne
      · obtain ⟨ov', hv', rr⟩ := X.cel y c' hy hc'
        refine ⟨ov', hv'.sameBut hs q, fun d' hg => ?_⟩
        rcases get_put hg with ⟨rfl, rfl⟩ | ⟨ne, hg⟩
        · rw [hc] at hc'; exact absurd (Option.some.inj hc').symm q
        · obtain ⟨v', e, r'⟩ := rr d' hg
          exact ⟨v', e, r'.same hO ke hT⟩
    ownd := fun p hp => by
      obtain ⟨ho, vs, hl, rr⟩ := X.ownd p hp
      have hpL : p.1 ≠ c := by
        intro q
        obtain ⟨n, ho⟩ := hl
        rw [q, hoc] at ho; cases ho; cases hdc
      exact ⟨ho, vs, hl.extBut ke hpL, rr.same hO ke hT⟩ }

/-- the state may be told in fewer words -/
noncomputable def SubR (ρ : Rho) : Rho → Prop
  | [] => True
  | (x, d) :: r => get ρ x = some d ∧ SubR ρ r
theorem SubR.get {ρ : Rho} : ∀ {ρ' : Rho}, SubR ρ ρ' → ∀ {x d}, get ρ' x = some d → get ρ x = some d
  | [], _, _, _, h => by cases h
  | (y, d') :: r, hs, x, d, h => by
    rcases get_put h with ⟨rfl, rfl⟩ | ⟨_, h⟩
    · exact hs.1
    · exact SubR.get hs.2 h
theorem St.sub (X : St Z env O B own ρ s) (h : SubR ρ ρ') : St Z env O B own ρ' s := { X with
  loc := by
    obtain ⟨m, hL, hm⟩ := X.loc
    exact ⟨m, hL, fun x d hk hg => hm x d hk (h.get hg)⟩
  cel := fun x c hx hc => by
    obtain ⟨ov, hv, r⟩ := X.cel x c hx hc
    exact ⟨ov, hv, fun d hg => r d (h.get hg)⟩ }

/-- assignment of a value to a target -/
structure Asg (Z : Zone) (A : Around) (env : Env) (O : Addr → Prop) (B : Addr → Obj → Prop) (own : List (Addr × List D)) (ρ : Rho) (t : Value → Sem Unit) (d : D) (ρ' : Rho) : Prop where
  run : 
    ∀ s v, St Z env O B own ρ s → Rep O s.heap s.toks d v → ∀ (Q : Unit → Shared → Prop) (E : Value → Shared → Prop), (∀ h' tk, (∀ d v, Rep O s.heap s.toks d v → Rep O h' tk d v) → St Z env O B own ρ' { s with heap := h', toks := tk } → Q () { s with heap := h', toks := tk }) → wpAny (model Z.prog Z.w) A (t v) Q E s
theorem asg_bind {x : PySem.Str} {d : D} (hf : env.scope.kind = .function := by rfl) (hx : env.kindOf x = some .local := by rfl) : Asg Z A env O B own ρ (fun v => bindName env x v) d ((x, d) :: ρ) := .mk fun s v X r Q E k => wpAny_bindName (sname_local X hf hx r k)
theorem asg_name {x : PySem.Str} {p : Pos} {d : D} (hf : env.scope.kind = .function := by rfl) (hx : env.kindOf x = some .local := by rfl) : Asg Z A env O B own ρ (assign (.Name x p) env) d ((x, d) :: ρ) := .mk fun s v X r Q E k => by
  rw [PySem.assign_Name]
  exact wpAny_bind (wpAny_standAt (wpAny_bindName (sname_local X hf hx r k)))
theorem asg_nameC {x : PySem.Str} {p : Pos} {c : Addr} {d : D} (hc : env.cells.lookup x = some c) (hO : O c) (hB : ∀ o, ¬ B c o) (hap : ∀ y, env.cells.lookup y = some c → y = x) (hf : env.scope.kind = .function := by rfl) (hx : env.kindOf x = some .cell := by rfl) :
    Asg Z A env O B own ρ (assign (.Name x p) env) d ((x, d) :: ρ) := .mk fun s v X r Q E k => by
  rw [PySem.assign_Name]
  exact wpAny_bind (wpAny_standAt (wpAny_bindName (sname_cell X hf hx hc r hO hB hap k)))
structure Asgs (Z : Zone) (A : Around) (env : Env) (O : Addr → Prop) (B : Addr → Obj → Prop) (own : List (Addr × List D)) (ρ : Rho) (ts : List (Value → Sem Unit)) (ds : List D) (ρ' : Rho) : Prop where
  run : 
    ∀ s vs, St Z env O B own ρ s → Reps O s.heap s.toks ds vs → ∀ (Q : Unit → Shared → Prop) (E : Value → Shared → Prop), (∀ h' tk, (∀ d v, Rep O s.heap s.toks d v → Rep O h' tk d v) → St Z env O B own ρ' { s with heap := h', toks := tk } → Q () { s with heap := h', toks := tk }) → wpAny (model Z.prog Z.w) A (assignInOrder ts vs) Q E s
theorem Reps.all {h h' : Heap} {T T' : Nat} (k : ∀ d v, Rep O h T d v → Rep O h' T' d v) : ∀ {ds : List D} {vs : List Value}, Reps O h T ds vs → Reps O h' T' ds vs
  | [], _, r => by simpa only [Reps] using r
  | d :: ds, _, r => by
    simp only [Reps] at r ⊢
    obtain ⟨v, rs, e, r1, r2⟩ := r
    exact ⟨v, rs, e, k d v r1, Reps.all k r2⟩
theorem Reps.append {h : Heap} {T : Nat} : ∀ {ds ds' : List D} {vs vs' : List Value}, Reps O h T ds vs → Reps O h T ds' vs' → Reps O h T (ds ++ ds') (vs ++ vs')
  | [], _, _, _, r, r' => by simp only [Reps] at r; subst r; exact r'
  | d :: ds, _, _, _, r, r' => by
    simp only [Reps, List.cons_append] at r ⊢
    obtain ⟨v, rs, rfl, r1, r2⟩ := r
    exact ⟨v, _, rfl, r1, Reps.append r2 r'⟩
theorem Reps.reverse {h : Heap} {T : Nat} : ∀ {ds : List D} {vs : List Value}, Reps O h T ds vs → Reps O h T ds.reverse vs.reverse
  | [], _, r => by simp only [Reps] at r; subst r; simp [Reps]
  | d :: ds, _, r => by
    simp only [Reps] at r
    obtain ⟨v, rs, rfl, r1, r2⟩ := r
    rw [List.reverse_cons, List.reverse_cons]
    exact Reps.append (Reps.reverse r2) (by simp only [Reps]; exact ⟨v, [], rfl, r1, rfl⟩)
theorem asgs_nil : Asgs Z A env O B own ρ [] [] ρ := .mk fun s vs X r Q E k => by
  simp only [Reps] at r; subst r
  exact wpAny_pure (k s.heap s.toks (fun _ _ r => r) X)
theorem asgs_cons {t : Value → Sem Unit} {ts : List (Value → Sem Unit)} {d : D} {ds : List D} {ρ₁ ρ₂ : Rho} (h1 : Asg Z A env O B own ρ t d ρ₁) (h2 : Asgs Z A env O B own ρ₁ ts ds ρ₂) : Asgs Z A env O B own ρ (t :: ts) (d :: ds) ρ₂ := .mk fun s vs X r Q E k => by
  simp only [Reps] at r
  obtain ⟨v, rs, rfl, r1, r2⟩ := r
  show wpAny _ _ (do holding rs (t v); assignInOrder ts rs) _ _ _
  refine wpAny_bind (wpAny_holding (h1.run s v X r1 _ _ fun h₁ t₁ k₁ X₁ => ?_))
  exact h2.run _ rs X₁ (r2.all k₁) _ _ fun h₂ t₂ k₂ X₂ => k h₂ t₂ (fun d v r => k₂ d v (k₁ d v r)) X₂
theorem TupAt.isTup {h : Heap} {vs : List Value} (x : TupAt h a vs) : IsTup h a vs.toArray := x
theorem asg_tup {elts : List PySem.Expr} {k : Nat} {p : Pos} {ds : List D} {ρ₁ : Rho} (hA : A.handled = none) (h : Asgs Z A env O B own ρ ((assignEach elts env).map (·.2)) ds ρ₁) (hn : (assignEach elts env).length = ds.length := by rfl) (hst : (assignEach elts env).findIdx? (·.1) = none := by rfl) :
    Asg Z A env O B own ρ (assign (.Tuple elts k p) env) (.tup ds) ρ₁ := .mk fun s v X r Q E kk => by
  simp only [Rep] at r
  obtain ⟨a, vs, rfl, no, ht, rs⟩ := r
  show wpAny _ _ (do standAt p; unpack (.ref a) (assignEach elts env)) _ _ _
  refine wpAny_bind (wpAny_standAt ?_)
  have hl : vs.length = ds.length := rs.length
  refine wpAny_unpack_tuple hA (items := vs.toArray) ht.isTup (by rw [hn]; simpa using hl.symm) hst fun h₁ hk => ?_
  have g : Grow Z O s.heap h₁ := Grow.of X.tabs fun b o e => hk b o (Nat.ne_of_lt (Heap.lt_size e)) e
  have := h.run { s with heap := h₁ } vs (X.grow g (Nat.le_refl _)) (rs.grow g (Nat.le_refl _)) Q E fun h₂ t₂ k₂ X₂ => kk h₂ t₂ (fun d v r => k₂ d v (r.grow g (Nat.le_refl _))) X₂
  simpa using this

section
variable {rest : List Stmt} {Q : Flow → Shared → Prop}
/-- statements, run -/
structure Xs (Z : Zone) (A : Around) (body : List Stmt) (env : Env) (Q : Flow → Shared → Prop) (E : Value → Shared → Prop) (s : Shared) : Prop where
  run : wpAny (model Z.prog Z.w) A (execs body env) Q E s
theorem Xs.cons {st : Stmt} (h : wpAny (model Z.prog Z.w) A (exec st env) (fun f s' => match f with | .next => Xs Z A rest env Q E s' | f => Q f s') E s) : Xs Z A (st :: rest) env Q E s :=
  ⟨wpAny_execs_cons (wpAny_mono h (fun f s' q => by cases f <;> first | exact q.run | exact q) fun _ _ e => e)⟩
/-- statements, one by one -/
theorem x_nil (h : Q .next s) : Xs Z A [] env Q E s := ⟨wpAny_execs_nil h⟩
theorem asg_store {x : PySem.Str} {d : D} (hf : env.scope.kind = .function := by rfl) (hx : env.kindOf x = some .local := by rfl) : Asg Z A env O B own ρ (fun v => storeName env x v) d ((x, d) :: ρ) := .mk fun s v X r Q E k => sname_local X hf hx r k
theorem asg_storeC {x : PySem.Str} {c : Addr} {d : D} (hc : env.cells.lookup x = some c) (hO : O c) (hB : ∀ o, ¬ B c o) (hap : ∀ y, env.cells.lookup y = some c → y = x) (hf : env.scope.kind = .function := by rfl) (hx : env.kindOf x = some .cell := by rfl) :
    Asg Z A env O B own ρ (fun v => storeName env x v) d ((x, d) :: ρ) := .mk fun s v X r Q E k => sname_cell X hf hx hc r hO hB hap k
theorem x_assignz {x : PySem.Str} {px pos : Pos} {e : PySem.Expr} {d : D} {ρ₁ : Rho} (X : St Z env O B own ρ s) (he : Ev Z A env O B own ρ e d) (ha : Asg Z A env O B own ρ (fun v => storeName env x v) d ρ₁)
    (k : ∀ h' tk, St Z env O B own ρ₁ { s with heap := h', toks := tk } → Xs Z A rest env Q E { s with heap := h', toks := tk })
    (hs : swapsWith e (some (.Name x px)) pos.line env = pure false) : Xs Z A (.Assign [.Name x px] e pos :: rest) env Q E s :=
  Xs.cons (wpAny_Assign_Name (he.run s X _ _ fun v h₁ t₁ g₁ le₁ r₁ => ha.run _ v (X.grow g₁ le₁) r₁ _ _ fun h₂ t₂ k₂ X₂ => k h₂ t₂ X₂) hs)
theorem x_assign {h₀ : Heap} {t₀ : Nat} {x : PySem.Str} {px pos : Pos} {e : PySem.Expr} {d : D} {ρ₁ : Rho} (X : St Z env O B own ρ { s with heap := h₀, toks := t₀ }) (he : Ev Z A env O B own ρ e d) (ha : Asg Z A env O B own ρ (fun v => storeName env x v) d ρ₁)
    (k : ∀ h' tk, St Z env O B own ρ₁ { s with heap := h', toks := tk } → Xs Z A rest env Q E { s with heap := h', toks := tk })
    (hs : swapsWith e (some (.Name x px)) pos.line env = pure false := by rfl) : Xs Z A (.Assign [.Name x px] e pos :: rest) env Q E { s with heap := h₀, toks := t₀ } := x_assignz X he ha k hs
theorem x_tupz {elts : List PySem.Expr} {kk : Nat} {tp pos : Pos} {e : PySem.Expr} {d : D} {ρ₁ : Rho} (X : St Z env O B own ρ s) (he : Ev Z A env O B own ρ e d) (ha : Asg Z A env O B own ρ (assign (.Tuple elts kk tp) env) d ρ₁)
    (k : ∀ h' tk, St Z env O B own ρ₁ { s with heap := h', toks := tk } → Xs Z A rest env Q E { s with heap := h', toks := tk })
    (hs : swapsWithSole [.Tuple elts kk tp] e pos.line env = pure false) (hw : swappedStores [.Tuple elts kk tp] e env = pure none) : Xs Z A (.Assign [.Tuple elts kk tp] e pos :: rest) env Q E s :=
  Xs.cons (PyProof.Rows.Assign_Tuple (he.run s X _ _ fun v h₁ t₁ g₁ le₁ r₁ => ha.run _ v (X.grow g₁ le₁) r₁ _ _ fun h₂ t₂ _ X₂ => k h₂ t₂ X₂) hs hw)
theorem x_tup {h₀ : Heap} {t₀ : Nat} {elts : List PySem.Expr} {kk : Nat} {tp pos : Pos} {e : PySem.Expr} {d : D} {ρ₁ : Rho} (X : St Z env O B own ρ { s with heap := h₀, toks := t₀ }) (he : Ev Z A env O B own ρ e d) (ha : Asg Z A env O B own ρ (assign (.Tuple elts kk tp) env) d ρ₁)
    (k : ∀ h' tk, St Z env O B own ρ₁ { s with heap := h', toks := tk } → Xs Z A rest env Q E { s with heap := h', toks := tk })
    (hs : swapsWithSole [.Tuple elts kk tp] e pos.line env = pure false := by rfl) (hw : swappedStores [.Tuple elts kk tp] e env = pure none := by rfl) : Xs Z A (.Assign [.Tuple elts kk tp] e pos :: rest) env Q E { s with heap := h₀, toks := t₀ } := x_tupz X he ha k hs hw
theorem x_swapz {elts : List PySem.Expr} {kk : Nat} {tp pos : Pos} {e : PySem.Expr} {ds : List D} {names : List PySem.Str} {ρ₁ : Rho} (hA : A.handled = none) (X : St Z env O B own ρ s) (he : Ev Z A env O B own ρ e (.tup ds)) (ha : Asgs Z A env O B own ρ (names.reverse.map fun n => fun v => bindName env n v) ds.reverse ρ₁)
    (k : ∀ h' tk, St Z env O B own ρ₁ { s with heap := h', toks := tk } → Xs Z A rest env Q E { s with heap := h', toks := tk }) (hn : names.length = ds.length)
    (hs : swapsWithSole [.Tuple elts kk tp] e pos.line env = pure false) (hw : swappedStores [.Tuple elts kk tp] e env = pure (some names)) : Xs Z A (.Assign [.Tuple elts kk tp] e pos :: rest) env Q E s :=
  Xs.cons (PyProof.Rows.Assign_Tuple_swapped (he.run s X _ _ fun v h₁ t₁ g₁ le₁ r₁ => by
    simp only [Rep] at r₁
    obtain ⟨a, vs, rfl, no, ht, rs⟩ := r₁
    have hl : vs.length = ds.length := rs.length
    have e1 : names.length = vs.toArray.size := by rw [hn]; simpa using hl.symm
    rw [e1]
    refine unpackItems_tuple hA ht.isTup fun h₂ hk => ?_
    have g : Grow Z O h₁ h₂ := Grow.of (X.grow g₁ le₁).tabs fun b o e => hk b o (Nat.ne_of_lt (Heap.lt_size e)) e
    have Xg := (X.grow g₁ le₁).grow (tk := t₁) g (Nat.le_refl _)
    have := ha.run _ _ Xg (rs.grow g (Nat.le_refl _)).reverse (fun _ => fun s' => Xs Z A rest env Q E s') E fun h₃ t₃ k₃ X₃ => k h₃ t₃ X₃
    simpa using this) hs hw)
theorem x_swap {h₀ : Heap} {t₀ : Nat} {elts : List PySem.Expr} {kk : Nat} {tp pos : Pos} {e : PySem.Expr} {ds : List D} {names : List PySem.Str} {ρ₁ : Rho} (hA : A.handled = none) (X : St Z env O B own ρ { s with heap := h₀, toks := t₀ }) (he : Ev Z A env O B own ρ e (.tup ds)) (ha : Asgs Z A env O B own ρ (names.reverse.map fun n => fun v => bindName env n v) ds.reverse ρ₁)
    (k : ∀ h' tk, St Z env O B own ρ₁ { s with heap := h', toks := tk } → Xs Z A rest env Q E { s with heap := h', toks := tk }) (hn : names.length = ds.length := by rfl)
    (hs : swapsWithSole [.Tuple elts kk tp] e pos.line env = pure false := by rfl) (hw : swappedStores [.Tuple elts kk tp] e env = pure (some names) := by rfl) : Xs Z A (.Assign [.Tuple elts kk tp] e pos :: rest) env Q E { s with heap := h₀, toks := t₀ } := x_swapz hA X he ha k hn hs hw
/-- an assignment with an operator: x += e -/
theorem x_augz {x : PySem.Str} {px pos : Pos} {op : Operator} {e : PySem.Expr} {d0 d1 d : D} {ρ₁ : Rho} (X : St Z env O B own ρ s) (h0 : Ev Z A env O B own ρ (.Name x px) d0) (he : Ev Z A env O B own ρ e d1) (ho : Op2 Z A O (inplaceOp op) d0 d1 d) (ha : Asg Z A env O B own ρ (fun v => storeName env x v) d ρ₁)
    (k : ∀ h' tk, St Z env O B own ρ₁ { s with heap := h', toks := tk } → Xs Z A rest env Q E { s with heap := h', toks := tk })
    (hn : eval (.Name x px) env = (do standAt px; loadName env x)) : Xs Z A (.AugAssign (.Name x px) op e pos :: rest) env Q E s := by
  refine Xs.cons ?_
  rw [exec_AugAssign_Name]
  have h1 := fun Q E k => h0.run s X Q E k
  rw [hn] at h1
  show wpAny _ _ ((do standAt px; loadName env x) >>= _) _ _ _
  refine wpAny_bind (h1 _ _ fun v h₁ t₁ g₁ le₁ r₁ => ?_)
  have X₁ := X.grow g₁ le₁
  refine wpAny_bind (wpAny_holding (he.run _ X₁ _ _ fun v₂ h₂ t₂ g₂ le₂ r₂ => ?_))
  refine wpAny_bind (wpAny_standAt (wpAny_bind ?_))
  refine PyProof.Rows.wpAny_operate' (ho.run _ v v₂ ((X₁.grow g₂ le₂).wd) (r₁.grow g₂ le₂) r₂ _ _ fun v₃ h₃ t₃ g₃ le₃ r₃ => ?_)
  refine wpAny_bind (wpAny_standAt (wpAny_bind (wpAny_bindName ?_)))
  exact ha.run _ v₃ ((X₁.grow g₂ le₂).grow g₃ le₃) r₃ _ _ fun h₄ t₄ _ X₄ => wpAny_pure (k h₄ t₄ X₄)
theorem x_aug {h₀ : Heap} {t₀ : Nat} {x : PySem.Str} {px pos : Pos} {op : Operator} {e : PySem.Expr} {d0 d1 d : D} {ρ₁ : Rho} (X : St Z env O B own ρ { s with heap := h₀, toks := t₀ }) (h0 : Ev Z A env O B own ρ (.Name x px) d0) (he : Ev Z A env O B own ρ e d1) (ho : Op2 Z A O (inplaceOp op) d0 d1 d) (ha : Asg Z A env O B own ρ (fun v => storeName env x v) d ρ₁)
    (k : ∀ h' tk, St Z env O B own ρ₁ { s with heap := h', toks := tk } → Xs Z A rest env Q E { s with heap := h', toks := tk })
    (hn : eval (.Name x px) env = (do standAt px; loadName env x) := by rfl) : Xs Z A (.AugAssign (.Name x px) op e pos :: rest) env Q E { s with heap := h₀, toks := t₀ } := x_augz X h0 he ho ha k hn
theorem x_ifz {test : PySem.Expr} {body orelse : List Stmt} {pos : Pos} {b : Bool} (X : St Z env O B own ρ s) (ht : Tst Z A env O B own ρ test b)
    (k : ∀ h' tk, St Z env O B own ρ { s with heap := h', toks := tk } → Xs Z A (if b then body else orelse) env (fun f s' => match f with | .next => Xs Z A rest env Q E s' | f => Q f s') E { s with heap := h', toks := tk }) :
    Xs Z A (.If test body orelse pos :: rest) env Q E s :=
  Xs.cons (wpAny_If (ht.run s X _ _ fun h₁ t₁ g₁ le₁ => by
    have := k h₁ t₁ (X.grow g₁ le₁)
    cases b <;> exact this.run))
theorem x_if {h₀ : Heap} {t₀ : Nat} {test : PySem.Expr} {body orelse : List Stmt} {pos : Pos} {b : Bool} (X : St Z env O B own ρ { s with heap := h₀, toks := t₀ }) (ht : Tst Z A env O B own ρ test b)
    (k : ∀ h' tk, St Z env O B own ρ { s with heap := h', toks := tk } → Xs Z A (if b then body else orelse) env (fun f s' => match f with | .next => Xs Z A rest env Q E s' | f => Q f s') E { s with heap := h', toks := tk }) :
    Xs Z A (.If test body orelse pos :: rest) env Q E { s with heap := h₀, toks := t₀ } := x_ifz X ht k
theorem x_iftz {test : PySem.Expr} {body orelse : List Stmt} {pos : Pos} (X : St Z env O B own ρ s) (ht : Tst Z A env O B own ρ test true)
    (k : ∀ h' tk, St Z env O B own ρ { s with heap := h', toks := tk } → Xs Z A body env (fun f s' => match f with | .next => Xs Z A rest env Q E s' | f => Q f s') E { s with heap := h', toks := tk }) :
    Xs Z A (.If test body orelse pos :: rest) env Q E s := x_if X ht k
theorem x_ift {h₀ : Heap} {t₀ : Nat} {test : PySem.Expr} {body orelse : List Stmt} {pos : Pos} (X : St Z env O B own ρ { s with heap := h₀, toks := t₀ }) (ht : Tst Z A env O B own ρ test true)
    (k : ∀ h' tk, St Z env O B own ρ { s with heap := h', toks := tk } → Xs Z A body env (fun f s' => match f with | .next => Xs Z A rest env Q E s' | f => Q f s') E { s with heap := h', toks := tk }) :
    Xs Z A (.If test body orelse pos :: rest) env Q E { s with heap := h₀, toks := t₀ } := x_iftz X ht k
theorem x_iffz {test : PySem.Expr} {body orelse : List Stmt} {pos : Pos} (X : St Z env O B own ρ s) (ht : Tst Z A env O B own ρ test false)
    (k : ∀ h' tk, St Z env O B own ρ { s with heap := h', toks := tk } → Xs Z A orelse env (fun f s' => match f with | .next => Xs Z A rest env Q E s' | f => Q f s') E { s with heap := h', toks := tk }) :
    Xs Z A (.If test body orelse pos :: rest) env Q E s := x_if X ht k
theorem x_iff {h₀ : Heap} {t₀ : Nat} {test : PySem.Expr} {body orelse : List Stmt} {pos : Pos} (X : St Z env O B own ρ { s with heap := h₀, toks := t₀ }) (ht : Tst Z A env O B own ρ test false)
    (k : ∀ h' tk, St Z env O B own ρ { s with heap := h', toks := tk } → Xs Z A orelse env (fun f s' => match f with | .next => Xs Z A rest env Q E s' | f => Q f s') E { s with heap := h', toks := tk }) :
    Xs Z A (.If test body orelse pos :: rest) env Q E { s with heap := h₀, toks := t₀ } := x_iffz X ht k
theorem Tst.cast {test : PySem.Expr} {b b' : Bool} (h : Tst Z A env O B own ρ test b) (e : b = b') : Tst Z A env O B own ρ test b' := e ▸ h
theorem Ev.cast {e : PySem.Expr} {d d' : D} (h : Ev Z A env O B own ρ e d) (q : d = d') : Ev Z A env O B own ρ e d' := q ▸ h
theorem x_retz {e : PySem.Expr} {pos : Pos} {d : D} (X : St Z env O B own ρ s) (he : Ev Z A env O B own ρ e d) (k : ∀ v h' tk, St Z env O B own ρ { s with heap := h', toks := tk } → Rep O h' tk d v → Q (.ret v) { s with heap := h', toks := tk }) :
    Xs Z A (.Return (some e) pos :: rest) env Q E s :=
  Xs.cons (wpAny_Return_some (he.run s X _ _ fun v h₁ t₁ g₁ le₁ r₁ => k v h₁ t₁ (X.grow g₁ le₁) r₁))
theorem x_ret {h₀ : Heap} {t₀ : Nat} {e : PySem.Expr} {pos : Pos} {d : D} (X : St Z env O B own ρ { s with heap := h₀, toks := t₀ }) (he : Ev Z A env O B own ρ e d) (k : ∀ v h' tk, St Z env O B own ρ { s with heap := h', toks := tk } → Rep O h' tk d v → Q (.ret v) { s with heap := h', toks := tk }) :
    Xs Z A (.Return (some e) pos :: rest) env Q E { s with heap := h₀, toks := t₀ } := x_retz X he k
theorem x_ret0 {pos : Pos} (k : Q (.ret .none) s) : Xs Z A (.Return none pos :: rest) env Q E s := Xs.cons (wpAny_Return_none k)
theorem x_pass {pos : Pos} (k : Xs Z A rest env Q E s) : Xs Z A (.Pass pos :: rest) env Q E s := Xs.cons (wpAny_Pass k)
/-- a while loop whose turns are numbered -/
theorem x_while {test : PySem.Expr} {body : List Stmt} {pos : Pos} (N : Nat) (own' : Nat → List (Addr × List D)) (ρf : Nat → Rho) (X : St Z env O B (own' 0) (ρf 0) s)
    (ht : ∀ n, n < N → Tst Z A env O B (own' n) (ρf n) test true) (hN : Tst Z A env O B (own' N) (ρf N) test false)
    (hb : ∀ n, n < N → ∀ s, St Z env O B (own' n) (ρf n) s → ∀ (Q : Flow → Shared → Prop) (E : Value → Shared → Prop), (∀ h' tk, St Z env O B (own' (n + 1)) (ρf (n + 1)) { s with heap := h', toks := tk } → Q .next { s with heap := h', toks := tk }) → Xs Z A body env Q E s)
    (k : ∀ h' tk, St Z env O B (own' N) (ρf N) { s with heap := h', toks := tk } → Xs Z A rest env Q E { s with heap := h', toks := tk }) :
    Xs Z A (.While test body [] pos :: rest) env Q E s := by
  refine Xs.cons (wpAny_While ?_)
  refine codeAny_whileLoop (fun n s' => ∃ h' tk, s' = { s with heap := h', toks := tk } ∧ ∃ i, i ≤ N ∧ n = N - i ∧ St Z env O B (own' i) (ρf i) s') ?_ N ⟨s.heap, s.toks, rfl, 0, Nat.zero_le _, rfl, X⟩
  rintro n _ ⟨h', tk, rfl, i, hi, rfl, X'⟩
  by_cases hlt : i < N
  · refine (ht i hlt).run _ X' _ _ fun h₁ t₁ g₁ le₁ => ?_
    simp only [if_true]
    refine (hb i hlt _ (X'.grow g₁ le₁) _ _ fun h₂ t₂ X₂ => ?_).run
    exact ⟨N - (i + 1), by omega, h₂, t₂, rfl, i + 1, hlt, rfl, X₂⟩
  · obtain rfl : i = N := by omega
    refine hN.run _ X' _ _ fun h₁ t₁ g₁ le₁ => ?_
    simp only [Bool.false_eq_true, if_false]
    exact wpAny_execs_nil (k h₁ t₁ (X'.grow g₁ le₁))
end
end
end Mine

open PySem PySem.W PyProof.Rows PySem.Calls
set_option Elab.async false
set_option linter.all false
set_option maxRecDepth 100000
namespace Mine
section
variable {Z : Zone} {A : Around} {O : Addr → Prop} {s : Shared} {h' : Heap}

theorem Rep.less {O' : Addr → Prop} {h : Heap} {T : Nat} {d : D} {v : Value} (r : Rep O' h T d v) (k : ∀ b, O b → O' b) : Rep O h T d v := Rep.keep (fun b o n e => ⟨e, fun q => n (k b q)⟩) (Nat.le_refl _) d r
theorem Tab.less {O' : Addr → Prop} {h : Heap} (t : Tab Z O' h) (t0 : Tab Z O h') (k : ∀ b, O b → O' b) : Tab Z O h := fun q hq => by
  obtain ⟨o, ps, g, r⟩ := t q hq
  exact ⟨(t0 q hq).1, ps, g, r.imp id fun ⟨c, e, n, x⟩ => ⟨c, e, fun z => n (k c z), x⟩⟩
/-- more addresses to keep away from: new ones alone -/
theorem Rep.more {O' : Addr → Prop} {h : Heap} {T : Nat} {d : D} {v : Value} (r : Rep O h T d v) (k : ∀ b o, h.get? b = some o → O' b → O b) : Rep O' h T d v := Rep.keep (fun b o n e => ⟨e, fun q => n (k b o e q)⟩) (Nat.le_refl _) d r
theorem Reps.more {O' : Addr → Prop} {h : Heap} {T : Nat} {d : List D} {v : List Value} (r : Reps O h T d v) (k : ∀ b o, h.get? b = some o → O' b → O b) : Reps O' h T d v := Reps.keep (fun b o n e => ⟨e, fun q => n (k b o e q)⟩) (Nat.le_refl _) d r
theorem Tab.more {O' : Addr → Prop} {h : Heap} (t : Tab Z O h) (k : ∀ b o, h.get? b = some o → O' b → O b) (k' : ∀ b, O b → O' b) : Tab Z O' h := fun q hq => by
  obtain ⟨o, ps, g, r⟩ := t q hq
  refine ⟨k' _ o, ps, g, r.imp id fun ⟨c, e, n, x⟩ => ⟨c, e, fun z => ?_, x⟩⟩
  obtain ⟨oc, hc⟩ := CodeRec.ex x
  exact n (k c oc hc z)

/-- what a call's own frame may not touch: all that stood, but the tables -/
noncomputable def Stood (Z : Zone) (h : Heap) : Addr → Obj → Prop := fun b o => h.get? b = some o ∧ ¬ isTab Z b

/-- a def's contract: the call of it on these data gives that datum; k: how many frames it takes -/
structure Fn (Z : Zone) (f : Addr) (k : Nat) (ds : List D) (d : D) : Prop where
  run : 
    ∀ A O s vs, A.handled = none → A.depth + k < recursionLimit → Wd Z O s → Reps O s.heap s.toks ds vs → CpC Z A O (.call (.ref f) ⟨vs, []⟩) s d

theorem fn_enter {f : Addr} {o : Obj} {fd : FuncData} {body : List Stmt} {vs : List Value} {binds : List (PySem.Str × Value)} {ρ₀ : Rho} {d : D} (G : ZoneOk Z) (W : Wd Z O s) (hroom : A.depth < recursionLimit)
    (hf : s.heap.get? f = some o) (hd : o.data = .func fd) (hcd : s.heap.CodeRec fd.code fd.qualname) (hb : fd.body = .stmts body) (hbind : BindsTo s fd ⟨vs, []⟩ binds)
    (hcell : ∀ x ∈ fd.scope.names, x.2 ≠ .cell) (hloc : ∀ x ∈ binds, fd.scope.names.lookup x.1 = some .local)
    (hco : fd.scope.isCoroutine = false) (hgen : fd.scope.isGenerator = false) (hk : fd.scope.kind = .function)
    (hρ : ∀ x d, get ρ₀ x = some d → ∃ v, binds.reverse.lookup x = some v ∧ Rep O s.heap s.toks d v) (hcl : ∀ L : Addr, (callEnv fd L f).cells = [])
    (h : ∀ (L : Addr) (h₁ : Heap) (t₁ : Nat), St Z (callEnv fd L f) (fun b => O b ∨ b = L) (Stood Z s.heap) [] ρ₀ { s with heap := h₁, toks := t₁ } →
      ∀ (Q : Flow → Shared → Prop) (E : Value → Shared → Prop),
        (∀ v h' tk own ρ, St Z (callEnv fd L f) (fun b => O b ∨ b = L) (Stood Z s.heap) own ρ { s with heap := h', toks := tk } → Rep (fun b => O b ∨ b = L) h' tk d v → Q (.ret v) { s with heap := h', toks := tk }) →
        Xs Z (A.deeper (callEnv fd L f)) body (callEnv fd L f) Q E { s with heap := h₁, toks := t₁ }) :
    CpC Z A O (.call (.ref f) ⟨vs, []⟩) s d := fun R kk => by
  have hlim : s.heap.NoLimit := by
    obtain ⟨mc, hn, e⟩ := G.nolimit
    exact ⟨mc, W.ns hn, e⟩
  refine codeAny_with_toks (n := s.toks) (Nat.le_refl _) (codeAny_call_def hroom hf hd hlim hcd hb hbind hcell hloc (fun h₁ hn hk₁ => ?_) hco hgen hk)
  have fresh : s.heap.get? s.heap.objs.size = none := get_size _
  have new : ∀ b o, s.heap.get? b = some o → b ≠ s.heap.objs.size := fun b o e q => by rw [q, fresh] at e; cases e
  have hmore : ∀ b o, s.heap.get? b = some o → (O b ∨ b = s.heap.objs.size) → O b := fun b o e q => q.elim id fun z => absurd z (new b o e)
  have hL : (callEnv fd s.heap.objs.size f).locals = s.heap.objs.size := rfl
  have htab : Tab Z (fun b => O b ∨ b = s.heap.objs.size) h₁ := (W.tabs.more hmore fun b q => .inl q).stay hk₁
  refine (h s.heap.objs.size h₁ _ ?_ _ _ fun v h' tk own ρ X r => ?_).run
  · exact {
      base := fun b o e => hk₁ b o e.1
      zone := fun b o e => ⟨W.zone b o e, fun q => W.OZ b o (W.tabs.isO q) e⟩
      OH := fun b o hb e => hb.elim (fun q => W.OZ b o q e) fun q => new b o (W.zone b o e) q
      tabB := fun b o q e => e.2 q
      LB := fun o e => new _ o e.1 rfl
      ownB := fun p hp => nomatch hp
      ownD := List.nodup_nil
      Oex := fun b hb => by
        rcases hb with hb | rfl
        · obtain ⟨o, e⟩ := W.Oex b hb; exact ⟨o, hk₁ b o e⟩
        · obtain ⟨o, _, _, e, _⟩ := hn; exact ⟨o, e⟩
      tabs := htab
      pos := Nat.lt_of_lt_of_le W.pos (Nat.le_add_right _ _)
      OL := .inr rfl
      loc := ⟨_, hn, fun x d' _ hg => by
        obtain ⟨v, e, r⟩ := hρ x d' hg
        exact ⟨v, e, ((r.more hmore).grow (Grow.of (W.tabs.more hmore fun b q => .inl q) hk₁) (Nat.le_add_right _ _))⟩⟩
      cel := fun x c _ hc => by rw [hcl] at hc; cases hc
      ownd := fun p hp => nomatch hp }
  · intro hle
    refine kk v h' tk ⟨fun b o n e => X.base b o ⟨e, n⟩, fun b o e => ?_, X.tabs.less W.tabs fun b q => .inl q⟩ hle (r.less fun b q => .inl q)
    by_cases q : isTab Z b
    · obtain ⟨t, ht, rfl⟩ := q
      obtain ⟨_, ps, g, _⟩ := X.tabs t ht
      exact ⟨_, g⟩
    · exact ⟨o, X.base b o ⟨e, q⟩⟩

theorem binds_ok {h : Heap} {T : Nat} : ∀ {ns : List PySem.Str} {ds : List D} {vs : List Value}, Reps O h T ds vs → ns.Nodup → ∀ x d, get (ns.zip ds) x = some d → ∃ v, (ns.zip vs).reverse.lookup x = some v ∧ Rep O h T d v
  | [], _, _, _, _, x, d, g => by simp [get] at g
  | n :: ns, [], _, _, _, x, d, g => by simp [get] at g
  | n :: ns, d0 :: ds, vs, r, hn, x, d, g => by
    simp only [Reps] at r
    obtain ⟨v, rs, rfl, r1, r2⟩ := r
    rw [List.nodup_cons] at hn
    rw [List.zip_cons_cons] at g
    rw [List.zip_cons_cons, List.reverse_cons, List.lookup_append]
    have none_of : ∀ {l : List (PySem.Str × Value)} {y : PySem.Str}, (∀ p ∈ l, p.1 ≠ y) → l.lookup y = none := by
      intro l
      induction l with
      | nil => intro y _; rfl
      | cons p l ih =>
        intro y hp
        rw [List.lookup_cons]
        have : (y == p.1) = false := beq_eq_false_iff_ne.mpr fun e => hp p (.head _) e.symm
        rw [this]
        exact ih fun q hq => hp q (.tail _ hq)
    rcases get_put g with ⟨rfl, rfl⟩ | ⟨ne, g⟩
    · have e : ((ns.zip rs).reverse).lookup x = none := none_of fun p hp q => by
        have := List.of_mem_zip (List.mem_reverse.mp hp)
        exact hn.1 (q ▸ this.1)
      rw [e]
      exact ⟨v, by simp [List.lookup], r1⟩
    · obtain ⟨v', e, r'⟩ := binds_ok r2 hn.2 x d g
      rw [e]
      exact ⟨v', rfl, r'⟩
theorem envOk_of {env : Env} {B : Addr → Obj → Prop} {own : List (Addr × List D)} {ρ : Rho} (_ : St Z env O B own ρ s) (h1 : env.scope.kind = .function) (h2 : env.globals = mainGlobals) (h3 : env.builtins = builtinsNs) : EnvOk env := ⟨h1, h2, h3⟩
/-- a def of the zone, called with as many values as it has parameters -/
theorem fn_enterP {f : Addr} {o : Obj} {fd : FuncData} {body : List Stmt} {vs : List Value} {ns : List PySem.Str} {ds : List D} {d : D} (G : ZoneOk Z) (W : Wd Z O s) (hroom : A.depth < recursionLimit)
    (hf : Z.H.get? f = some o) (hd : o.data = .func fd) (hcd : s.heap.CodeRec fd.code fd.qualname) (hb : fd.body = .stmts body) (hbind : bindArgs fd ⟨vs, []⟩ = pure (ns.zip vs))
    (hcell : ∀ x ∈ fd.scope.names, x.2 ≠ .cell) (hloc : ∀ n ∈ ns, fd.scope.names.lookup n = some .local) (hns : ns.Nodup)
    (hco : fd.scope.isCoroutine = false) (hgen : fd.scope.isGenerator = false) (hk : fd.scope.kind = .function)
    (r : Reps O s.heap s.toks ds vs) (hcl : ∀ L : Addr, (callEnv fd L f).cells = [])
    (h : ∀ (L : Addr) (h₁ : Heap) (t₁ : Nat), St Z (callEnv fd L f) (fun b => O b ∨ b = L) (Stood Z s.heap) [] (ns.zip ds) { s with heap := h₁, toks := t₁ } →
      ∀ (Q : Flow → Shared → Prop) (E : Value → Shared → Prop),
        (∀ v h' tk own ρ, St Z (callEnv fd L f) (fun b => O b ∨ b = L) (Stood Z s.heap) own ρ { s with heap := h', toks := tk } → Rep (fun b => O b ∨ b = L) h' tk d v → Q (.ret v) { s with heap := h', toks := tk }) →
        Xs Z (A.deeper (callEnv fd L f)) body (callEnv fd L f) Q E { s with heap := h₁, toks := t₁ }) :
    CpC Z A O (.call (.ref f) ⟨vs, []⟩) s d :=
  fn_enter G W hroom (W.zone _ _ hf) hd hcd hb (BindsTo.of_eq hbind) hcell (fun x hx => hloc _ (List.of_mem_zip hx).1) hco hgen hk (binds_ok r hns) hcl h
end
end Mine

open PySem PySem.W PyProof.Rows PySem.Calls
set_option Elab.async false
set_option linter.all false
set_option maxRecDepth 100000
namespace Mine
noncomputable abbrev KK (P : Params) : Frag := Mine.hd.heap_39 P
structure ZK (Z : Zone) : Prop extends ZoneOk Z where
  K : (KK Z.w.params).In Z.H
  boot : ∀ x : PySem.Str, x ≠ "__name__" → Z.mb x = bootBuiltins x
section
variable {Z : Zone} {A : Around} {env : Env} {O : Addr → Prop} {B : Addr → Obj → Prop} {own : List (Addr × List D)} {ρ ρ' : Rho} {s : Shared}
theorem ev_g {x : PySem.Str} {pos : Pos} {v : Value} (G : ZK Z) (ok : EnvOk env) (hv : nsIn (KK Z.w.params) mainGlobals x = some (some v)) (hl : env.kindOf x = some .globalImplicit := by rfl) (hd : (x == ("__debug__" : PySem.Str)) = false := by decide) :
    Ev Z A env O B own ρ (.Name x pos) (.val v) := ev_global G.toZoneOk ok (mg_of G.K G.g hv) hl hd
theorem ev_b {x : PySem.Str} {pos : Pos} {v : Value} (G : ZK Z) (ok : EnvOk env) (hm : nsIn (KK Z.w.params) mainGlobals x = some none) (hv : bootBuiltins x = some v) (hn : x ≠ "__name__" := by decide) (hl : env.kindOf x = some .globalImplicit := by rfl) (hd : (x == ("__debug__" : PySem.Str)) = false := by decide) :
    Ev Z A env O B own ρ (.Name x pos) (.val v) := ev_builtin G.toZoneOk ok (mg_none_of G.K G.g hm) ((G.boot x hn).trans hv) hl hd

theorem Ev.vint {e : PySem.Expr} {n : Int} {t : Tok} (h : Ev Z A env O B own ρ e (.val (.int n t))) : Ev Z A env O B own ρ e (.int n) := .mk fun s X Q E k =>
  h.run s X Q E fun v h' tk g le r => k v h' tk g le (by simp only [Rep] at r ⊢; exact ⟨t, r⟩)
theorem Ev.vstr {e : PySem.Expr} {x : PySem.Str} {t : Tok} (h : Ev Z A env O B own ρ e (.val (.str x t))) : Ev Z A env O B own ρ e (.str x) := .mk fun s X Q E k =>
  h.run s X Q E fun v h' tk g le r => k v h' tk g le (by simp only [Rep] at r ⊢; exact ⟨t, r⟩)

theorem fn_div2n1n (G : ZK Z) {a b n : Int} (hb : b ≠ 0) (hs : b.natAbs < 2 ^ 64) (ha : (Builtin.Int.intBits a : Int) - n ≤ 4000) : Fn Z 38 5 [.int a, .int b, .int n] (.tup [.int (a.fdiv b), .int (a.fmod b)]) := .mk <| by
  intro A O s vs hA hdep W r
  have r' := r
  simp only [Reps] at r'
  obtain ⟨v1, _, rfl, r1, v2, _, rfl, r2, v3, _, rfl, r3, rfl⟩ := r'
  refine fn_enterP (ns := ["a", "b", "n"]) G.toZoneOk W (dep0 hdep) (G.K 38 _ rfl) rfl (codeRec_of (Frag.In.keeps G.K W.zone) rfl) rfl rfl (by decide) (by decide) (by decide) rfl rfl rfl r (fun _ => rfl) ?_
  intro L h₁ t₁ X Q E k
  have ok := envOk_of X rfl rfl rfl
  refine x_ift X (Tst.cast (tst_cmp (ev_bin (ev_bitlen (ev_local rfl)) (ev_local rfl) op_sub) (Ev.vint (ev_g G ok rfl)) op_le) (decide_eq_true ha)) fun h₂ t₂ X₂ => ?_
  exact x_ret X₂ (ev_divmod (ev_b G ok rfl rfl) (ev_local rfl) (ev_local rfl) hb hs) fun v h' tk X' r' => k v h' tk _ _ X' r'
end
end Mine

open PySem PySem.W PyProof.Rows PySem.Calls
set_option Elab.async false
set_option linter.all false
set_option maxRecDepth 100000
namespace Mine
noncomputable def Owns (O : Addr → Prop) (h : Heap) (T : Nat) (own : List (Addr × List D)) : Prop := ∀ p ∈ own, O p.1 ∧ ∃ vs, h.PlainList p.1 vs.toArray ∧ Reps O h T p.2 vs
noncomputable def isOwn (own : List (Addr × List D)) (b : Addr) : Prop := ∃ p ∈ own, b = p.1
noncomputable def GrowO (Z : Zone) (O : Addr → Prop) (own : List (Addr × List D)) (h h' : Heap) : Prop :=
  (∀ b o, ¬ isTab Z b → ¬ isOwn own b → h.get? b = some o → h'.get? b = some o) ∧ (∀ b o, h.get? b = some o → ∃ o', h'.get? b = some o') ∧ Tab Z O h'
/-- a call that may turn the lists named in own -/
noncomputable def CpCO (Z : Zone) (A : Around) (O : Addr → Prop) (own own' : List (Addr × List D)) (c : Code) (s : Shared) (d : D) : Prop :=
  ∀ (R : Result → Shared → Prop),
    (∀ v h' tk, GrowO Z O own s.heap h' → s.toks ≤ tk → Rep O h' tk d v → Owns O h' tk own' → R (.ok (.ret v)) { s with heap := h', toks := tk }) → codeAny (model Z.prog Z.w) A c R s
/-- all that stood, but the tables and the call's own lists -/
noncomputable def StoodO (Z : Zone) (own : List (Addr × List D)) (h : Heap) : Addr → Obj → Prop := fun b o => h.get? b = some o ∧ ¬ isTab Z b ∧ ¬ isOwn own b
section
variable {Z : Zone} {A : Around} {O : Addr → Prop} {s : Shared} {h' : Heap}
theorem isOwn_map {own own' : List (Addr × List D)} (e : own'.map (·.1) = own.map (·.1)) {b : Addr} : isOwn own' b ↔ isOwn own b := by
  have : ∀ l : List (Addr × List D), isOwn l b ↔ b ∈ l.map (·.1) := fun l => by
    unfold isOwn
    rw [List.mem_map]
    exact ⟨fun ⟨p, h, e⟩ => ⟨p, h, e.symm⟩, fun ⟨p, h, e⟩ => ⟨p, h, e.symm⟩⟩
  rw [this, this, e]
theorem get_append {x : PySem.Str} {d : D} {ρ₂ : Rho} : ∀ {ρ₁ : Rho}, get (ρ₁ ++ ρ₂) x = some d → get ρ₁ x = some d ∨ (get ρ₁ x = none ∧ get ρ₂ x = some d)
  | [], h => .inr ⟨rfl, h⟩
  | (y, dy) :: r, h => by
    simp only [List.cons_append, get] at h ⊢
    split at h
    · rename_i q; rw [if_pos q]; exact .inl h
    · rename_i q; rw [if_neg q]; exact get_append h
theorem get_zip_mem {x : PySem.Str} {d : D} : ∀ {ns : List PySem.Str} {ds : List D}, get (ns.zip ds) x = some d → x ∈ ns
  | [], _, h => by simp [get] at h
  | n :: ns, [], h => by simp [get] at h
  | n :: ns, d0 :: ds, h => by
    rcases get_put (show get ((n, d0) :: ns.zip ds) x = some d from h) with ⟨rfl, _⟩ | ⟨_, h⟩
    · exact .head _
    · exact .tail _ (get_zip_mem h)
theorem get_zip_none {x : PySem.Str} : ∀ {ns : List PySem.Str} {ds : List D}, ns.length = ds.length → get (ns.zip ds) x = none → x ∉ ns
  | [], _, _, _ => List.not_mem_nil
  | n :: ns, [], hl, _ => by simp at hl
  | n :: ns, d0 :: ds, hl, h => by
    simp only [List.zip_cons_cons, get] at h
    split at h
    · cases h
    · rename_i q
      exact fun hm => (List.mem_cons.mp hm).elim (fun e => q e.symm) (get_zip_none (by simpa using hl) h)
theorem fn_enterO {f : Addr} {o : Obj} {fd : FuncData} {body : List Stmt} {vs : List Value} {ns : List PySem.Str} {ds : List D} {ρc : Rho} {own own' : List (Addr × List D)} {d : D} (G : ZoneOk Z) (W : Wd Z O s) (hroom : A.depth < recursionLimit)
    (hf : s.heap.get? f = some o) (hd : o.data = .func fd) (hcd : s.heap.CodeRec fd.code fd.qualname) (hb : fd.body = .stmts body) (hbind : bindArgs fd ⟨vs, []⟩ = pure (ns.zip vs))
    (hcell : ∀ x ∈ fd.scope.names, x.2 ≠ .cell) (hloc : ∀ n ∈ ns, fd.scope.names.lookup n = some .local) (hns : ns.Nodup)
    (hco : fd.scope.isCoroutine = false) (hgen : fd.scope.isGenerator = false) (hk : fd.scope.kind = .function)
    (r : Reps O s.heap s.toks ds vs) (hlen : ns.length = ds.length) (hcl : ∀ L : Addr, (callEnv fd L f).cells = fd.closure)
    (hcv : ∀ x c, fd.closure.lookup x = some c → (x ∉ ns ∧ ∃ ov, s.heap.IsCell c ov ∧ ∀ d, get ρc x = some d → ∃ v, ov = some v ∧ Rep O s.heap s.toks d v))
    (hcf : ∀ x d, fd.scope.names.lookup x = some .local → x ∉ ns → get ρc x = some d → False)
    (hown : Owns O s.heap s.toks own) (hnd : (own.map (·.1)).Nodup) (hmap : own'.map (·.1) = own.map (·.1))
    (h : ∀ (L : Addr) (h₁ : Heap) (t₁ : Nat), St Z (callEnv fd L f) (fun b => O b ∨ b = L) (StoodO Z own s.heap) own (ns.zip ds ++ ρc) { s with heap := h₁, toks := t₁ } →
      ∀ (Q : Flow → Shared → Prop) (E : Value → Shared → Prop),
        (∀ v h' tk ρ, St Z (callEnv fd L f) (fun b => O b ∨ b = L) (StoodO Z own s.heap) own' ρ { s with heap := h', toks := tk } → Rep (fun b => O b ∨ b = L) h' tk d v → Q (.ret v) { s with heap := h', toks := tk }) →
        (d = .none → ∀ h' tk ρ, St Z (callEnv fd L f) (fun b => O b ∨ b = L) (StoodO Z own s.heap) own' ρ { s with heap := h', toks := tk } → Q .next { s with heap := h', toks := tk }) →
        Xs Z (A.deeper (callEnv fd L f)) body (callEnv fd L f) Q E { s with heap := h₁, toks := t₁ }) :
    CpCO Z A O own own' (.call (.ref f) ⟨vs, []⟩) s d := fun R kk => by
  have hlim : s.heap.NoLimit := by
    obtain ⟨mc, hn, e⟩ := G.nolimit
    exact ⟨mc, W.ns hn, e⟩
  refine codeAny_with_toks (n := s.toks) (Nat.le_refl _) (codeAny_call_def hroom hf hd hlim hcd hb (BindsTo.of_eq hbind) hcell (fun x hx => hloc _ (List.of_mem_zip hx).1) (fun h₁ hn hk₁ => ?_) hco hgen hk)
  have fresh : s.heap.get? s.heap.objs.size = none := get_size _
  have new : ∀ b o, s.heap.get? b = some o → b ≠ s.heap.objs.size := fun b o e q => by rw [q, fresh] at e; cases e
  have hmore : ∀ b o, s.heap.get? b = some o → (O b ∨ b = s.heap.objs.size) → O b := fun b o e q => q.elim id fun z => absurd z (new b o e)
  have hgr : Grow Z (fun b => O b ∨ b = s.heap.objs.size) s.heap h₁ := Grow.of (W.tabs.more hmore fun b q => .inl q) hk₁
  have hle : s.toks ≤ s.toks + (ns.zip vs).length := Nat.le_add_right _ _
  have fin : ∀ v h' tk ρ, St Z (callEnv fd s.heap.objs.size f) (fun b => O b ∨ b = s.heap.objs.size) (StoodO Z own s.heap) own' ρ { s with heap := h', toks := tk } → Rep (fun b => O b ∨ b = s.heap.objs.size) h' tk d v → s.toks ≤ tk → R (.ok (.ret v)) { s with heap := h', toks := tk } := by
    intro v h' tk ρ X r hle'
    refine kk v h' tk ⟨fun b o n n' e => X.base b o ⟨e, n, n'⟩, fun b o e => ?_, X.tabs.less W.tabs fun b q => .inl q⟩ hle' (r.less fun b q => .inl q) fun p hp => ?_
    · by_cases q : isTab Z b
      · obtain ⟨t, ht, rfl⟩ := q
        obtain ⟨_, ps, g, _⟩ := X.tabs t ht
        exact ⟨_, g⟩
      · by_cases q' : isOwn own b
        · obtain ⟨p, hp, rfl⟩ := (isOwn_map hmap).mpr q'
          obtain ⟨_, vs, ⟨n, hl⟩, _⟩ := X.ownd p hp
          exact ⟨_, hl⟩
        · exact ⟨o, X.base b o ⟨e, q, q'⟩⟩
    · obtain ⟨_, vs, hl, rr⟩ := X.ownd p hp
      obtain ⟨q, hq, e⟩ := (isOwn_map hmap).mp ⟨p, hp, rfl⟩
      exact ⟨e ▸ (hown q hq).1, vs, hl, Reps.keep (fun b o n e => ⟨e, fun z => n (.inl z)⟩) (Nat.le_refl _) _ rr⟩
  refine (h s.heap.objs.size h₁ _ ?_ _ _ (fun v h' tk ρ X r => ?_) fun hdn h' tk ρ X => ?_).run
  · exact {
      base := fun b o e => hk₁ b o e.1
      zone := fun b o e => ⟨W.zone b o e, fun q => W.OZ b o (W.tabs.isO q) e, fun ⟨p, hp, q⟩ => W.OZ b o (q ▸ (hown p hp).1) e⟩
      OH := fun b o hb e => hb.elim (fun q => W.OZ b o q e) fun q => new b o (W.zone b o e) q
      tabB := fun b o q e => e.2.1 q
      LB := fun o e => new _ o e.1 rfl
      ownB := fun p hp o e => e.2.2 ⟨p, hp, rfl⟩
      ownD := hnd
      Oex := fun b hb => by
        rcases hb with hb | rfl
        · obtain ⟨o, e⟩ := W.Oex b hb; exact ⟨o, hk₁ b o e⟩
        · obtain ⟨o, _, _, e, _⟩ := hn; exact ⟨o, e⟩
      tabs := hgr.2.2
      pos := Nat.lt_of_lt_of_le W.pos hle
      OL := .inr rfl
      loc := ⟨_, hn, fun x d' hx hg => by
        rcases get_append hg with hg | ⟨hno, hg⟩
        · obtain ⟨v, e, r⟩ := binds_ok r hns x d' hg
          exact ⟨v, e, (r.more hmore).grow hgr hle⟩
        · exact (hcf x d' hx (get_zip_none hlen hno) hg).elim⟩
      cel := fun x c _ hc => by
        rw [hcl] at hc
        obtain ⟨hx, ov, hv, rr⟩ := hcv x c hc
        refine ⟨ov, hv.keeps hk₁, fun d' hg => ?_⟩
        rcases get_append hg with hg | ⟨_, hg⟩
        · exact absurd (get_zip_mem hg) hx
        · obtain ⟨v, e, r⟩ := rr d' hg
          exact ⟨v, e, (r.more hmore).grow hgr hle⟩
      ownd := fun p hp => by
        obtain ⟨ho, vs, hl, rr⟩ := hown p hp
        exact ⟨.inl ho, vs, hl.at fun o e => hk₁ _ o e, (rr.more hmore).grow hgr hle⟩ }
  · intro hle'
    exact fin v h' tk ρ X r hle'
  · intro hle'
    exact fin .none h' tk ρ X (by subst hdn; simp only [Rep]) hle'
end
end Mine

open PySem PySem.W PyProof.Rows PySem.Calls
set_option Elab.async false
set_option linter.all false
set_option maxRecDepth 100000
namespace Mine
theorem bindL_other {k : PySem.Str → Option NameKind} {x : PySem.Str} : ∀ {ns : List PySem.Str} {vs : List Value} {m : PySem.Str → Option Value}, x ∉ ns → bindL k (ns.zip vs) m x = m x
  | [], _, _, _ => rfl
  | n :: ns, [], _, _ => rfl
  | n :: ns, v :: vs, m, h => by
    have hx : x ≠ n := fun e => h (e ▸ .head _)
    have hx' : x ∉ ns := fun e => h (.tail _ e)
    rw [List.zip_cons_cons]
    unfold bindL
    rw [bindL_other hx']
    split
    · simp [hx]
    · rfl
theorem bindC_other {k : PySem.Str → Option NameKind} {x : PySem.Str} : ∀ {ns : List PySem.Str} {vs : List Value} {m : PySem.Str → Option Value}, x ∉ ns → bindC k (ns.zip vs) m x = m x
  | [], _, _, _ => rfl
  | n :: ns, [], _, _ => rfl
  | n :: ns, v :: vs, m, h => by
    have hx : x ≠ n := fun e => h (e ▸ .head _)
    have hx' : x ∉ ns := fun e => h (.tail _ e)
    rw [List.zip_cons_cons]
    unfold bindC
    rw [bindC_other hx']
    split
    · rfl
    · simp [hx]
section
variable {O : Addr → Prop} {h : Heap} {T : Nat}
theorem bindL_ok {k : PySem.Str → Option NameKind} : ∀ {ns : List PySem.Str} {ds : List D} {vs : List Value} {m : PySem.Str → Option Value}, Reps O h T ds vs → ns.Nodup → ∀ x d, k x = some .local → get (ns.zip ds) x = some d → ∃ v, bindL k (ns.zip vs) m x = some v ∧ Rep O h T d v
  | [], _, _, _, _, _, x, d, _, g => by simp [get] at g
  | n :: ns, [], _, _, _, _, x, d, _, g => by simp [get] at g
  | n :: ns, d0 :: ds, vs, m, r, hn, x, d, hk, g => by
    simp only [Reps] at r
    obtain ⟨v, rs, rfl, r1, r2⟩ := r
    rw [List.nodup_cons] at hn
    rcases get_put (show get ((n, d0) :: ns.zip ds) x = some d from g) with ⟨rfl, rfl⟩ | ⟨_, g⟩
    · rw [List.zip_cons_cons]
      unfold bindL
      rw [bindL_other hn.1, if_pos hk]
      exact ⟨v, by simp, r1⟩
    · rw [List.zip_cons_cons]
      unfold bindL
      exact bindL_ok r2 hn.2 x d hk g
theorem bindC_ok {k : PySem.Str → Option NameKind} : ∀ {ns : List PySem.Str} {ds : List D} {vs : List Value} {m : PySem.Str → Option Value}, Reps O h T ds vs → ns.Nodup → ∀ x d, k x ≠ some .local → get (ns.zip ds) x = some d → ∃ v, bindC k (ns.zip vs) m x = some v ∧ Rep O h T d v
  | [], _, _, _, _, _, x, d, _, g => by simp [get] at g
  | n :: ns, [], _, _, _, _, x, d, _, g => by simp [get] at g
  | n :: ns, d0 :: ds, vs, m, r, hn, x, d, hk, g => by
    simp only [Reps] at r
    obtain ⟨v, rs, rfl, r1, r2⟩ := r
    rw [List.nodup_cons] at hn
    rcases get_put (show get ((n, d0) :: ns.zip ds) x = some d from g) with ⟨rfl, rfl⟩ | ⟨_, g⟩
    · rw [List.zip_cons_cons]
      unfold bindC
      rw [bindC_other hn.1, if_neg hk]
      exact ⟨v, by simp, r1⟩
    · rw [List.zip_cons_cons]
      unfold bindC
      exact bindC_ok r2 hn.2 x d hk g
end
section
variable {Z : Zone} {A : Around} {O : Addr → Prop} {s : Shared} {h' : Heap}
/-- the addresses that a def with cells keeps for itself -/
noncomputable def OC (O : Addr → Prop) (env : Env) : Addr → Prop := fun b => O b ∨ b = env.locals ∨ ∃ x, env.cells.lookup x = some b
theorem fn_enterC {f : Addr} {o : Obj} {fd : FuncData} {body : List Stmt} {vs : List Value} {ns : List PySem.Str} {ds : List D} {d : D} (G : ZoneOk Z) (W : Wd Z O s) (hroom : A.depth < recursionLimit)
    (hf : s.heap.get? f = some o) (hd : o.data = .func fd) (hcd : s.heap.CodeRec fd.code fd.qualname) (hb : fd.body = .stmts body) (hbind : bindArgs fd ⟨vs, []⟩ = pure (ns.zip vs)) (hclo : fd.closure = [])
    (hkind : ∀ n, ∀ x ∈ ns, fd.scope.names.lookup x = some .local ∨ (fd.scope.names.lookup x = some .cell ∧ ((cellsFrom n fd.scope.names []).lookup x).isSome = true)) (hns : ns.Nodup)
    (hco : fd.scope.isCoroutine = false) (hgen : fd.scope.isGenerator = false) (hk : fd.scope.kind = .function)
    (r : Reps O s.heap s.toks ds vs)
    (h : ∀ (L : Addr) (h₁ : Heap) (t₁ : Nat), St Z (callEnvC fd L f) (OC O (callEnvC fd L f)) (Stood Z s.heap) [] (ns.zip ds) { s with heap := h₁, toks := t₁ } →
      (∀ x c, (callEnvC fd L f).cells.lookup x = some c → (∀ o, ¬ Stood Z s.heap c o) ∧ ∀ y, (callEnvC fd L f).cells.lookup y = some c → y = x) →
      ∀ (Q : Flow → Shared → Prop) (E : Value → Shared → Prop),
        (∀ v h' tk O' B own ρ, St Z (callEnvC fd L f) O' B own ρ { s with heap := h', toks := tk } → (∀ b, OC O (callEnvC fd L f) b → O' b) → (∀ b o, Stood Z s.heap b o → B b o) → Rep O' h' tk d v → Q (.ret v) { s with heap := h', toks := tk }) →
        Xs Z (A.deeper (callEnvC fd L f)) body (callEnvC fd L f) Q E { s with heap := h₁, toks := t₁ }) :
    CpC Z A O (.call (.ref f) ⟨vs, []⟩) s d := fun R kk => by
  have hlim : s.heap.NoLimit := by
    obtain ⟨mc, hn, e⟩ := G.nolimit
    exact ⟨mc, W.ns hn, e⟩
  refine codeAny_with_toks (n := s.toks) (Nat.le_refl _) (codeAny_call_function hroom hf hd hco hgen hb hcd ?_)
  rw [hbind, hclo]
  refine wpAny_pure (wpAny_with_toks (n := s.toks) (Nat.le_refl _) (wpAny_newFunctionEnv_cells hk (fun x hx => hkind _ _ (List.of_mem_zip hx).1) fun env he s₁ X₁ => fun hle => ?_))
  subst he
  refine ⟨hlim.keeps X₁.toInCall.keep, codeAny_func ?_⟩
  obtain ⟨h₁, t₁, rfl, hk₁⟩ := X₁.done
  have fresh : s.heap.get? s.heap.objs.size = none := get_size _
  have new : ∀ b o, s.heap.get? b = some o → b ≠ s.heap.objs.size := fun b o e q => by rw [q, fresh] at e; cases e
  have newC : ∀ b o, s.heap.get? b = some o → ∀ x, (callEnvC fd s.heap.objs.size f).cells.lookup x ≠ some b := fun b o e x q => by
    have l := X₁.above x b (mem_of_lookup q)
    have := Heap.lt_size e
    exact absurd (Nat.lt_trans this l) (Nat.lt_irrefl _)
  have hmore : ∀ b o, s.heap.get? b = some o → OC O (callEnvC fd s.heap.objs.size f) b → O b := fun b o e q => q.elim id fun z => z.elim (fun z => absurd z (new b o e)) fun ⟨x, z⟩ => absurd z (newC b o e x)
  have hgr : Grow Z (OC O (callEnvC fd s.heap.objs.size f)) s.heap h₁ := Grow.of (W.tabs.more hmore fun b q => .inl q) hk₁
  have X₀ : St Z (callEnvC fd s.heap.objs.size f) (OC O (callEnvC fd s.heap.objs.size f)) (Stood Z s.heap) [] (ns.zip ds) { s with heap := h₁, toks := t₁ } := {
    base := fun b o e => hk₁ b o e.1
    zone := fun b o e => ⟨W.zone b o e, fun q => W.OZ b o (W.tabs.isO q) e⟩
    OH := fun b o hb e => hb.elim (fun q => W.OZ b o q e) fun q => q.elim (fun q => new b o (W.zone b o e) q) fun ⟨x, q⟩ => newC b o (W.zone b o e) x q
    tabB := fun b o q e => e.2 q
    LB := fun o e => new _ o e.1 rfl
    ownB := fun p hp => nomatch hp
    ownD := List.nodup_nil
    Oex := fun b hb => by
      rcases hb with hb | rfl | ⟨x, hx⟩
      · obtain ⟨o, e⟩ := W.Oex b hb; exact ⟨o, hk₁ b o e⟩
      · obtain ⟨o, _, _, e, _⟩ := X₁.toInCall.ns; exact ⟨o, e⟩
      · obtain ⟨o, e, _⟩ := X₁.cell x b hx; exact ⟨o, e⟩
    tabs := hgr.2.2
    pos := Nat.lt_of_lt_of_le W.pos hle
    OL := .inr (.inl rfl)
    loc := ⟨_, X₁.toInCall.ns, fun x d' hx hg => by
      obtain ⟨v, e, r'⟩ := bindL_ok r hns x d' hx hg
      exact ⟨v, e, (r'.more hmore).grow hgr hle⟩⟩
    cel := fun x c hx hc => ⟨_, X₁.cell x c hc, fun d' hg => by
      obtain ⟨v, e, r'⟩ := bindC_ok r hns x d' hx hg
      exact ⟨v, e, (r'.more hmore).grow hgr hle⟩⟩
    ownd := fun p hp => nomatch hp }
  refine (h s.heap.objs.size h₁ t₁ X₀ (fun x c hc => ⟨fun o e => newC c o e.1 x hc, fun y hy => name_of_addr X₁.apart (mem_of_lookup hy) (mem_of_lookup hc)⟩) _ _ fun v h' tk O' B own ρ X hO hB r => ?_).run
  intro hle'
  refine kk v h' tk ⟨fun b o n e => X.base b o (hB b o ⟨e, n⟩), fun b o e => ?_, X.tabs.less W.tabs fun b q => hO b (.inl q)⟩ hle' (r.less fun b q => hO b (.inl q))
  by_cases q : isTab Z b
  · obtain ⟨t, ht, rfl⟩ := q
    obtain ⟨_, ps, g, _⟩ := X.tabs t ht
    exact ⟨_, g⟩
  · exact ⟨o, X.base b o (hB b o ⟨e, q⟩)⟩
end
end Mine

open PySem PySem.W PyProof.Rows PySem.Calls
set_option Elab.async false
set_option linter.all false
set_option maxRecDepth 100000
namespace Mine
section
variable {Z : Zone} {A : Around} {env : Env} {O : Addr → Prop} {B : Addr → Obj → Prop} {own : List (Addr × List D)} {ρ ρ' : Rho} {s : Shared} {E : Value → Shared → Prop}
theorem St.addB (X : St Z env O B own ρ s) {b : Addr} {o : Obj} (e : s.heap.get? b = some o) (n : ¬ O b) : St Z env O (fun b' o' => B b' o' ∨ (b' = b ∧ o' = o)) own ρ s := { X with
  base := fun b' o' h => h.elim (X.base b' o') fun ⟨p, q⟩ => by subst p; subst q; exact e
  zone := fun b' o' h => .inl (X.zone b' o' h)
  tabB := fun b' o' ht h => h.elim (X.tabB b' o' ht) fun ⟨p, _⟩ => n (p ▸ X.tabs.isO ht)
  LB := fun o' h => h.elim (X.LB o') fun ⟨p, _⟩ => n (p ▸ X.OL)
  ownB := fun p hp o' h => h.elim (X.ownB p hp o') fun ⟨q, _⟩ => n (q ▸ (X.ownd p hp).1) }
/-- what stands behind the def of an inner def -/
structure Made (s : Shared) (O : Addr → Prop) (f c' : Addr) (fo oc : Obj) (qual : PySem.Str) : Prop where
  cr : ∃ vs t, oc.data = .fields vs ∧ vs[1]? = some (.str qual t)
  nf : ¬ O f
  nc : ¬ O c'
theorem Made.code {f c' : Addr} {fo oc : Obj} {qual : PySem.Str} {h : Heap} (m : Made s O f c' fo oc qual) (e : h.get? c' = some oc) : h.CodeRec (.ref c') qual := by
  obtain ⟨vs, t, h1, h2⟩ := m.cr
  exact ⟨c', oc, vs, t, rfl, e, h1, h2⟩
structure ZoneMake (Z : Zone) : Prop extends ZoneOk Z where
  bm : ∃ bm ob, Z.mg "__builtins__" = some (.ref bm) ∧ bm ≠ builtinsNs ∧ Z.H.get? bm = some ob ∧ ob.cls = .type "module" ∧ ob.dict = some builtinsNs ∧ ob.data = .plain
theorem x_def {name : PySem.Str} {params : Arguments} {body : List Stmt} {scope : Scope} {pos : Pos} {rest : List Stmt} {Q : Flow → Shared → Prop} {clos : List (PySem.Str × Addr)} {c : Addr} {q : Tabi}
    (G : ZoneMake Z) (ok : EnvOk env) (X : St Z env O B own ρ s) (hq : q ∈ Z.tl) (hinj : ∀ q' ∈ Z.tl, q'.P = q.P → q' = q) (hcode : env.code = .ref c) (C : CodeHd Z.H c q.P) (hl : q.line = pos.line) (hc : q.col = pos.col) (hqual : qualnameIn env name name = q.qual)
    (hcl : closureFor scope env = pure clos)
    (k : ∀ f c' fo oc doc ctv h' tk, fo = fnMade name q.qual params body scope clos doc ((Z.mg "__name__").getD .none) c' ctv → Made s O f c' fo oc q.qual →
      St Z env O (fun b o => (B b o ∨ (b = c' ∧ o = oc)) ∨ (b = f ∧ o = fo)) own ρ { s with heap := h', toks := tk } →
      wpAny (model Z.prog Z.w) A (storeName env name (.ref f)) (fun _ s'' => Xs Z A rest env Q E s'') E { s with heap := h', toks := tk })
    (hd0 : params.defaults = [] := by rfl) (hk0 : params.kw_defaults = [] := by rfl) (ha : annTrees params none env = [] := by rfl) :
    Xs Z A (.FunctionDef name params body [] none [] scope none name pos :: rest) env Q E s := by
  refine Xs.cons (nestDef_K hd0 hk0 ha ?_)
  obtain ⟨oP, ps, gP, hps⟩ := X.tabs q hq
  have hgs := X.wd.ns G.g
  obtain ⟨bm, ob, b1, b2, b3, b4, b5, b6⟩ := G.bm
  have b3' := X.wd.zone _ _ b3
  have hgP : mainGlobals ≠ q.P := fun z => by
    obtain ⟨o, es, ep, e, hd, _⟩ := hgs
    rw [z, gP] at e; cases e; cases hd
  have hbP : bm ≠ q.P := fun z => by
    rw [z, gP] at b3'; cases b3'; cases b4
  have hbG : bm ≠ mainGlobals := fun z => by
    obtain ⟨o, es, ep, e, hd, _⟩ := hgs
    rw [z, e] at b3'; cases b3'; rw [hd] at b6; cases b6
  have hB : s.heap.BuiltinsAt Z.mg q.P := ⟨bm, ob, b1, b2, hbG, hbP, b3', b4, b5, b6⟩
  have C' : CodeHd s.heap c q.P := C.keeps X.wd.zone
  rw [hqual]
  rcases hps with rfl | ⟨c', rfl, nc', hrec⟩
  · refine wpAny_with_toks (n := s.toks) (Nat.le_refl _) (makeFunction_K (mg := Z.mg) hcl ok.gl hgs hcode C' gP (by exact True.intro) rfl hgP hB fun c' ctv doc h' tk hx hge hlt hrec htb => fun hle => ?_)
    have hrec0 := hrec
    obtain ⟨c₂, oc, vs, t, e2, hoc, hd, hv⟩ := hrec0
    cases e2
    have nc' : ¬ O c' := X.wd.new (Heap.get?_none_of_le hge)
    have hle' : s.heap.objs.size ≤ h'.objs.size := Nat.le_trans hge (Nat.le_of_lt hlt)
    have nf : ¬ O h'.objs.size := X.wd.new (Heap.get?_none_of_le hle')
    have hg : Grow Z O s.heap h' := ⟨fun b o n e => hx b o (fun z => n ⟨q, hq, z⟩) e, fun b o e => by
      by_cases z : b = q.P
      · exact ⟨_, z ▸ htb⟩
      · exact ⟨o, hx b o z e⟩, fun q' hq' => by
      obtain ⟨o1, ps1, g1, r1⟩ := X.tabs q' hq'
      by_cases z : q'.P = q.P
      · refine ⟨o1, _, z ▸ htb, .inr ⟨c', ?_, nc', ?_⟩⟩
        · rw [hinj q' hq' z, hl, hc]; rfl
        · rw [hinj q' hq' z]; exact hrec
      · exact ⟨o1, ps1, hx _ _ z g1, r1.imp id fun ⟨c1, e1, n1, x1⟩ => ⟨c1, e1, n1, CodeRec.up (fun o e => hx _ _ (fun w => n1 (w ▸ oP)) e) x1⟩⟩⟩
    have X₁ := (X.grow hg hle).addB (b := c') (o := oc) hoc nc'
    have g₂ : Grow Z O h' (h'.push (fnMade name q.qual params body scope clos doc ((Z.mg "__name__").getD .none) c' ctv)) := Grow.push hg.2.2 _
    have X₂ := (X₁.grow (tk := tk) g₂ (Nat.le_refl _)).addB (b := h'.objs.size) (Heap.get?_push_size _ rfl) nf
    exact k _ c' _ oc doc ctv _ tk rfl ⟨⟨vs, t, hd, hv⟩, nf, nc'⟩ X₂
  · have hrec0 := hrec
    obtain ⟨c₂, oc, vs, t, e2, hoc, hd, hv⟩ := hrec0
    cases e2
    refine wpAny_with_toks (n := s.toks) (Nat.le_refl _) (makeFunction_hit (mg := Z.mg) (cv := .ref c') hcl ok.gl hgs hcode C' gP (by simp [TriplesOk, rawInt]) (by simp [codeAmong, rawInt, hl, hc]) hB fun ctv doc h' tk hk hsz => fun hle => ?_)
    have nf : ¬ O h'.objs.size := X.wd.new (Heap.get?_none_of_le hsz)
    have hg : Grow Z O s.heap h' := Grow.of X.tabs hk
    have X₁ := (X.grow hg hle).addB (b := c') (o := oc) (hk _ _ hoc) nc'
    have g₂ : Grow Z O h' (h'.push (fnMade name q.qual params body scope clos doc ((Z.mg "__name__").getD .none) c' ctv)) := Grow.push hg.2.2 _
    have X₂ := (X₁.grow (tk := tk) g₂ (Nat.le_refl _)).addB (b := h'.objs.size) (Heap.get?_push_size _ rfl) nf
    exact k _ c' _ oc doc ctv _ tk rfl ⟨⟨vs, t, hd, hv⟩, nf, nc'⟩ X₂
end
end Mine

open PySem PySem.W PyProof.Rows PySem.Calls
set_option Elab.async false
set_option linter.all false
set_option maxRecDepth 100000
namespace Mine
/-- data with no address in it -/
noncomputable def D.flat : D → Bool
  | .none | .bool _ | .int _ | .str _ | .cst _ | .bytes _ => true
  | _ => false
theorem Rep.flat {O O' : Addr → Prop} {h h' : Heap} {T T' : Nat} {d : D} {v : Value} (hf : d.flat = true) (r : Rep O h T d v) (hT : T ≤ T') : Rep O' h' T' d v := by
  cases d <;> first | (simp only [Rep] at r ⊢; exact r) | cases hf | skip
  simp only [Rep] at r ⊢
  obtain ⟨t, e, p, q⟩ := r
  exact ⟨t, e, p, Nat.lt_of_lt_of_le q hT⟩
theorem Reps.flat {O O' : Addr → Prop} {h h' : Heap} {T T' : Nat} (hT : T ≤ T') : ∀ {ds : List D} {vs : List Value}, ds.all D.flat = true → Reps O h T ds vs → Reps O' h' T' ds vs
  | [], _, _, r => by simpa only [Reps] using r
  | d :: ds, _, hf, r => by
    simp only [Reps] at r ⊢
    obtain ⟨v, rs, e, r1, r2⟩ := r
    rw [List.all_cons, Bool.and_eq_true] at hf
    exact ⟨v, rs, e, r1.flat hf.1 hT, Reps.flat hT hf.2 r2⟩
section
variable {Z : Zone} {A : Around} {env : Env} {O : Addr → Prop} {B : Addr → Obj → Prop} {own : List (Addr × List D)} {ρ ρ' : Rho} {s : Shared} {E : Value → Shared → Prop} {h' : Heap} {tk : Nat}
/-- an expression that gives a new list of flat data -/
structure EvNew (Z : Zone) (A : Around) (env : Env) (O : Addr → Prop) (B : Addr → Obj → Prop) (own : List (Addr × List D)) (ρ : Rho) (e : PySem.Expr) (ds : List D) : Prop where
  run : 
    ∀ s, St Z env O B own ρ s → ∀ (Q E : Value → Shared → Prop), (∀ a vs h' tk, Grow Z O s.heap h' → s.toks ≤ tk → s.heap.get? a = none → h'.PlainList a vs.toArray → Reps O h' tk ds vs → Q (.ref a) { s with heap := h', toks := tk }) → wpAny (model Z.prog Z.w) A (eval e env) Q E s
theorem evn_lst {es : List PySem.Expr} {pos : Pos} {ds : List D} (h1 : Evs Z A env O B own ρ pos es ds) (hs : ds.length ≤ sizeLine := by simp [sizeLine]) : EvNew Z A env O B own ρ (.List es pos) ds := .mk fun s X Q E h =>
  wpAny_List (h1.run s X _ _ fun vs h₁ t₁ g₁ le₁ r₁ => ⟨by rw [r₁.length]; exact hs, by
    have W := (X.grow g₁ le₁).wd
    have g₂ := Grow.push (Z := Z) (O := O) (h := h₁) W.tabs { cls := .type "list", data := .seq vs.toArray }
    refine h _ vs _ t₁ (g₁.trans g₂) le₁ ?_ ⟨0, Heap.get?_push_size _ rfl⟩ (r₁.grow g₂ (Nat.le_refl _))
    cases e : s.heap.get? h₁.objs.size with
    | none => rfl
    | some o =>
      obtain ⟨o', e'⟩ := g₁.2.1 _ o e
      rw [get_size] at e'; cases e'⟩)
theorem St.own_new (X : St Z env O B own ρ s) (g : Grow Z O s.heap h') (le : s.toks ≤ tk) {a : Addr} {vs : List Value} {ds : List D} (hn : s.heap.get? a = none) (hl : h'.PlainList a vs.toArray) (hf : ds.all D.flat = true) (r : Reps O h' tk ds vs) :
    St Z env (fun b => O b ∨ b = a) B ((a, ds) :: own) ρ { s with heap := h', toks := tk } := by
  have new : ∀ b o, s.heap.get? b = some o → b ≠ a := fun b o e q => by rw [q, hn] at e; cases e
  have hmore : ∀ b o, s.heap.get? b = some o → (O b ∨ b = a) → O b := fun b o e q => q.elim id fun z => absurd z (new b o e)
  have g' : Grow Z (fun b => O b ∨ b = a) s.heap h' := ⟨g.1, g.2.1, fun q hq => by
    obtain ⟨o, ps, gq, r⟩ := g.2.2 q hq
    refine ⟨.inl o, ps, gq, r.imp id fun ⟨c, e, n, x⟩ => ⟨c, e, fun z => z.elim n fun z => ?_, x⟩⟩
    subst z
    obtain ⟨c', o', vs', t', e', gc, hd', _⟩ := x
    cases e'
    obtain ⟨n', el⟩ := hl
    rw [el] at gc; cases gc; cases hd'⟩
  exact {
    base := (X.grow g le).base
    zone := X.zone
    OH := fun b o hb e => hb.elim (fun q => X.OH b o q e) fun q => new b o (X.base b o (X.zone b o e)) q
    tabB := X.tabB
    LB := X.LB
    ownB := fun p hp => by
      rcases List.mem_cons.mp hp with rfl | hp
      · exact fun o e => new _ o (X.base _ o e) rfl
      · exact X.ownB p hp
    ownD := by
      rw [List.map_cons]
      refine List.nodup_cons.mpr ⟨fun hm => ?_, X.ownD⟩
      obtain ⟨p, hp, e⟩ := List.mem_map.mp hm
      obtain ⟨_, vs', ⟨n', el⟩, _⟩ := X.ownd p hp
      exact new _ _ el e
    Oex := fun b hb => by
      rcases hb with hb | rfl
      · exact (X.grow (tk := tk) g le).Oex b hb
      · obtain ⟨n, e⟩ := hl; exact ⟨_, e⟩
    tabs := g'.2.2
    pos := Nat.lt_of_lt_of_le X.pos le
    OL := .inl X.OL
    loc := by
      obtain ⟨m, hm, rr⟩ := X.loc
      refine ⟨m, Ns.at_ hm fun o e => g.1 _ o (Ns.notTab X.tabs hm) e, fun x d hk hg => ?_⟩
      obtain ⟨v, e, p⟩ := rr x d hk hg
      exact ⟨v, e, (p.more hmore).grow g' le⟩
    cel := fun x c hx hc => by
      obtain ⟨ov, hv, rr⟩ := X.cel x c hx hc
      have hnt := Cell.notTab X.tabs hv
      obtain ⟨o, ho, hd⟩ := hv
      exact ⟨ov, ⟨o, g.1 _ o hnt ho, hd⟩, fun d hg => by obtain ⟨v, e, p⟩ := rr d hg; exact ⟨v, e, (p.more hmore).grow g' le⟩⟩
    ownd := fun p hp => by
      rcases List.mem_cons.mp hp with rfl | hp
      · exact ⟨.inr rfl, vs, hl, r.flat (Nat.le_refl _) hf⟩
      · obtain ⟨ho, vs', hl', rr⟩ := X.ownd p hp
        have hnt := Plain.notTab X.tabs hl'
        obtain ⟨n, e⟩ := hl'
        exact ⟨.inl ho, vs', ⟨n, g.1 _ _ hnt e⟩, (rr.more hmore).grow g' le⟩ }
theorem x_ownLz {x : PySem.Str} {px pos : Pos} {e : PySem.Expr} {ds : List D} {rest : List Stmt} {Q : Flow → Shared → Prop} (X : St Z env O B own ρ s) (hf : env.scope.kind = .function) (hx : env.kindOf x = some .local) (he : EvNew Z A env O B own ρ e ds) (hfl : ds.all D.flat = true)
    (k : ∀ a h' tk, (∀ o, ¬ B a o) → ¬ O a → St Z env (fun b => O b ∨ b = a) B ((a, ds) :: own) ((x, .val (.ref a)) :: ρ) { s with heap := h', toks := tk } → Xs Z A rest env Q E { s with heap := h', toks := tk })
    (hs : swapsWith e (some (.Name x px)) pos.line env = pure false) : Xs Z A (.Assign [.Name x px] e pos :: rest) env Q E s :=
  Xs.cons (wpAny_Assign_Name (he.run s X _ _ fun a vs h₁ t₁ g₁ le₁ hn hl r₁ => by
    have X₁ := X.own_new g₁ le₁ hn hl hfl r₁
    exact sname_local X₁ hf hx (by simp only [Rep]) fun h₂ t₂ _ X₂ => k a h₂ t₂ (fun o e => by rw [X.base a o e] at hn; cases hn) (X.wd.new hn) X₂) hs)
theorem x_ownL {h₀ : Heap} {t₀ : Nat} {x : PySem.Str} {px pos : Pos} {e : PySem.Expr} {ds : List D} {rest : List Stmt} {Q : Flow → Shared → Prop} (X : St Z env O B own ρ { s with heap := h₀, toks := t₀ }) (hf : env.scope.kind = .function) (hx : env.kindOf x = some .local) (he : EvNew Z A env O B own ρ e ds) (hfl : ds.all D.flat = true)
    (k : ∀ a h' tk, (∀ o, ¬ B a o) → ¬ O a → St Z env (fun b => O b ∨ b = a) B ((a, ds) :: own) ((x, .val (.ref a)) :: ρ) { s with heap := h', toks := tk } → Xs Z A rest env Q E { s with heap := h', toks := tk })
    (hs : swapsWith e (some (.Name x px)) pos.line env = pure false := by rfl) : Xs Z A (.Assign [.Name x px] e pos :: rest) env Q E { s with heap := h₀, toks := t₀ } := x_ownLz X hf hx he hfl k hs
theorem x_ownCz {x : PySem.Str} {px pos : Pos} {e : PySem.Expr} {c : Addr} {ds : List D} {rest : List Stmt} {Q : Flow → Shared → Prop} (X : St Z env O B own ρ s) (hf : env.scope.kind = .function) (hx : env.kindOf x = some .cell) (hc : env.cells.lookup x = some c) (hO : O c) (hB : ∀ o, ¬ B c o) (hap : ∀ y, env.cells.lookup y = some c → y = x) (he : EvNew Z A env O B own ρ e ds) (hfl : ds.all D.flat = true)
    (k : ∀ a h' tk, (∀ o, ¬ B a o) → ¬ O a → St Z env (fun b => O b ∨ b = a) B ((a, ds) :: own) ((x, .val (.ref a)) :: ρ) { s with heap := h', toks := tk } → Xs Z A rest env Q E { s with heap := h', toks := tk })
    (hs : swapsWith e (some (.Name x px)) pos.line env = pure false) : Xs Z A (.Assign [.Name x px] e pos :: rest) env Q E s :=
  Xs.cons (wpAny_Assign_Name (he.run s X _ _ fun a vs h₁ t₁ g₁ le₁ hn hl r₁ => by
    have X₁ := X.own_new g₁ le₁ hn hl hfl r₁
    exact sname_cell X₁ hf hx hc (by simp only [Rep]) (.inl hO) hB hap fun h₂ t₂ _ X₂ => k a h₂ t₂ (fun o e => by rw [X.base a o e] at hn; cases hn) (X.wd.new hn) X₂) hs)
theorem x_ownC {h₀ : Heap} {t₀ : Nat} {x : PySem.Str} {px pos : Pos} {e : PySem.Expr} {c : Addr} {ds : List D} {rest : List Stmt} {Q : Flow → Shared → Prop} (X : St Z env O B own ρ { s with heap := h₀, toks := t₀ }) (hf : env.scope.kind = .function) (hx : env.kindOf x = some .cell) (hc : env.cells.lookup x = some c) (hO : O c) (hB : ∀ o, ¬ B c o) (hap : ∀ y, env.cells.lookup y = some c → y = x) (he : EvNew Z A env O B own ρ e ds) (hfl : ds.all D.flat = true)
    (k : ∀ a h' tk, (∀ o, ¬ B a o) → ¬ O a → St Z env (fun b => O b ∨ b = a) B ((a, ds) :: own) ((x, .val (.ref a)) :: ρ) { s with heap := h', toks := tk } → Xs Z A rest env Q E { s with heap := h', toks := tk })
    (hs : swapsWith e (some (.Name x px)) pos.line env = pure false := by rfl) : Xs Z A (.Assign [.Name x px] e pos :: rest) env Q E { s with heap := h₀, toks := t₀ } := x_ownCz X hf hx hc hO hB hap he hfl k hs
/-- one of the own lists is turned -/
theorem St.own_upd {own₁ own₂ : List (Addr × List D)} {a : Addr} {ds ds' : List D} {vs' : List Value} (X : St Z env O B (own₁ ++ (a, ds) :: own₂) ρ s) (k : Heap.SameBut a s.heap h') (le : s.toks ≤ tk) (hl : h'.PlainList a vs'.toArray) (r : Reps O s.heap s.toks ds' vs') :
    St Z env O B (own₁ ++ (a, ds') :: own₂) ρ { s with heap := h', toks := tk } := by
  have hm : (a, ds) ∈ own₁ ++ (a, ds) :: own₂ := List.mem_append_right _ (.head _)
  obtain ⟨hO, vs, hl0, _⟩ := X.ownd _ hm
  have ke := k.extBut
  have nt := Plain.notTab X.tabs hl0
  obtain ⟨n0, e0⟩ := hl0
  exact { X with
    base := fun b o e => ke b o (fun q => X.ownB _ hm o (q ▸ e)) (X.base b o e)
    ownB := fun p hp => by
      rcases List.mem_append.mp hp with hp | hp
      · exact X.ownB p (List.mem_append_left _ hp)
      · rcases List.mem_cons.mp hp with rfl | hp
        · exact X.ownB (a, ds) hm
        · exact X.ownB p (List.mem_append_right _ (.tail _ hp))
    ownD := by have := X.ownD; simpa using this
    Oex := fun b hb => by
      obtain ⟨o, e⟩ := X.Oex b hb
      by_cases q : b = a
      · obtain ⟨n, e'⟩ := hl; exact ⟨_, q ▸ e'⟩
      · exact ⟨o, ke b o q e⟩
    tabs := X.tabs.same hO nt ke
    pos := Nat.lt_of_lt_of_le X.pos le
    loc := by
      obtain ⟨m, hL, hm⟩ := X.loc
      have hcL : env.locals ≠ a := by
        intro q
        obtain ⟨o', _, _, e', hd', _⟩ := hL
        rw [q, e0] at e'; cases e'; cases hd'
      exact ⟨m, hL.sameBut k hcL, fun y d' hk hg => by obtain ⟨v', e, r'⟩ := hm y d' hk hg; exact ⟨v', e, r'.same hO ke le⟩⟩
    cel := fun y c' hy hc' => by
      obtain ⟨ov', hv', rr⟩ := X.cel y c' hy hc'
      have q : c' ≠ a := by
        rintro rfl
        obtain ⟨o, ho, hd⟩ := hv'
        rw [e0] at ho; cases ho; cases hd
      exact ⟨ov', hv'.sameBut k q, fun d' hg => by obtain ⟨v', e, r'⟩ := rr d' hg; exact ⟨v', e, r'.same hO ke le⟩⟩
    ownd := fun p hp => by
      have hnd := X.ownD
      rw [List.map_append, List.map_cons] at hnd
      have hne : ∀ p, p ∈ own₁ ∨ p ∈ own₂ → p.1 ≠ a := fun p hp q => by
        rw [List.nodup_append] at hnd
        rcases hp with hp | hp
        · exact hnd.2.2 p.1 (List.mem_map_of_mem hp) a (.head _) q
        · exact (List.nodup_cons.mp hnd.2.1).1 (List.mem_map.mpr ⟨p, hp, q⟩)
      have old : ∀ p, p ∈ own₁ ∨ p ∈ own₂ → O p.1 ∧ ∃ vs, h'.PlainList p.1 vs.toArray ∧ Reps O h' tk p.2 vs := fun p hp => by
        obtain ⟨ho, vs1, hl1, rr⟩ := X.ownd p (hp.elim (List.mem_append_left _) fun h => List.mem_append_right _ (.tail _ h))
        exact ⟨ho, vs1, hl1.extBut ke (hne p hp), rr.same hO ke le⟩
      rcases List.mem_append.mp hp with hp | hp
      · exact old p (.inl hp)
      · rcases List.mem_cons.mp hp with rfl | hp
        · exact ⟨hO, vs', hl, r.same hO ke le⟩
        · exact old p (.inr hp) }
end
end Mine

open PySem PySem.W PyProof.Rows PySem.Calls
set_option Elab.async false
set_option linter.all false
set_option maxRecDepth 100000
namespace Mine
theorem Reps.at {O : Addr → Prop} {h : Heap} {T : Nat} : ∀ {ds : List D} {vs : List Value} {i : Nat} {d : D}, Reps O h T ds vs → ds[i]? = some d → ∃ v, vs[i]? = some v ∧ Rep O h T d v
  | [], _, i, d, _, e => by simp at e
  | d0 :: ds, vs, i, d, r, e => by
    simp only [Reps] at r
    obtain ⟨v, rs, rfl, r1, r2⟩ := r
    cases i with
    | zero => simp at e; subst e; exact ⟨v, rfl, r1⟩
    | succ i => obtain ⟨v', e', r'⟩ := Reps.at r2 (by simpa using e); exact ⟨v', by simpa using e', r'⟩
theorem Reps.set {O : Addr → Prop} {h : Heap} {T : Nat} {d : D} {v : Value} (rd : Rep O h T d v) : ∀ {ds : List D} {vs : List Value} (i : Nat), Reps O h T ds vs → Reps O h T (ds.set i d) (vs.set i v)
  | [], _, i, r => by simp only [Reps] at r; subst r; simp [Reps]
  | d0 :: ds, vs, i, r => by
    simp only [Reps] at r
    obtain ⟨v0, rs, rfl, r1, r2⟩ := r
    cases i with
    | zero => simp only [List.set_cons_zero, Reps]; exact ⟨v, rs, rfl, rd, r2⟩
    | succ i => simp only [List.set_cons_succ, Reps]; exact ⟨v0, _, rfl, r1, Reps.set rd i r2⟩
section
variable {Z : Zone} {A : Around} {env : Env} {O : Addr → Prop} {B : Addr → Obj → Prop} {own : List (Addr × List D)} {ρ ρ' : Rho} {s : Shared} {E : Value → Shared → Prop} {h' : Heap} {tk : Nat}

theorem slot_lg : typeLookup (.type "list") "__getitem__" = pure (some (.builtin "list.__getitem__")) := slot_list_getitem.lookup
/-- items -/
theorem ev_sub {e i : PySem.Expr} {pos : Pos} {d0 d1 d : D} (h1 : Ev Z A env O B own ρ e d0) (h2 : Ev Z A env O B own ρ i d1)
    (hc : ∀ s v w, St Z env O B own ρ s → Rep O s.heap s.toks d0 v → Rep O s.heap s.toks d1 w → Cp Z A O (subscriptTail e i v w) s d) : Ev Z A env O B own ρ (.Subscript e i pos) d := .mk fun s X Q E k =>
  PyProof.Rows.Subscript_ (h1.run s X _ _ fun v h₁ t₁ g₁ le₁ r₁ => h2.run _ (X.grow g₁ le₁) _ _ fun w h₂ t₂ g₂ le₂ r₂ =>
    hc _ v w ((X.grow g₁ le₁).grow g₂ le₂) (r₁.grow g₂ le₂) r₂ _ _ fun v h₃ t₃ g₃ le₃ r₃ => k v h₃ t₃ ((g₁.trans g₂).trans g₃) (Nat.le_trans (Nat.le_trans le₁ le₂) le₃) r₃)
theorem ev_item {e i : PySem.Expr} {pos : Pos} {ds : List D} {k : Int} {d : D} (h1 : Ev Z A env O B own ρ e (.lst ds)) (h2 : Ev Z A env O B own ρ i (.int k)) (h0 : 0 ≤ k) (hfit : k < 2 ^ 63) (hd : ds[k.toNat]? = some d)
    (hs : ∀ a u, subscripted i false (.ref a) (.int k u) = operate [.ref a, .int k u] (getItem (.ref a) (.int k u)) := by intro a u; rfl) : Ev Z A env O B own ρ (.Subscript e i pos) d :=
  ev_sub h1 h2 fun s v w X r1 r2 Q E kk => by
    simp only [Rep] at r1 r2
    obtain ⟨a, vs, rfl, no, hl, rs⟩ := r1
    obtain ⟨u, rfl⟩ := r2
    obtain ⟨x, hx, rx⟩ := rs.at hd
    exact tail_any hl.typeIs slot_lg (wpAny_getItem_list hl h0 hfit (by simpa using hx) (kk x s.heap s.toks (Grow.refl X.tabs) (Nat.le_refl _) rx)) (hs a u)
theorem ev_itemO {e i : PySem.Expr} {pos : Pos} {a : Addr} {ds : List D} {k : Int} {d : D} (h1 : Ev Z A env O B own ρ e (.val (.ref a))) (hm : (a, ds) ∈ own) (h2 : Ev Z A env O B own ρ i (.int k)) (h0 : 0 ≤ k) (hfit : k < 2 ^ 63) (hd : ds[k.toNat]? = some d)
    (hs : ∀ a u, subscripted i false (.ref a) (.int k u) = operate [.ref a, .int k u] (getItem (.ref a) (.int k u)) := by intro a u; rfl) : Ev Z A env O B own ρ (.Subscript e i pos) d :=
  ev_sub h1 h2 fun s v w X r1 r2 Q E kk => by
    simp only [Rep] at r1 r2
    subst r1
    obtain ⟨_, vs, hl, rs⟩ := X.ownd _ hm
    obtain ⟨u, rfl⟩ := r2
    obtain ⟨x, hx, rx⟩ := rs.at hd
    exact tail_any hl.isList.typeIs slot_lg (wpAny_getItem_list hl.isList h0 hfit (by simpa using hx) (kk x s.heap s.toks (Grow.refl X.tabs) (Nat.le_refl _) rx)) (hs a u)
/-- the last item of an own list: x[-1] -/
theorem ev_lastO {e i : PySem.Expr} {pos : Pos} {a : Addr} {ds : List D} {d : D} (h1 : Ev Z A env O B own ρ e (.val (.ref a))) (hm : (a, ds) ∈ own) (h2 : Ev Z A env O B own ρ i (.int (-1))) (hd : ds[ds.length - 1]? = some d)
    (hs : ∀ a u, subscripted i false (.ref a) (.int (-1) u) = operate [.ref a, .int (-1) u] (getItem (.ref a) (.int (-1) u)) := by intro a u; rfl) : Ev Z A env O B own ρ (.Subscript e i pos) d :=
  ev_sub h1 h2 fun s v w X r1 r2 Q E kk => by
    simp only [Rep] at r1 r2
    subst r1
    obtain ⟨_, vs, hl, rs⟩ := X.ownd _ hm
    obtain ⟨u, rfl⟩ := r2
    obtain ⟨x, hx, rx⟩ := rs.at hd
    have hn : vs.length = ds.length := rs.length
    have hpos : 0 < ds.length := by cases ds with | nil => simp at hd | cons => simp
    exact tail_any hl.isList.typeIs slot_lg (wpAny_getItem_list_neg hl.isList (by decide) (by simp only [List.size_toArray]; omega) (by decide) (by rw [show ((-1 : Int) + (vs.toArray.size : Nat)).toNat = ds.length - 1 by rw [List.size_toArray, hn]; exact neg_one hpos]; simpa using hx) (kk x s.heap s.toks (Grow.refl X.tabs) (Nat.le_refl _) rx)) (hs a u)
theorem ev_itemT {e i : PySem.Expr} {pos : Pos} {ds : List D} {k : Int} {d : D} (h1 : Ev Z A env O B own ρ e (.tup ds)) (h2 : Ev Z A env O B own ρ i (.int k)) (h0 : 0 ≤ k) (hfit : k < 2 ^ 63) (hd : ds[k.toNat]? = some d)
    (hs : ∀ a u, subscripted i false (.ref a) (.int k u) = operate [.ref a, .int k u] (getItem (.ref a) (.int k u)) := by intro a u; rfl) : Ev Z A env O B own ρ (.Subscript e i pos) d :=
  ev_sub h1 h2 fun s v w X r1 r2 Q E kk => by
    simp only [Rep] at r1 r2
    obtain ⟨a, vs, rfl, no, hl, rs⟩ := r1
    obtain ⟨u, rfl⟩ := r2
    obtain ⟨x, hx, rx⟩ := rs.at hd
    have hn := rs.length
    have hlt : k.toNat < ds.length := (List.getElem?_eq_some_iff.mp hd).1
    refine item_tupleT (j := k.toNat) hl.isTup (Int.le_trans (by decide) h0) hfit ?_ hx (kk x s.heap s.toks (Grow.refl X.tabs) (Nat.le_refl _) rx) (hs a u)
    unfold seqIndex?
    rw [hn]
    simp only [if_neg (Int.not_lt.mpr h0)]
    simp
    omega
/-- len -/
theorem ev_len {f e : PySem.Expr} {pos : Pos} {ds : List D} (hf : Ev Z A env O B own ρ f (.val (.builtin "len"))) (h1 : Ev Z A env O B own ρ e (.lst ds)) (hfit : (ds.length : Int) < 2 ^ 63)
    (he : eval (.Call f [e] [] pos) env = (do callWith pos (← eval f env) [] (backTo pos (starEach [e] env)) (backToKw pos (keywordEach [] env))) := by rfl) (s1 : starEach [e] env = (false, eval e env) :: starEach [] env := by rfl) :
    Ev Z A env O B own ρ (.Call f [e] [] pos) (.int ds.length) :=
  ev_call hf (evs_cons h1 evs_nil s1) (fun s vs W r Q E k => by
    simp only [Reps, Rep] at r
    obtain ⟨_, _, rfl, ⟨a, vs, rfl, no, hl, rs⟩, rfl⟩ := r
    have hn := rs.length
    refine PyProof.Rows.len_list hl (by simpa [hn] using hfit) (k _ s.heap _ (Grow.refl W.tabs) (Nat.le_add_right _ 2) ?_)
    simp only [Rep, List.size_toArray, hn]
    exact ⟨_, rfl⟩) he s1 rfl
theorem ev_lenO {f e : PySem.Expr} {pos : Pos} {a : Addr} {ds : List D} (hf : Ev Z A env O B own ρ f (.val (.builtin "len"))) (h1 : Ev Z A env O B own ρ e (.val (.ref a))) (hm : (a, ds) ∈ own) (hfit : (ds.length : Int) < 2 ^ 63)
    (he : eval (.Call f [e] [] pos) env = (do callWith pos (← eval f env) [] (backTo pos (starEach [e] env)) (backToKw pos (keywordEach [] env))) := by rfl) (s1 : starEach [e] env = (false, eval e env) :: starEach [] env := by rfl) :
    Ev Z A env O B own ρ (.Call f [e] [] pos) (.int ds.length) := .mk fun s X Q E k => by
  rw [he]
  refine wpAny_bind (hf.run s X _ _ fun v h₁ t₁ g₁ le₁ r₁ => ?_)
  simp only [Rep] at r₁
  subst r₁
  refine PyProof.Rows.callWith_builtin1 ((evs_cons (pos := pos) h1 evs_nil s1).run _ (X.grow g₁ le₁) _ _ fun vs h₂ t₂ g₂ le₂ r₂ => ?_) s1 rfl
  simp only [Reps, Rep] at r₂
  obtain ⟨_, _, rfl, rfl, rfl⟩ := r₂
  have X₂ := (X.grow g₁ le₁).grow g₂ le₂
  obtain ⟨_, ws, hl, rs⟩ := X₂.ownd _ hm
  have hn := rs.length
  refine PyProof.Rows.len_list hl.isList (by simpa [hn] using hfit) (k _ h₂ _ (g₁.trans g₂) (Nat.le_trans (Nat.le_trans le₁ le₂) (Nat.le_add_right _ 2)) ?_)
  simp only [Rep, List.size_toArray, hn]
  exact ⟨_, rfl⟩
/-- [x] * n as a new list -/
theorem foldl_rep {v : Value} : ∀ (n : Nat) (acc : Array Value), (List.replicate n #[v]).foldl (fun x1 x2 => x1 ++ x2) acc = acc ++ (List.replicate n v).toArray
  | 0, acc => by simp
  | n + 1, acc => by rw [List.replicate_succ, List.foldl_cons, foldl_rep n, List.replicate_succ]; apply Array.toList_inj.mp; simp
theorem Reps.replicate {h : Heap} {T : Nat} {d : D} {v : Value} (r : Rep O h T d v) : ∀ n, Reps O h T (List.replicate n d) (List.replicate n v)
  | 0 => by simp [Reps]
  | n + 1 => by rw [List.replicate_succ, List.replicate_succ]; simp only [Reps]; exact ⟨v, _, rfl, r, Reps.replicate r n⟩
theorem evn_mul {l r : PySem.Expr} {pos : Pos} {d : D} {n : Int} (h1 : EvNew Z A env O B own ρ l [d]) (h2 : Ev Z A env O B own ρ r (.int n)) (h0 : 0 ≤ n) (hn : n ≤ 2 ^ 24) : EvNew Z A env O B own ρ (.BinOp l .Mult r pos) (List.replicate n.toNat d) := .mk fun s X Q E k =>
  wpAny_BinOp (h1.run s X _ _ fun a vs h₁ t₁ g₁ le₁ hna hl r₁ => by
    have X₁ := X.grow g₁ le₁
    refine h2.run _ X₁ _ _ fun v h₂ t₂ g₂ le₂ r₂ => ?_
    simp only [Rep] at r₂
    obtain ⟨u, rfl⟩ := r₂
    have X₂ := X₁.grow g₂ le₂
    have r₁' := r₁.grow g₂ le₂
    simp only [Reps] at r₁'
    obtain ⟨v0, _, rfl, rv, rfl⟩ := r₁'
    have hnt := Plain.notTab X₁.tabs hl
    obtain ⟨kk, e1⟩ := hl
    have e2 := g₂.1 _ _ hnt e1
    have hi : (if (#[v0] : Array Value).isEmpty = true then 0 else n.toNat) = n.toNat := rfl
    have g₃ := Grow.push (Z := Z) (O := O) (h := h₂) X₂.tabs { cls := .type "list", data := .seq (List.foldl (fun x1 x2 => x1 ++ x2) #[] (List.replicate n.toNat #[v0])) }
    refine wpAny_binaryOp_repeat_ref (T := "list") (U := "int") (by decide) ⟨_, e2, rfl⟩ (fun s' => typeIs_int s' n u) noFill_list_mul F.fills_int_mul F.slot_int_rmul repeat_list F.slot_int_index.lookup
      (call_meets F.slot_int_rmul (typeIs_int _ n u) F.entry_int_rmul (F.args_int_rmul_2 _ _) (int___rmul___int_list n u a #[v0] kk)
        ⟨e2, rfl, ⟨_, e2, rfl⟩, call_meets F.slot_list_mul ⟨_, e2, rfl⟩ F.entry_list_mul (F.args_list_mul_2 _ _)
          (AutoListH.list___mul___list_int_3 a #[v0] kk n u (by simp [Builtin.List.listFitsIndex]; omega) (by simp; omega) (by simp [Builtin.List.listTooLong, sizeLine]; omega))
          ⟨e2, ?_⟩⟩)
    refine k _ (List.replicate n.toNat v0) _ _ ((g₁.trans g₂).trans g₃) (Nat.le_trans le₁ le₂) ?_ ⟨0, ?_⟩ ((Reps.replicate rv n.toNat).grow g₃ (Nat.le_refl _))
    · cases e : s.heap.get? h₂.objs.size with
      | none => rfl
      | some o =>
        obtain ⟨o', e'⟩ := (g₁.trans g₂).2.1 _ o e
        rw [get_size] at e'; cases e'
    · rw [Heap.get?_push_size _ rfl]
      have := foldl_rep (v := v0) n.toNat #[]
      simp only [hi]
      rw [this]
      simp)

/-- a list that the def owns is turned: an item, append, reverse -/
theorem x_setOz {o i value : PySem.Expr} {p' pos : Pos} {own₁ own₂ : List (Addr × List D)} {a : Addr} {ds : List D} {k : Int} {d : D} {rest : List Stmt} {Q : Flow → Shared → Prop} (X : St Z env O B (own₁ ++ (a, ds) :: own₂) ρ s)
    (hv : Ev Z A env O B (own₁ ++ (a, ds) :: own₂) ρ value d) (ho : Ev Z A env O B (own₁ ++ (a, ds) :: own₂) ρ o (.val (.ref a))) (hi : Ev Z A env O B (own₁ ++ (a, ds) :: own₂) ρ i (.int k)) (h0 : 0 ≤ k) (hfit : k < 2 ^ 63) (hn : k < ds.length)
    (kk : ∀ h' tk, St Z env O B (own₁ ++ (a, ds.set k.toNat d) :: own₂) ρ { s with heap := h', toks := tk } → Xs Z A rest env Q E { s with heap := h', toks := tk })
    (hs : swapsWith value (some (.Subscript o i p')) pos.line env = pure false) : Xs Z A (.Assign [.Subscript o i p'] value pos :: rest) env Q E s :=
  Xs.cons (wpAny_Assign_Subscript (hv.run s X _ _ fun v h₁ t₁ g₁ le₁ r₁ => ho.run _ (X.grow g₁ le₁) _ _ fun ov h₂ t₂ g₂ le₂ r₂ => hi.run _ ((X.grow g₁ le₁).grow g₂ le₂) _ _ fun iv h₃ t₃ g₃ le₃ r₃ => by
    have X₃ := ((X.grow g₁ le₁).grow g₂ le₂).grow g₃ le₃
    have rv := (r₁.grow g₂ le₂).grow g₃ le₃
    simp only [Rep] at r₂ r₃
    subst r₂
    obtain ⟨u, rfl⟩ := r₃
    obtain ⟨_, vs, hl, rs⟩ := X₃.ownd (a, ds) (List.mem_append_right _ (.head _))
    have hlen := rs.length
    obtain ⟨n, e⟩ := hl
    refine ki_setAt (items := vs.toArray) (n := n) e h0 hfit (by simpa [hlen] using hn) ?_
    have hm : Obj.mapSeq (·.setIfInBounds k.toNat v) { cls := .type "list", data := .seq vs.toArray n } = { cls := .type "list", data := .seq (vs.set k.toNat v).toArray n } := by simp [Obj.mapSeq]
    have X₄ := X₃.own_upd (h' := h₃.update a (Obj.mapSeq (·.setIfInBounds k.toNat v))) (ds' := ds.set k.toNat d) (tk := t₃) (vs' := vs.set k.toNat v) (Heap.SameBut.update ..) (Nat.le_refl _) ⟨n, by rw [Heap.get?_update_self _ e (by rw [hm]; rfl), hm]⟩ (Reps.set rv _ rs)
    exact kk _ t₃ X₄) hs)
theorem x_setO {h₀ : Heap} {t₀ : Nat} {o i value : PySem.Expr} {p' pos : Pos} {own₁ own₂ : List (Addr × List D)} {a : Addr} {ds : List D} {k : Int} {d : D} {rest : List Stmt} {Q : Flow → Shared → Prop} (X : St Z env O B (own₁ ++ (a, ds) :: own₂) ρ { s with heap := h₀, toks := t₀ })
    (hv : Ev Z A env O B (own₁ ++ (a, ds) :: own₂) ρ value d) (ho : Ev Z A env O B (own₁ ++ (a, ds) :: own₂) ρ o (.val (.ref a))) (hi : Ev Z A env O B (own₁ ++ (a, ds) :: own₂) ρ i (.int k)) (h0 : 0 ≤ k) (hfit : k < 2 ^ 63) (hn : k < ds.length)
    (kk : ∀ h' tk, St Z env O B (own₁ ++ (a, ds.set k.toNat d) :: own₂) ρ { s with heap := h', toks := tk } → Xs Z A rest env Q E { s with heap := h', toks := tk })
    (hs : swapsWith value (some (.Subscript o i p')) pos.line env = pure false := by rfl) : Xs Z A (.Assign [.Subscript o i p'] value pos :: rest) env Q E { s with heap := h₀, toks := t₀ } := x_setOz X hv ho hi h0 hfit hn kk hs
theorem x_appOz {o e : PySem.Expr} {apos cpos pos : Pos} {own₁ own₂ : List (Addr × List D)} {a : Addr} {ds : List D} {d : D} {pl : Sem Bool} {rest : List Stmt} {Q : Flow → Shared → Prop} (X : St Z env O B (own₁ ++ (a, ds) :: own₂) ρ s)
    (ho : Ev Z A env O B (own₁ ++ (a, ds) :: own₂) ρ o (.val (.ref a))) (hv : Ev Z A env O B (own₁ ++ (a, ds) :: own₂) ρ e d) (hz : ds.length ≤ sizeLine)
    (kk : ∀ h' tk, St Z env O B (own₁ ++ (a, ds ++ [d]) :: own₂) ρ { s with heap := h', toks := tk } → Xs Z A rest env Q E { s with heap := h', toks := tk })
    (hi : interactive env = false) (hs : swapsWith (.Call (.Attribute o (Str.ofString "append") apos) [e] [] cpos) none pos.line env = pure false)
    (he : eval (.Call (.Attribute o (Str.ofString "append") apos) [e] [] cpos) env = (do
      let ov ← eval o env
      standAt apos.atName
      let (f, first) ← holding [ov] (getMethod ov (Str.ofString "append") pl)
      callWith cpos f first (backTo cpos (starEach [e] env)) [])) (s1 : starEach [e] env = (false, eval e env) :: starEach [] env) :
    Xs Z A (.Expr (.Call (.Attribute o (Str.ofString "append") apos) [e] [] cpos) pos :: rest) env Q E s := by
  refine Xs.cons (wpAny_Expr ?_ hi hs)
  refine MethodCall_ (pl := pl) (ho.run s X _ _ fun v h₁ t₁ g₁ le₁ r₁ => ?_) he
  simp only [Rep] at r₁
  subst r₁
  have X₁ := X.grow g₁ le₁
  obtain ⟨_, vs, ⟨n, e1⟩, rs⟩ := X₁.ownd (a, ds) (List.mem_append_right _ (.head _))
  refine getMethod_list_append e1 rfl rfl ?_
  have ha2 := (evs_cons (pos := cpos) hv evs_nil s1).run _ X₁
  rw [s1] at ha2 ⊢
  refine callWith_builtin rfl ?_
  refine evalArgs_plain (x := eval e env) (rest := []) ?_
  refine ha2 _ _ fun ws h₂ t₂ g₂ le₂ r₂ => ?_
  simp only [Reps] at r₂
  obtain ⟨w, _, rfl, rw_, rfl⟩ := r₂
  have X₂ := X₁.grow g₂ le₂
  obtain ⟨_, vs2, hl2, rs2⟩ := X₂.ownd (a, ds) (List.mem_append_right _ (.head _))
  have hlen := rs2.length
  refine wpAny_list_append_plain hl2 (fun h₃ hl₃ hs₃ => ?_) (by simpa [hlen] using hz)
  have X₄ := X₂.own_upd (ds' := ds ++ [d]) (tk := t₂) (vs' := vs2 ++ [w]) hs₃ (Nat.le_refl _) (by simpa using hl₃) (Reps.append rs2 (by simp only [Reps]; exact ⟨w, [], rfl, rw_, rfl⟩))
  exact kk h₃ t₂ X₄
theorem x_appO {h₀ : Heap} {t₀ : Nat} {o e : PySem.Expr} {apos cpos pos : Pos} {own₁ own₂ : List (Addr × List D)} {a : Addr} {ds : List D} {d : D} {pl : Sem Bool} {rest : List Stmt} {Q : Flow → Shared → Prop} (X : St Z env O B (own₁ ++ (a, ds) :: own₂) ρ { s with heap := h₀, toks := t₀ })
    (ho : Ev Z A env O B (own₁ ++ (a, ds) :: own₂) ρ o (.val (.ref a))) (hv : Ev Z A env O B (own₁ ++ (a, ds) :: own₂) ρ e d) (hz : ds.length ≤ sizeLine)
    (kk : ∀ h' tk, St Z env O B (own₁ ++ (a, ds ++ [d]) :: own₂) ρ { s with heap := h', toks := tk } → Xs Z A rest env Q E { s with heap := h', toks := tk })
    (hi : interactive env = false := by rfl) (hs : swapsWith (.Call (.Attribute o (Str.ofString "append") apos) [e] [] cpos) none pos.line env = pure false := by rfl)
    (he : eval (.Call (.Attribute o (Str.ofString "append") apos) [e] [] cpos) env = (do
      let ov ← eval o env
      standAt apos.atName
      let (f, first) ← holding [ov] (getMethod ov (Str.ofString "append") pl)
      callWith cpos f first (backTo cpos (starEach [e] env)) []) := by rfl) (s1 : starEach [e] env = (false, eval e env) :: starEach [] env := by rfl) :
    Xs Z A (.Expr (.Call (.Attribute o (Str.ofString "append") apos) [e] [] cpos) pos :: rest) env Q E { s with heap := h₀, toks := t₀ } := x_appOz X ho hv hz kk hi hs he s1
theorem x_revOz {o : PySem.Expr} {apos cpos pos : Pos} {own₁ own₂ : List (Addr × List D)} {a : Addr} {ds : List D} {pl : Sem Bool} {rest : List Stmt} {Q : Flow → Shared → Prop} (X : St Z env O B (own₁ ++ (a, ds) :: own₂) ρ s)
    (ho : Ev Z A env O B (own₁ ++ (a, ds) :: own₂) ρ o (.val (.ref a))) (hz : ds.length ≤ sizeLine)
    (kk : ∀ h' tk, St Z env O B (own₁ ++ (a, ds.reverse) :: own₂) ρ { s with heap := h', toks := tk } → Xs Z A rest env Q E { s with heap := h', toks := tk })
    (hi : interactive env = false) (hs : swapsWith (.Call (.Attribute o (Str.ofString "reverse") apos) [] [] cpos) none pos.line env = pure false)
    (he : eval (.Call (.Attribute o (Str.ofString "reverse") apos) [] [] cpos) env = (do
      let ov ← eval o env
      standAt apos.atName
      let (f, first) ← holding [ov] (getMethod ov (Str.ofString "reverse") pl)
      callWith cpos f first (backTo cpos (starEach [] env)) [])) :
    Xs Z A (.Expr (.Call (.Attribute o (Str.ofString "reverse") apos) [] [] cpos) pos :: rest) env Q E s := by
  refine Xs.cons (wpAny_Expr ?_ hi hs)
  refine MethodCall_ (pl := pl) (ho.run s X _ _ fun v h₁ t₁ g₁ le₁ r₁ => ?_) he
  simp only [Rep] at r₁
  subst r₁
  have X₁ := X.grow g₁ le₁
  obtain ⟨_, vs, ⟨n, e1⟩, rs⟩ := X₁.ownd (a, ds) (List.mem_append_right _ (.head _))
  have hlen := rs.length
  refine getMethod_list_of F.slot_list_reverse F.type_list_reverse (⟨_, e1, rfl, n, rfl⟩ : Heap.IsList _ _ vs.toArray) ?_ ?_
  · exact ⟨_, e1, rfl⟩
  refine PyProof.Rows.callWith_method0 ?_
  have hm : Obj.mapSeq (fun x => x.reverse) { cls := .type "list", data := .seq vs.toArray n } = { cls := .type "list", data := .seq vs.reverse.toArray n } := by simp [Obj.mapSeq]
  refine call_meets F.slot_list_reverse ⟨_, e1, rfl⟩ F.entry_list_reverse (F.args_list_reverse_1 _) (AutoSeq1.list_reverse_list_0 a vs.toArray n (by simpa [hlen] using hz)) ⟨e1, ?_⟩
  have X₄ := X₁.own_upd (h' := h₁.update a (Obj.mapSeq (fun x => x.reverse))) (ds' := ds.reverse) (tk := t₁) (vs' := vs.reverse) (Heap.SameBut.update ..) (Nat.le_refl _) ⟨n, by rw [Heap.get?_update_self _ e1 (by rw [hm]; rfl), hm]⟩ rs.reverse
  exact kk _ t₁ X₄
theorem x_revO {h₀ : Heap} {t₀ : Nat} {o : PySem.Expr} {apos cpos pos : Pos} {own₁ own₂ : List (Addr × List D)} {a : Addr} {ds : List D} {pl : Sem Bool} {rest : List Stmt} {Q : Flow → Shared → Prop} (X : St Z env O B (own₁ ++ (a, ds) :: own₂) ρ { s with heap := h₀, toks := t₀ })
    (ho : Ev Z A env O B (own₁ ++ (a, ds) :: own₂) ρ o (.val (.ref a))) (hz : ds.length ≤ sizeLine)
    (kk : ∀ h' tk, St Z env O B (own₁ ++ (a, ds.reverse) :: own₂) ρ { s with heap := h', toks := tk } → Xs Z A rest env Q E { s with heap := h', toks := tk })
    (hi : interactive env = false := by rfl) (hs : swapsWith (.Call (.Attribute o (Str.ofString "reverse") apos) [] [] cpos) none pos.line env = pure false := by rfl)
    (he : eval (.Call (.Attribute o (Str.ofString "reverse") apos) [] [] cpos) env = (do
      let ov ← eval o env
      standAt apos.atName
      let (f, first) ← holding [ov] (getMethod ov (Str.ofString "reverse") pl)
      callWith cpos f first (backTo cpos (starEach [] env)) []) := by rfl) :
    Xs Z A (.Expr (.Call (.Attribute o (Str.ofString "reverse") apos) [] [] cpos) pos :: rest) env Q E { s with heap := h₀, toks := t₀ } := x_revOz X ho hz kk hi hs he
end
end Mine

open PySem PySem.W PyProof.Rows PySem.Calls
set_option Elab.async false
set_option linter.all false
set_option maxRecDepth 100000
namespace Mine
structure ZL (Z : Zone) : Prop extends ZK Z where
  bm : ∃ bm ob, Z.mg "__builtins__" = some (.ref bm) ∧ bm ≠ builtinsNs ∧ Z.H.get? bm = some ob ∧ ob.cls = .type "module" ∧ ob.dict = some builtinsNs ∧ ob.data = .plain
  tl : Z.tl = [⟨54, 48, 4, "_digits2int.<locals>.inner"⟩, ⟨47, 33, 4, "_int2digits.<locals>.inner"⟩]
  C1 : CodeHd Z.H 58 54
  C2 : CodeHd Z.H 51 47
theorem ZL.make {Z : Zone} (G : ZL Z) : ZoneMake Z := ⟨G.toZoneOk, G.bm⟩
theorem ZL.inj {Z : Zone} (G : ZL Z) : ∀ q ∈ Z.tl, ∀ q' ∈ Z.tl, q'.P = q.P → q' = q := by
  rw [G.tl]
  intro q hq q' hq' e
  simp only [List.mem_cons, List.not_mem_nil, or_false] at hq hq'
  rcases hq with rfl | rfl <;> rcases hq' with rfl | rfl <;> first | rfl | cases e

/-- the value of digits, the lowest first -/
noncomputable def dsum (n : Nat) : List Int → Int
  | [] => 0
  | d :: ds => d + 2 ^ n * dsum n ds
theorem dsum_append (n : Nat) : ∀ (l r : List Int), dsum n (l ++ r) = dsum n l + 2 ^ (n * l.length) * dsum n r
  | [], r => by simp [dsum]
  | d :: l, r => by
    simp only [List.cons_append, dsum, dsum_append n l r, List.length_cons, Nat.mul_add, Nat.mul_one, Int.pow_add]
    rw [Int.mul_add]
    have : (2 : Int) ^ n * (2 ^ (n * l.length) * dsum n r) = 2 ^ (n * l.length) * 2 ^ n * dsum n r := by
      rw [← Int.mul_assoc, Int.mul_comm (2 ^ n) (2 ^ (n * l.length))]
    omega
theorem dsum_bound (n : Nat) : ∀ {l : List Int}, (∀ d ∈ l, 0 ≤ d ∧ d < 2 ^ n) → 0 ≤ dsum n l ∧ dsum n l < 2 ^ (n * l.length)
  | [], _ => by simp [dsum]
  | d :: l, h => by
    have h1 := h d (.head _)
    have h2 := dsum_bound n fun x hx => h x (.tail _ hx)
    simp only [dsum, List.length_cons, Nat.mul_add, Nat.mul_one, Int.pow_add]
    have hp : (0 : Int) < 2 ^ n := Int.pow_pos (by decide)
    have a1 : 0 ≤ 2 ^ n * dsum n l := Int.mul_nonneg (Int.le_of_lt hp) h2.1
    have a2 : 2 ^ n * (dsum n l + 1) ≤ 2 ^ n * 2 ^ (n * l.length) := Int.mul_le_mul_of_nonneg_left h2.2 (Int.le_of_lt hp)
    rw [Int.mul_add, Int.mul_one] at a2
    rw [Int.mul_comm (2 ^ (n * l.length))]
    omega

section
variable {Z : Zone} {A : Around} {env : Env} {O : Addr → Prop} {B : Addr → Obj → Prop} {own : List (Addr × List D)} {ρ ρ' : Rho} {s : Shared}
abbrev St.theEnv (_ : St Z env O B own ρ s) : Env := env
abbrev St.theO (_ : St Z env O B own ρ s) : Addr → Prop := O
abbrev St.theB (_ : St Z env O B own ρ s) : Addr → Obj → Prop := B
/-- a closure's cells, as they stand -/
noncomputable def CellsAt (O : Addr → Prop) (s : Shared) (clos : List (PySem.Str × Addr)) (ρc : Rho) : Prop :=
  ∀ x c, clos.lookup x = some c → ∃ ov, s.heap.IsCell c ov ∧ ∀ d, get ρc x = some d → ∃ v, ov = some v ∧ Rep O s.heap s.toks d v
theorem get_mem : ∀ {ρ : Rho} {x : PySem.Str} {d : D}, get ρ x = some d → x ∈ ρ.map (·.1)
  | [], x, d, h => by cases h
  | (y, e) :: r, x, d, h => by
    rcases get_put h with ⟨rfl, _⟩ | ⟨_, h⟩
    · exact .head _
    · exact .tail _ (get_mem h)
theorem cells_of {clos : List (PySem.Str × Addr)} {ρc : Rho} (X : St Z env O B own ρ s) (hk : ∀ p ∈ clos, env.kindOf p.1 ≠ some .local ∧ env.cells.lookup p.1 = some p.2) (hs : ∀ p ∈ clos, ∀ d, get ρc p.1 = some d → get ρ p.1 = some d) : CellsAt O s clos ρc := fun x c h => by
  have hm := mem_of_lookup h
  obtain ⟨ov, hv, r⟩ := X.cel x c (hk _ hm).1 (hk _ hm).2
  exact ⟨ov, hv, fun d hg => r d (hs _ hm d hg)⟩
theorem CpCO.nil {c : Code} {d : D} (h : CpCO Z A O [] [] c s d) : CpC Z A O c s d := fun R k => h R fun v h' tk g le r _ => k v h' tk ⟨fun b o n e => g.1 b o n (fun ⟨p, hp, _⟩ => nomatch hp) e, g.2.1, g.2.2⟩ le r
theorem notTab_of (W : Wd Z O s) {b : Addr} {o : Obj} (e : s.heap.get? b = some o) (hn : o.cls ≠ .none) : ¬ isTab Z b := by
  rintro ⟨q, hq, rfl⟩
  obtain ⟨_, ps, g, _⟩ := W.tabs q hq
  rw [e] at g; cases g; exact hn rfl
theorem intBits_of_lt {a : Int} {k : Nat} (h0 : 0 ≤ a) (h : a < 2 ^ k) : Builtin.Int.intBits a ≤ k := intBits_le (na_pow h0 h)
theorem sum_take_drop (l : List Int) {a b c : Nat} (h1 : a ≤ b) (h2 : b ≤ c) : (l.drop a).take (c - a) = (l.drop a).take (b - a) ++ (l.drop b).take (c - b) := by
  rw [← sub_split h1 h2, List.take_add, List.drop_drop, Nat.add_sub_cancel' h1]

noncomputable def nmD : List (PySem.Str × NameKind) := [("L", .local), ("R", .local), ("mid", .local), ("shift", .local), ("digits", .free), ("inner", .free), ("n", .free)]
theorem fn_digits2int (G : ZL Z) {ds : List Int} {n : Nat} (hn : n ≤ 64) (hl : ds.length ≤ 64) (hd : ∀ d ∈ ds, 0 ≤ d ∧ d < 2 ^ n) : Fn Z 59 80 [.lst (ds.map .int), .int n] (.int (dsum n ds)) := .mk <| by
  intro A O s vs hA hdep W r
  have r' := r
  simp only [Reps] at r'
  obtain ⟨v1, _, rfl, r1, v2, _, rfl, r2, rfl⟩ := r'
  refine fn_enterC (ns := ["digits", "n"]) G.toZoneOk W (dep0 hdep) (W.zone _ _ (G.K 59 _ rfl)) rfl (codeRec_of (Frag.In.keeps G.K W.zone) rfl) rfl rfl rfl (fun n x hx => by
    simp only [List.mem_cons, List.not_mem_nil, or_false] at hx
    rcases hx with rfl | rfl <;> exact .inr ⟨rfl, rfl⟩) (by decide) rfl rfl rfl r ?_
  intro L h₁ t₁ X hC Q E k
  have ok := envOk_of X rfl rfl rfl
  refine x_def G.make ok X (q := ⟨54, 48, 4, "_digits2int.<locals>.inner"⟩) (by rw [G.tl]; exact .head _) (G.inj _ (by rw [G.tl]; exact .head _)) rfl G.C1 rfl rfl rfl rfl ?_
  intro f c' fo oc doc ctv h₂ t₂ hfo m X₂
  have hnf : ¬ isTab Z f := fun h => m.nf (X₂.tabs.isO h)
  have hnc : ¬ isTab Z c' := fun h => m.nc (X₂.tabs.isO h)
  have inner : ∀ (k : Nat) (A : Around) (O : Addr → Prop) (s : Shared) (vs : List Value) (Lo Hi : Nat), A.handled = none → A.depth + k < recursionLimit → Hi - Lo ≤ k → Lo < Hi → Hi ≤ ds.length → Wd Z O s → s.heap.get? f = some fo → s.heap.get? c' = some oc →
      CellsAt O s [("n", L + 1 + 1), ("inner", L + 1 + 1 + 1), ("digits", L + 1)] [("digits", .lst (ds.map .int)), ("n", .int n), ("inner", .val (.ref f))] → Reps O s.heap s.toks [.int Lo, .int Hi] vs → CpC Z A O (.call (.ref f) ⟨vs, []⟩) s (.int (dsum n ((ds.drop Lo).take (Hi - Lo)))) := by
    clear r r1 r2 X X₂ hC hA hdep W
    subst hfo
    intro k
    induction k with
    | zero => intros; omega
    | succ k ih =>
      intro A O s vs Lo Hi hA hdep hk hlt hle W hf hoc hcl r
      have r' := r
      simp only [Reps] at r'
      obtain ⟨v1, _, rfl, r1, v2, _, rfl, r2, rfl⟩ := r'
      refine CpCO.nil (fn_enterO (own := []) (own' := []) (ns := ["L", "R"]) (ρc := [("digits", .lst (ds.map .int)), ("n", .int n), ("inner", .val (.ref f))]) G.toZoneOk W (dep0 hdep) hf rfl (m.code hoc) rfl rfl (show ∀ x ∈ nmD, x.2 ≠ .cell by decide) (show ∀ n ∈ [Str.ofString "L", Str.ofString "R"], nmD.lookup n = some .local by decide) (by decide) rfl rfl rfl r rfl (fun _ => rfl)
        (fun x c h => ⟨fun hx => ?_, hcl x c h⟩) (fun x d hx _ hg => ?_) (fun p hp => nomatch hp) List.nodup_nil rfl ?_)
      · have hm := mem_of_lookup h
        simp only [List.mem_cons, List.not_mem_nil, or_false] at hx
        rcases hx with rfl | rfl <;> cases h
      · have hm := get_mem hg
        simp only [List.map_cons, List.map_nil, List.mem_cons, List.not_mem_nil, or_false] at hm
        rcases hm with rfl | rfl | rfl <;> cases hx
      intro L' h₁ t₁ X Q E kk _
      have ok := envOk_of X rfl rfl rfl
      have hfB : StoodO Z [] s.heap f _ := ⟨hf, hnf, fun ⟨p, hp, _⟩ => nomatch hp⟩
      have hoB : StoodO Z [] s.heap c' oc := ⟨hoc, hnc, fun ⟨p, hp, _⟩ => nomatch hp⟩
      have rec_ : ∀ (s' : Shared) (ρ' : Rho) (vs : List Value) (lo hi : Nat), get ρ' "digits" = some (.lst (ds.map .int)) → get ρ' "n" = some (.int n) → get ρ' "inner" = some (.val (.ref f)) → hi - lo ≤ k → lo < hi → hi ≤ ds.length → St Z X.theEnv X.theO X.theB [] ρ' s' → Reps (fun b => O b ∨ b = L') s'.heap s'.toks [.int lo, .int hi] vs → Cp Z (A.deeper X.theEnv) X.theO (call (.ref f) vs) s' (.int (dsum n ((ds.drop lo).take (hi - lo)))) :=
        fun s' ρ' vs lo hi g1 g2 g3 hk' hlt' hle' X' r' => Cp.call (ih _ _ s' vs lo hi hA (dep1 hdep) hk' hlt' hle' X'.wd (X'.base _ _ hfB) (X'.base _ _ hoB) (cells_of X' (fun p hp => by
          simp only [List.mem_cons, List.not_mem_nil, or_false] at hp
          rcases hp with rfl | rfl | rfl <;> exact ⟨(by intro e; cases e), rfl⟩) (fun p hp d hg => by
          simp only [List.mem_cons, List.not_mem_nil, or_false] at hp
          rcases hp with rfl | rfl | rfl
          · exact g2.trans hg
          · exact g3.trans hg
          · exact g1.trans hg)) r')
      refine x_if X (tst_cmp (ev_bin (ev_local rfl) ev_int op_add) (ev_local rfl) op_eqi) fun h₂ t₂ X₂ => ?_
      by_cases he : Lo + 1 = Hi
      · have hb : ((Lo : Int) + 1 == Hi) = true := beq_t he
        rw [hb]
        subst he
        have h0 : (ds.drop Lo).take (Lo + 1 - Lo) = [ds[Lo]] := by
          rw [Nat.add_sub_cancel_left, List.drop_eq_getElem_cons hle]; rfl
        refine x_ret X₂ (ev_item (d := .int ds[Lo]) (ev_free rfl rfl) (ev_local rfl) (Int.natCast_nonneg _) (nat_up (Nat.lt_of_lt_of_le hle hl)) (by simp)) fun v h' tk X' r' => kk v h' tk _ X' ?_
        rw [h0]
        simpa [dsum] using r'
      · have hb : ((Lo : Int) + 1 == Hi) = false := beq_f he
        rw [hb]
        refine x_nil ?_
        refine x_assign X₂ (d := .int ((Lo + Hi) / 2 : Nat)) (Ev.cast (ev_bin (ev_bin (ev_local rfl) (ev_local rfl) op_add) ev_int (op_shr (by decide))) (by
          congr 1
          rw [Int.fdiv_eq_ediv_of_nonneg _ (by decide), show (2 : Int) ^ (Int.toNat 1) = 2 by decide]
          exact half_cast Lo Hi)) (asg_store) fun h₃ t₃ X₃ => ?_
        generalize hM : (Lo + Hi) / 2 = M at X₃
        obtain ⟨hM1, hM2⟩ := mid_ok hlt he hM
        refine x_assign X₃ (d := .int ((M - Lo) * n : Nat)) (Ev.cast (ev_bin (ev_bin (ev_local rfl) (ev_local rfl) op_sub) (ev_free rfl rfl) (op_mul (intBits_le_64 (dif_lo (Nat.le_of_lt hM1)) (dif_up (Nat.lt_of_lt_of_le hM2 (Nat.le_trans hle hl)))))) (by
          congr 1
          rw [Int.natCast_mul, Int.natCast_sub (Nat.le_of_lt hM1)])) (asg_store) fun h₄ t₄ X₄ => ?_
        have hs := sum_take_drop ds (a := Lo) (b := M) (c := Hi) (Nat.le_of_lt hM1) (Nat.le_of_lt hM2)
        have hlo : ((ds.drop Lo).take (M - Lo)).length = M - Lo := take_drop_len (Nat.le_trans (Nat.le_of_lt hM2) hle)
        have hhi : ((ds.drop M).take (Hi - M)).length = Hi - M := take_drop_len hle
        have hbd := dsum_bound n (l := (ds.drop M).take (Hi - M)) fun d hm => hd d (List.mem_of_mem_drop (List.mem_of_mem_take hm))
        rw [hhi] at hbd
        refine x_ret X₄ (Ev.cast (ev_bin (ev_bin (ev_callF (fd := _) hfB rfl (ev_free rfl rfl) (evs_cons (ev_local rfl) (evs_cons (ev_local rfl) evs_nil)) fun s' vs X' r' => rec_ s' _ vs M Hi rfl rfl rfl (sub_k hk hM1) hM2 hle X' r') (ev_local rfl) (op_shl (Int.natCast_nonneg _) ?_))
          (ev_callF (fd := _) hfB rfl (ev_free rfl rfl) (evs_cons (ev_local rfl) (evs_cons (ev_local rfl) evs_nil)) fun s' vs X' r' => rec_ s' _ vs Lo M rfl rfl rfl (sub_k' hk hM2) hM1 (Nat.le_trans (Nat.le_of_lt hM2) hle) X' r') op_add) ?_) fun v h' tk X' r' => kk v h' tk _ X' r'
        · have h1 := intBits_of_lt hbd.1 hbd.2
          have h2 : n * (Hi - M) ≤ 64 * 64 := Nat.mul_le_mul hn (Nat.le_trans (Nat.sub_le _ _) (Nat.le_trans hle hl))
          have h3 : (M - Lo) * n ≤ 64 * 64 := Nat.mul_le_mul (Nat.le_trans (Nat.sub_le _ _) (Nat.le_trans (Nat.le_of_lt hM2) (Nat.le_trans hle hl))) hn
          exact sum27 h1 h2 h3
        · rw [hs, dsum_append, hlo]
          congr 1
          simp only [Int.toNat_natCast]
          rw [Nat.mul_comm n, Int.mul_comm, Int.add_comm]
  subst hfo
  have cin := hC "inner" _ rfl
  refine sname_cell X₂ rfl rfl rfl (d := .val (.ref f)) (by simp only [Rep]) (.inr (.inr ⟨"inner", rfl⟩)) (fun o h => ?_) cin.2 fun h₃ t₃ _ X₃ => ?_
  · rcases h with (h | ⟨h, _⟩) | ⟨h, _⟩
    · exact cin.1 o h
    · exact m.nc (h ▸ .inr (.inr ⟨"inner", rfl⟩))
    · exact m.nf (h ▸ .inr (.inr ⟨"inner", rfl⟩))
  clear X X₂
  refine x_ret (d := .int (dsum n ds)) X₃ (ev_ife (tst_lst (ev_cell rfl rfl) (by rw [List.length_map]; exact nat_ul hl)) (fun hb => ?_) (fun hb => ?_)) fun v h' tk X' r' => k v h' tk _ _ _ _ X' (fun b h => h) (fun b o h => .inl (.inl h)) r'
  · have hne : 0 < ds.length := by cases ds with | nil => simp at hb | cons => simp
    refine ev_callF (o := _) (fd := _) (.inr ⟨rfl, rfl⟩) rfl (ev_cell rfl rfl) (evs_cons ev_int (evs_cons (ev_len (ev_b G.toZK ok rfl rfl) (ev_cell rfl rfl) (by rw [List.length_map]; exact nat_ul hl)) evs_nil)) fun s' vs X' r' => ?_
    have := inner 64 (A.deeper X'.theEnv) X'.theO s' vs 0 ds.length hA (dep (a := A.depth) (m := 80) (n := 65) hdep) hl hne (Nat.le_refl _) X'.wd (X'.base _ _ (.inr ⟨rfl, rfl⟩)) (X'.base _ _ (.inl (.inr ⟨rfl, rfl⟩))) (cells_of X' (fun p hp => by
          simp only [List.mem_cons, List.not_mem_nil, or_false] at hp
          rcases hp with rfl | rfl | rfl <;> exact ⟨(by intro e; cases e), rfl⟩) (fun p hp d hg => by
          simp only [List.mem_cons, List.not_mem_nil, or_false] at hp
          rcases hp with rfl | rfl | rfl <;> exact hg)) (by simpa using r')
    simpa using Cp.call this
  · have : ds = [] := by cases ds with | nil => rfl | cons => simp at hb
    subst this
    exact ev_int
end
end Mine

open PySem PySem.W PyProof.Rows PySem.Calls
set_option Elab.async false
set_option linter.all false
set_option maxRecDepth 100000
namespace Mine
section
variable {Z : Zone} {A : Around} {env : Env} {O : Addr → Prop} {B : Addr → Obj → Prop} {own own' : List (Addr × List D)} {ρ ρ' : Rho} {s : Shared} {E : Value → Shared → Prop} {h' : Heap} {tk : Nat}
theorem Rep.growO {T T' : Nat} {d : D} {v : Value} {h : Heap} (hO : ∀ p ∈ own, O p.1) (r : Rep O h T d v) (g : GrowO Z O own h h') (hT : T ≤ T') : Rep O h' T' d v :=
  Rep.keep (fun b _ n e => ⟨g.1 b _ (fun q => n (g.2.2.isO q)) (fun ⟨p, hp, q⟩ => n (q ▸ hO p hp)) e, n⟩) hT d r
theorem St.growO (X : St Z env O B own ρ s) (g : GrowO Z O own s.heap h') (hT : s.toks ≤ tk) (ho : Owns O h' tk own') (hm : own'.map (·.1) = own.map (·.1)) : St Z env O B own' ρ { s with heap := h', toks := tk } := by
  have hO : ∀ p ∈ own, O p.1 := fun p hp => (X.ownd p hp).1
  have notOwn : ∀ b o, s.heap.get? b = some o → (∀ vs n, o ≠ { cls := .type "list", data := .seq vs n }) → ¬ isOwn own b := fun b o e hn ⟨p, hp, q⟩ => by
    obtain ⟨_, vs, ⟨n, e'⟩, _⟩ := X.ownd p hp
    rw [q, e'] at e; cases e
    exact hn _ n rfl
  exact {
    base := fun b o e => g.1 b o (fun q => X.tabB b o q e) (fun ⟨p, hp, q⟩ => X.ownB p hp o (q ▸ e)) (X.base b o e)
    zone := X.zone
    OH := X.OH
    tabB := X.tabB
    LB := X.LB
    ownB := fun p hp o e => by
      obtain ⟨q, hq, e'⟩ := (isOwn_map hm).mp ⟨p, hp, rfl⟩
      exact X.ownB q hq o (e' ▸ e)
    ownD := by rw [hm]; exact X.ownD
    Oex := fun b hb => by obtain ⟨o, e⟩ := X.Oex b hb; exact g.2.1 b o e
    tabs := g.2.2
    pos := Nat.lt_of_lt_of_le X.pos hT
    OL := X.OL
    loc := by
      obtain ⟨m, hn, r⟩ := X.loc
      have h1 := Ns.notTab X.tabs hn
      refine ⟨m, Ns.at_ hn fun o e => g.1 _ o h1 (notOwn _ o e fun vs n q => ?_) e, fun y d hk hg => by obtain ⟨v, e, p⟩ := r y d hk hg; exact ⟨v, e, p.growO hO g hT⟩⟩
      obtain ⟨o', es, ep, e', hd', _⟩ := hn
      rw [e] at e'; cases e'; rw [q] at hd'; cases hd'
    cel := fun y c hy hc => by
      obtain ⟨ov, hv, r⟩ := X.cel y c hy hc
      have h1 := Cell.notTab X.tabs hv
      obtain ⟨o, ho, hd⟩ := hv
      refine ⟨ov, ⟨o, g.1 _ o h1 (notOwn _ o ho fun vs n q => ?_) ho, hd⟩, fun d hg => by obtain ⟨v, e, p⟩ := r d hg; exact ⟨v, e, p.growO hO g hT⟩⟩
      rw [q] at hd; cases hd
    ownd := fun p hp => ho p hp }
/-- a statement that calls a def which turns own lists -/
theorem x_callOz {fe e : PySem.Expr} {es : List PySem.Expr} {cpos pos : Pos} {f : Addr} {o : Obj} {fd : FuncData} {ds : List D} {rest : List Stmt} {Q : Flow → Shared → Prop} (X : St Z env O B own ρ s) (hF : B f o) (hd : o.data = .func fd) (hf : Ev Z A env O B own ρ fe (.val (.ref f))) (ha : Evs Z A env O B own ρ cpos (e :: es) ds)
    (hm : own'.map (·.1) = own.map (·.1))
    (hc : ∀ s vs, St Z env O B own ρ s → Reps O s.heap s.toks ds vs → CpCO Z A O own own' (.call (.ref f) ⟨vs, []⟩) s .none)
    (k : ∀ h' tk, St Z env O B own' ρ { s with heap := h', toks := tk } → Xs Z A rest env Q E { s with heap := h', toks := tk })
    (hi : interactive env = false) (hsw : swapsWith (.Call fe (e :: es) [] cpos) none pos.line env = pure false)
    (he : eval (.Call fe (e :: es) [] cpos) env = (do callWith cpos (← eval fe env) [] (backTo cpos (starEach (e :: es) env)) (backToKw cpos (keywordEach [] env))))
    (hs : starEach (e :: es) env = (false, eval e env) :: starEach es env) :
    Xs Z A (.Expr (.Call fe (e :: es) [] cpos) pos :: rest) env Q E s := by
  refine Xs.cons (wpAny_Expr ?_ hi hsw)
  rw [he]
  refine wpAny_bind (hf.run s X _ _ fun v h₁ t₁ g₁ le₁ r₁ => ?_)
  simp only [Rep] at r₁
  subst r₁
  refine callFn (o := o) (fd := fd) (ha.run _ (X.grow g₁ le₁) _ _ fun vs h₂ t₂ g₂ le₂ r₂ => ⟨⟨((X.grow g₁ le₁).grow g₂ le₂).base f o hF, hd⟩, ?_⟩) hs
  have X₂ := (X.grow g₁ le₁).grow g₂ le₂
  refine wpAny_call (hc _ vs X₂ r₂ _ fun v h₃ t₃ g₃ le₃ rn ho => ?_)
  simp only [Rep] at rn
  subst rn
  exact k h₃ t₃ (X₂.growO g₃ le₃ ho hm)
theorem x_callO {h₀ : Heap} {t₀ : Nat} {fe e : PySem.Expr} {es : List PySem.Expr} {cpos pos : Pos} {f : Addr} {o : Obj} {fd : FuncData} {ds : List D} {rest : List Stmt} {Q : Flow → Shared → Prop} (X : St Z env O B own ρ { s with heap := h₀, toks := t₀ }) (hF : B f o) (hd : o.data = .func fd) (hf : Ev Z A env O B own ρ fe (.val (.ref f))) (ha : Evs Z A env O B own ρ cpos (e :: es) ds)
    (hm : own'.map (·.1) = own.map (·.1))
    (hc : ∀ s vs, St Z env O B own ρ s → Reps O s.heap s.toks ds vs → CpCO Z A O own own' (.call (.ref f) ⟨vs, []⟩) s .none)
    (k : ∀ h' tk, St Z env O B own' ρ { s with heap := h', toks := tk } → Xs Z A rest env Q E { s with heap := h', toks := tk })
    (hi : interactive env = false := by rfl) (hsw : swapsWith (.Call fe (e :: es) [] cpos) none pos.line env = pure false := by rfl)
    (he : eval (.Call fe (e :: es) [] cpos) env = (do callWith cpos (← eval fe env) [] (backTo cpos (starEach (e :: es) env)) (backToKw cpos (keywordEach [] env))) := by rfl)
    (hs : starEach (e :: es) env = (false, eval e env) :: starEach es env := by rfl) :
    Xs Z A (.Expr (.Call fe (e :: es) [] cpos) pos :: rest) env Q E { s with heap := h₀, toks := t₀ } := x_callOz X hF hd hf ha hm hc k hi hsw he hs
/-- an own list is given away -/
theorem Tab.drop {O' : Addr → Prop} {h : Heap} (t : Tab Z O' h) (k : ∀ b, O b → O' b) (hq : ∀ q ∈ Z.tl, O q.P) : Tab Z O h := fun q hq' => by
  obtain ⟨o, ps, g, r⟩ := t q hq'
  exact ⟨hq q hq', ps, g, r.imp id fun ⟨c, e, n, x⟩ => ⟨c, e, fun z => n (k c z), x⟩⟩
theorem St.drop {a : Addr} {ds : List D} {O' : Addr → Prop} (X : St Z env O' B ((a, ds) :: own) ρ s) (hO' : ∀ b, O' b ↔ O b ∨ b = a) (hn : ¬ O a) (hL : O env.locals) (ho : ∀ p ∈ own, O p.1) (hq : ∀ q ∈ Z.tl, O q.P) : St Z env O B own ρ s ∧ Rep O s.heap s.toks (.lst ds) (.ref a) := by
  have k : ∀ b, O b → O' b := fun b h => (hO' b).mpr (.inl h)
  obtain ⟨_, vs, hl, r⟩ := X.ownd (a, ds) (.head _)
  refine ⟨{ X with
    OH := fun b o h => X.OH b o (k b h)
    ownB := fun p hp => X.ownB p (.tail _ hp)
    ownD := (List.nodup_cons.mp X.ownD).2
    Oex := fun b h => X.Oex b (k b h)
    tabs := X.tabs.drop k hq
    OL := hL
    loc := by
      obtain ⟨m, hm, rr⟩ := X.loc
      exact ⟨m, hm, fun y d hk hg => by obtain ⟨v, e, p⟩ := rr y d hk hg; exact ⟨v, e, p.less k⟩⟩
    cel := fun y c hy hc => by
      obtain ⟨ov, hv, rr⟩ := X.cel y c hy hc
      exact ⟨ov, hv, fun d hg => by obtain ⟨v, e, p⟩ := rr d hg; exact ⟨v, e, p.less k⟩⟩
    ownd := fun p hp => by
      obtain ⟨_, vs, hl, rr⟩ := X.ownd p (.tail _ hp)
      exact ⟨ho p hp, vs, hl, Reps.keep (fun b o n e => ⟨e, fun z => n (k b z)⟩) (Nat.le_refl _) _ rr⟩ }, ?_⟩
  simp only [Rep]
  exact ⟨a, vs, rfl, hn, hl.isList, Reps.keep (fun b o n e => ⟨e, fun z => n (k b z)⟩) (Nat.le_refl _) _ r⟩
theorem x_retOz {e : PySem.Expr} {pos : Pos} {a : Addr} {ds : List D} {O' : Addr → Prop} {rest : List Stmt} {Q : Flow → Shared → Prop} (X : St Z env O' B ((a, ds) :: own) ρ s) (he : Ev Z A env O' B ((a, ds) :: own) ρ e (.val (.ref a))) (hO' : ∀ b, O' b ↔ O b ∨ b = a) (hn : ¬ O a) (hL : O env.locals) (ho : ∀ p ∈ own, O p.1) (hq : ∀ q ∈ Z.tl, O q.P)
    (k : ∀ h' tk, St Z env O B own ρ { s with heap := h', toks := tk } → Rep O h' tk (.lst ds) (.ref a) → Q (.ret (.ref a)) { s with heap := h', toks := tk }) :
    Xs Z A (.Return (some e) pos :: rest) env Q E s :=
  x_ret X he fun v h' tk X' r' => by
    simp only [Rep] at r'
    subst r'
    obtain ⟨X₂, r₂⟩ := X'.drop hO' hn hL ho hq
    exact k h' tk X₂ r₂
theorem x_retO {h₀ : Heap} {t₀ : Nat} {e : PySem.Expr} {pos : Pos} {a : Addr} {ds : List D} {O' : Addr → Prop} {rest : List Stmt} {Q : Flow → Shared → Prop} (X : St Z env O' B ((a, ds) :: own) ρ { s with heap := h₀, toks := t₀ }) (he : Ev Z A env O' B ((a, ds) :: own) ρ e (.val (.ref a))) (hO' : ∀ b, O' b ↔ O b ∨ b = a) (hn : ¬ O a) (hL : O env.locals) (ho : ∀ p ∈ own, O p.1) (hq : ∀ q ∈ Z.tl, O q.P)
    (k : ∀ h' tk, St Z env O B own ρ { s with heap := h', toks := tk } → Rep O h' tk (.lst ds) (.ref a) → Q (.ret (.ref a)) { s with heap := h', toks := tk }) :
    Xs Z A (.Return (some e) pos :: rest) env Q E { s with heap := h₀, toks := t₀ } := x_retOz X he hO' hn hL ho hq k
end
end Mine

open PySem PySem.W PyProof.Rows PySem.Calls
set_option Elab.async false
set_option linter.all false
set_option maxRecDepth 100000
namespace Mine
/-- k digits of x, the lowest first -/
noncomputable def digs (n : Nat) : Int → Nat → List Int
  | _, 0 => []
  | x, k + 1 => x % 2 ^ n :: digs n (x / 2 ^ n) k
theorem digs_length (n : Nat) : ∀ (k : Nat) (x : Int), (digs n x k).length = k
  | 0, _ => rfl
  | k + 1, x => by simp [digs, digs_length n k]
theorem two_pos (n : Nat) : (0 : Int) < 2 ^ n := Int.pow_pos (by decide)
theorem digs_split (n : Nat) : ∀ (j k : Nat) (x : Int), digs n x (j + k) = digs n (x % 2 ^ (n * j)) j ++ digs n (x / 2 ^ (n * j)) k
  | 0, k, x => by simp [digs]
  | j + 1, k, x => by
    rw [Nat.add_right_comm j 1 k]
    simp only [digs, List.cons_append]
    rw [digs_split n j k]
    have e : (2 : Int) ^ (n * (j + 1)) = 2 ^ n * 2 ^ (n * j) := by rw [← Int.pow_add]; congr 1; exact (Nat.mul_succ n j).trans (Nat.add_comm _ _)
    have h1 : x % 2 ^ (n * (j + 1)) % 2 ^ n = x % 2 ^ n := by rw [e]; exact Int.emod_emod_of_dvd x ⟨_, rfl⟩
    have h2 : x % 2 ^ (n * (j + 1)) / 2 ^ n = x / 2 ^ n % 2 ^ (n * j) := by
      rw [e]
      have := Int.emod_def x (2 ^ n * 2 ^ (n * j))
      rw [this, Int.emod_def (x / 2 ^ n)]
      rw [show x - 2 ^ n * 2 ^ (n * j) * (x / (2 ^ n * 2 ^ (n * j))) = x + 2 ^ n * (- (2 ^ (n * j) * (x / (2 ^ n * 2 ^ (n * j))))) by rw [Int.mul_neg, Int.mul_assoc, Int.sub_eq_add_neg]]
      rw [Int.add_mul_ediv_left _ _ (Int.ne_of_gt (two_pos n)), Int.ediv_ediv_of_nonneg (Int.le_of_lt (two_pos n))]
      exact Int.sub_eq_add_neg.symm
    have h3 : x / 2 ^ n / 2 ^ (n * j) = x / 2 ^ (n * (j + 1)) := by rw [e, Int.ediv_ediv_of_nonneg (Int.le_of_lt (two_pos n))]
    rw [h1, h2, h3]
theorem digs_one {n : Nat} {x : Int} (h0 : 0 ≤ x) (h : x < 2 ^ n) : digs n x 1 = [x] := by
  simp only [digs]
  rw [Int.emod_eq_of_lt h0 h]
theorem digs_ok (n : Nat) : ∀ (k : Nat) (x : Int), ∀ d ∈ digs n x k, 0 ≤ d ∧ d < 2 ^ n
  | 0, _, _, h => nomatch h
  | k + 1, x, d, h => by
    rcases List.mem_cons.mp h with rfl | h
    · exact ⟨Int.emod_nonneg _ (Int.ne_of_gt (two_pos n)), Int.emod_lt_of_pos _ (two_pos n)⟩
    · exact digs_ok n k _ d h
theorem dsum_digs (n : Nat) : ∀ (k : Nat) {x : Int}, 0 ≤ x → x < 2 ^ (n * k) → dsum n (digs n x k) = x
  | 0, x, h0, h => by simp at h; simp [digs, dsum]; omega
  | k + 1, x, h0, h => by
    simp only [digs, dsum]
    have e : (2 : Int) ^ (n * (k + 1)) = 2 ^ n * 2 ^ (n * k) := by rw [← Int.pow_add]; congr 1; exact (Nat.mul_succ n k).trans (Nat.add_comm _ _)
    rw [dsum_digs n k (Int.ediv_nonneg h0 (Int.le_of_lt (two_pos n))) (Int.ediv_lt_of_lt_mul (two_pos n) (by rw [Int.mul_comm, ← e]; exact h))]
    exact Int.emod_add_mul_ediv x _
noncomputable def put (l : List Int) (i : Nat) (ds : List Int) : List Int := l.take i ++ ds ++ l.drop (i + ds.length)
theorem put_length {l : List Int} {i : Nat} {ds : List Int} (h : i + ds.length ≤ l.length) : (put l i ds).length = l.length := by simp [put]; omega
theorem put_one {l : List Int} {i : Nat} {x : Int} (h : i < l.length) : l.set i x = put l i [x] := by
  rw [List.set_eq_take_append_cons_drop]; simp [put, h]
theorem put_put {l d1 d2 : List Int} {i : Nat} (h : i + d1.length + d2.length ≤ l.length) : put (put l i d1) (i + d1.length) d2 = put l i (d1 ++ d2) := by
  unfold put
  have h1 : (l.take i ++ d1).length = i + d1.length := by simp; omega
  rw [List.take_append_of_le_length (Nat.le_of_eq h1.symm), List.take_of_length_le (Nat.le_of_eq h1), List.drop_append, List.drop_eq_nil_of_le (Nat.le_trans (Nat.le_of_eq h1) (Nat.le_add_right _ _)), h1, List.nil_append, List.drop_drop]
  simp only [List.append_assoc, List.length_append]
  congr 4
  rw [Nat.add_sub_cancel_left, Nat.add_assoc]
theorem put_all {l ds : List Int} (h : ds.length = l.length) : put l 0 ds = ds := by simp [put, h]
theorem nat_and_high (x s : Nat) : x &&& (x / 2 ^ s * 2 ^ s) = x / 2 ^ s * 2 ^ s := by
  apply Nat.eq_of_testBit_eq
  intro i
  rw [Nat.testBit_and, Nat.mul_comm, Nat.testBit_two_pow_mul, Nat.testBit_div_two_pow]
  by_cases h : s ≤ i
  · simp [h]
  · simp [h]
theorem xor_low {x : Int} (h0 : 0 ≤ x) (s : Nat) : Builtin.bitXor x (x / 2 ^ s * 2 ^ s) = x % 2 ^ s := by
  have hy : 0 ≤ x / 2 ^ s * 2 ^ s := Int.mul_nonneg (Int.ediv_nonneg h0 (Int.le_of_lt (two_pos s))) (Int.le_of_lt (two_pos s))
  have : Builtin.bitAnd x (x / 2 ^ s * 2 ^ s) = x / 2 ^ s * 2 ^ s := by
    unfold Builtin.bitAnd
    simp only [h0, hy, decide_true]
    obtain ⟨m, rfl⟩ := Int.eq_ofNat_of_zero_le h0
    have : ((m : Int) / 2 ^ s * 2 ^ s) = ((m / 2 ^ s * 2 ^ s : Nat) : Int) := by simp
    rw [this]
    simp only [Int.toNat_natCast]
    rw [nat_and_high]
  rw [bitXor_and, this]
  have := Int.emod_add_mul_ediv x (2 ^ s)
  rw [Int.mul_comm] at this
  omega
end Mine

open PySem PySem.W PyProof.Rows PySem.Calls
set_option Elab.async false
set_option linter.all false
set_option maxRecDepth 100000
namespace Mine
section
variable {Z : Zone} {A : Around} {env : Env} {O : Addr → Prop} {B : Addr → Obj → Prop} {own : List (Addr × List D)} {ρ ρ' : Rho} {s : Shared}
noncomputable def nmI : List (PySem.Str × NameKind) := [("x", .local), ("L", .local), ("R", .local), ("mid", .local), ("shift", .local), ("upper", .local), ("lower", .local), ("a_digits", .free), ("inner", .free), ("n", .free)]
theorem EvNew.cast {e : PySem.Expr} {ds ds' : List D} (h : EvNew Z A env O B own ρ e ds) (q : ds = ds') : EvNew Z A env O B own ρ e ds' := q ▸ h
/-- how many digits -/
noncomputable def dcount (n : Nat) (a : Int) : Nat := (Builtin.Int.intBits a + n - 1) / n
theorem dcount_ok {n : Nat} {a : Int} (hn : 0 < n) (h0 : 0 ≤ a) : a < 2 ^ (n * dcount n a) := by
  have h1 := natAbs_lt_pow_bits a
  have h2 : Builtin.Int.intBits a ≤ n * dcount n a := by
    unfold dcount
    generalize Builtin.Int.intBits a = b
    have := Nat.div_add_mod (b + n - 1) n
    have h3 := Nat.mod_lt (b + n - 1) hn
    omega
  have h3 : 2 ^ Builtin.Int.intBits a ≤ 2 ^ (n * dcount n a) := Nat.pow_le_pow_right (by decide) h2
  have : ((2 ^ (n * dcount n a) : Nat) : Int) = 2 ^ (n * dcount n a) := by simp
  omega
theorem dcount_le {n : Nat} {a : Int} (hn : 0 < n) : dcount n a ≤ Builtin.Int.intBits a := by
  unfold dcount
  rw [Nat.div_le_iff_le_mul_add_pred hn]
  have : Builtin.Int.intBits a ≤ n * Builtin.Int.intBits a := Nat.le_mul_of_pos_left _ hn
  rw [Nat.add_sub_assoc hn]
  exact Nat.add_le_add_right this _
theorem fn_int2digits (G : ZL Z) {a : Int} {n : Nat} (h0 : 0 ≤ a) (ha : a < 2 ^ 64) (hn0 : 0 < n) (hn : n ≤ 64) : Fn Z 52 80 [.int a, .int n] (.lst ((digs n a (dcount n a)).map .int)) := .mk <| by
  intro A O s vs hA hdep W r
  have r' := r
  simp only [Reps] at r'
  obtain ⟨v1, _, rfl, r1, v2, _, rfl, r2, rfl⟩ := r'
  refine fn_enterC (ns := ["a", "n"]) G.toZoneOk W (dep0 hdep) (W.zone _ _ (G.K 52 _ rfl)) rfl (codeRec_of (Frag.In.keeps G.K W.zone) rfl) rfl rfl rfl (fun n x hx => by
    simp only [List.mem_cons, List.not_mem_nil, or_false] at hx
    rcases hx with rfl | rfl
    · exact .inl rfl
    · exact .inr ⟨rfl, rfl⟩) (by decide) rfl rfl rfl r ?_
  intro L h₁ t₁ X hC Q E k
  have ok := envOk_of X rfl rfl rfl
  have hbits : Builtin.Int.intBits a ≤ 64 := intBits_of_lt h0 ha
  have hcnt := dcount_le (a := a) hn0
  have cad := hC "a_digits" _ rfl
  have cin := hC "inner" _ rfl
  refine x_ownC (ds := List.replicate (dcount n a) (.int 0)) X rfl rfl rfl (.inr (.inr ⟨"a_digits", rfl⟩)) cad.1 cad.2 ?_ (by simp [D.flat]) fun al h₂ t₂ hBa hOa X₂ => ?_
  · refine EvNew.cast (evn_mul (n := (dcount n a : Int)) (d := .int 0) (evn_lst (evs_cons ev_int evs_nil) (by decide)) (Ev.cast (ev_bin (ev_bin (ev_bin (ev_bitlen (ev_local rfl)) (ev_cell rfl rfl) op_add) ev_int op_sub) (ev_cell rfl rfl) (op_div (by omega) (by omega))) ?_) (Int.natCast_nonneg _) (by omega)) (by simp)
    congr 1
    rw [Int.fdiv_eq_ediv_of_nonneg _ (by omega)]
    unfold dcount
    rw [Int.natCast_ediv, Int.natCast_sub (by omega)]
    simp
  have ok2 := envOk_of X₂ rfl rfl rfl
  refine x_def G.make ok2 X₂ (q := ⟨47, 33, 4, "_int2digits.<locals>.inner"⟩) (by rw [G.tl]; exact .tail _ (.head _)) (G.inj _ (by rw [G.tl]; exact .tail _ (.head _))) rfl G.C2 rfl rfl rfl rfl ?_
  intro f c' fo oc doc ctv h₃ t₃ hfo m X₃
  have hnf : ¬ isTab Z f := fun h => m.nf (X₃.tabs.isO h)
  have hnc : ¬ isTab Z c' := fun h => m.nc (X₃.tabs.isO h)
  have hfa : f ≠ al := fun h => m.nf (.inr h)
  have hca : c' ≠ al := fun h => m.nc (.inr h)
  have inner : ∀ (k : Nat) (A : Around) (O : Addr → Prop) (s : Shared) (vs : List Value) (x : Int) (Lo Hi : Nat) (l : List Int), A.handled = none → A.depth + k < recursionLimit → Hi - Lo ≤ k → Lo < Hi → Hi ≤ l.length → l.length ≤ 64 → 0 ≤ x → x < 2 ^ (n * (Hi - Lo)) → Wd Z O s → s.heap.get? f = some fo → s.heap.get? c' = some oc →
      CellsAt O s [("n", L + 1), ("inner", L + 1 + 1 + 1), ("a_digits", L + 1 + 1)] [("a_digits", .val (.ref al)), ("n", .int n), ("inner", .val (.ref f))] → Owns O s.heap s.toks [(al, l.map .int)] → Reps O s.heap s.toks [.int x, .int Lo, .int Hi] vs →
      CpCO Z A O [(al, l.map .int)] [(al, (put l Lo (digs n x (Hi - Lo))).map .int)] (.call (.ref f) ⟨vs, []⟩) s .none := by
    clear r r1 r2 X X₂ X₃ hC hA hdep W
    subst hfo
    intro k
    induction k with
    | zero => intros; omega
    | succ k ih =>
      intro A O s vs x Lo Hi l hA hdep hk hlt hle hl64 hx0 hx W hf hoc hcl how r
      have r' := r
      simp only [Reps] at r'
      obtain ⟨v1, _, rfl, r1, v2, _, rfl, r2, v3, _, rfl, r3, rfl⟩ := r'
      refine fn_enterO (ns := ["x", "L", "R"]) (ρc := [("a_digits", .val (.ref al)), ("n", .int n), ("inner", .val (.ref f))]) G.toZoneOk W (dep0 hdep) hf rfl (m.code hoc) rfl rfl (show ∀ x ∈ nmI, x.2 ≠ .cell by decide) (show ∀ n ∈ [Str.ofString "x", Str.ofString "L", Str.ofString "R"], nmI.lookup n = some .local by decide) (by decide) rfl rfl rfl r rfl (fun _ => rfl)
        (fun x c h => ⟨fun hx => ?_, hcl x c h⟩) (fun x d hx _ hg => ?_) how (by simp) rfl ?_
      · have hm := mem_of_lookup h
        simp only [List.mem_cons, List.not_mem_nil, or_false] at hx
        rcases hx with rfl | rfl | rfl <;> cases h
      · have hm := get_mem hg
        simp only [List.map_cons, List.map_nil, List.mem_cons, List.not_mem_nil, or_false] at hm
        rcases hm with rfl | rfl | rfl <;> cases hx
      intro L' h₁ t₁ X Q E kk kn
      have ok := envOk_of X rfl rfl rfl
      have hfB : StoodO Z [(al, l.map .int)] s.heap f _ := ⟨hf, hnf, fun ⟨p, hp, e⟩ => by
        simp only [List.mem_cons, List.not_mem_nil, or_false] at hp; subst hp; exact hfa e⟩
      have hoB : StoodO Z [(al, l.map .int)] s.heap c' oc := ⟨hoc, hnc, fun ⟨p, hp, e⟩ => by
        simp only [List.mem_cons, List.not_mem_nil, or_false] at hp; subst hp; exact hca e⟩
      have rec_ : ∀ (s' : Shared) (ρ' : Rho) (vs : List Value) (x : Int) (lo hi : Nat) (l' : List Int), get ρ' "a_digits" = some (.val (.ref al)) → get ρ' "n" = some (.int n) → get ρ' "inner" = some (.val (.ref f)) → hi - lo ≤ k → lo < hi → hi ≤ l'.length → l'.length ≤ 64 → 0 ≤ x → x < 2 ^ (n * (hi - lo)) → St Z X.theEnv X.theO X.theB [(al, l'.map .int)] ρ' s' → Reps (fun b => O b ∨ b = L') s'.heap s'.toks [.int x, .int lo, .int hi] vs →
          CpCO Z (A.deeper X.theEnv) X.theO [(al, l'.map .int)] [(al, (put l' lo (digs n x (hi - lo))).map .int)] (.call (.ref f) ⟨vs, []⟩) s' .none :=
        fun s' ρ' vs x lo hi l' g1 g2 g3 hk' hlt' hle' hl' hx0' hx' X' r' => ih _ _ s' vs x lo hi l' hA (dep1 hdep) hk' hlt' hle' hl' hx0' hx' X'.wd (X'.base _ _ hfB) (X'.base _ _ hoB) (cells_of X' (fun p hp => by
          simp only [List.mem_cons, List.not_mem_nil, or_false] at hp
          rcases hp with rfl | rfl | rfl <;> exact ⟨(by intro e; cases e), rfl⟩) (fun p hp d hg => by
          simp only [List.mem_cons, List.not_mem_nil, or_false] at hp
          rcases hp with rfl | rfl | rfl
          · exact g2.trans hg
          · exact g3.trans hg
          · exact g1.trans hg)) X'.ownd r'
      refine x_if X (tst_cmp (ev_bin (ev_local rfl) ev_int op_add) (ev_local rfl) op_eqi) fun h₂ t₂ X₂ => ?_
      by_cases he : Lo + 1 = Hi
      · have hb : ((Lo : Int) + 1 == Hi) = true := beq_t he
        rw [hb]
        subst he
        rw [Nat.add_sub_cancel_left] at hx
        refine x_setO (own₁ := []) (own₂ := []) (d := .int x) X₂ (ev_local rfl) (ev_free rfl rfl) (ev_local rfl) (Int.natCast_nonneg _) (nat_up (Nat.lt_of_lt_of_le hle hl64)) (by rw [List.length_map]; exact Int.ofNat_lt.mpr hle) fun h₃ t₃ X₃ => ?_
        refine x_ret0 ?_
        rw [Nat.mul_one] at hx
        have ed : put l Lo (digs n x (Lo + 1 - Lo)) = l.set Lo x := by rw [Nat.add_sub_cancel_left, digs_one hx0 hx, ← put_one hle]
        have e : (l.map D.int).set (Int.toNat Lo) (.int x) = (l.set Lo x).map D.int := by simp [List.map_set]
        rw [List.nil_append, e, ← ed] at X₃
        exact kk _ _ _ _ X₃ (by simp only [Rep])
      · have hb : ((Lo : Int) + 1 == Hi) = false := beq_f he
        rw [hb]
        refine x_nil ?_
        refine x_assign X₂ (d := .int ((Lo + Hi) / 2 : Nat)) (Ev.cast (ev_bin (ev_bin (ev_local rfl) (ev_local rfl) op_add) ev_int (op_shr (by decide))) (by
          congr 1
          rw [Int.fdiv_eq_ediv_of_nonneg _ (by decide), show (2 : Int) ^ (Int.toNat 1) = 2 by decide]
          exact half_cast Lo Hi)) (asg_store) fun h₃ t₃ X₃ => ?_
        generalize hM : (Lo + Hi) / 2 = M at X₃
        obtain ⟨hM1, hM2⟩ := mid_ok hlt he hM
        refine x_assign X₃ (d := .int ((M - Lo) * n : Nat)) (Ev.cast (ev_bin (ev_bin (ev_local rfl) (ev_local rfl) op_sub) (ev_free rfl rfl) (op_mul (intBits_le_64 (dif_lo (Nat.le_of_lt hM1)) (dif_up (Nat.lt_of_lt_of_le hM2 (Nat.le_trans hle hl64)))))) (by
          congr 1
          rw [Int.natCast_mul, Int.natCast_sub (Nat.le_of_lt hM1)])) (asg_store) fun h₄ t₄ X₄ => ?_
        have hup : x / 2 ^ ((M - Lo) * n) < 2 ^ (n * (Hi - M)) := by
          refine Int.ediv_lt_of_lt_mul (two_pos _) ?_
          rw [← Int.pow_add]
          refine Int.lt_of_lt_of_le hx (Int.le_of_eq ?_)
          congr 1
          rw [← sub_split (Nat.le_of_lt hM1) (Nat.le_of_lt hM2), Nat.add_comm (M - Lo), Nat.mul_add, Nat.mul_comm n (M - Lo)]
        have hup0 : 0 ≤ x / 2 ^ ((M - Lo) * n) := Int.ediv_nonneg hx0 (Int.le_of_lt (two_pos _))
        have hs1 : (M - Lo) * n ≤ 64 * 64 := Nat.mul_le_mul (Nat.le_trans (Nat.sub_le _ _) (Nat.le_trans (Nat.le_of_lt hM2) (Nat.le_trans hle hl64))) hn
        have hs2 : n * (Hi - M) ≤ 64 * 64 := Nat.mul_le_mul hn (Nat.le_trans (Nat.sub_le _ _) (Nat.le_trans hle hl64))
        refine x_assign X₄ (d := .int (x / 2 ^ ((M - Lo) * n))) (Ev.cast (ev_bin (ev_local rfl) (ev_local rfl) (op_shr (Int.natCast_nonneg _))) (by
          congr 1
          rw [Int.fdiv_eq_ediv_of_nonneg _ (Int.le_of_lt (two_pos _)), Int.toNat_natCast])) (asg_store) fun h₅ t₅ X₅ => ?_
        refine x_assign X₅ (d := .int (x % 2 ^ ((M - Lo) * n))) (Ev.cast (ev_bin (ev_local rfl) (ev_bin (ev_local rfl) (ev_local rfl) (op_shl (Int.natCast_nonneg _) (by
          exact sum27 (intBits_of_lt hup0 hup) hs2 hs1))) op_xor) (by
          congr 1
          rw [Int.toNat_natCast]
          exact xor_low hx0 _)) (asg_store) fun h₆ t₆ X₆ => ?_
        have e1 : M - Lo + (Hi - M) = Hi - Lo := sub_split (Nat.le_of_lt hM1) (Nat.le_of_lt hM2)
        have hsp := digs_split n (M - Lo) (Hi - M) x
        rw [e1, Nat.mul_comm n (M - Lo)] at hsp
        have hl1 : (put l Lo (digs n (x % 2 ^ ((M - Lo) * n)) (M - Lo))).length = l.length := put_length (by rw [digs_length, Nat.add_sub_cancel' (Nat.le_of_lt hM1)]; exact Nat.le_trans (Nat.le_of_lt hM2) hle)
        refine x_callO (o := _) (fd := _) (own' := [(al, (put l Lo (digs n (x % 2 ^ ((M - Lo) * n)) (M - Lo))).map .int)]) X₆ hfB rfl (ev_free rfl rfl) (evs_cons (ev_local rfl) (evs_cons (ev_local rfl) (evs_cons (ev_local rfl) evs_nil))) rfl (fun s' vs X' r' => rec_ s' _ vs _ Lo M l rfl rfl rfl (sub_k' hk hM2) hM1 (Nat.le_trans (Nat.le_of_lt hM2) hle) hl64 (Int.emod_nonneg _ (Int.ne_of_gt (two_pos _))) (by rw [Nat.mul_comm n]; exact Int.emod_lt_of_pos _ (two_pos _)) X' r') fun h₇ t₇ X₇ => ?_
        refine x_callO (o := _) (fd := _) (own' := [(al, (put (put l Lo (digs n (x % 2 ^ ((M - Lo) * n)) (M - Lo))) M (digs n (x / 2 ^ ((M - Lo) * n)) (Hi - M))).map .int)]) X₇ hfB rfl (ev_free rfl rfl) (evs_cons (ev_local rfl) (evs_cons (ev_local rfl) (evs_cons (ev_local rfl) evs_nil))) rfl (fun s' vs X' r' => rec_ s' _ vs _ M Hi _ rfl rfl rfl (sub_k hk hM1) hM2 (by rw [hl1]; exact hle) (by rw [hl1]; exact hl64) hup0 hup X' r') fun h₈ t₈ X₈ => ?_
        refine x_nil ?_
        have hpp : put (put l Lo (digs n (x % 2 ^ ((M - Lo) * n)) (M - Lo))) M (digs n (x / 2 ^ ((M - Lo) * n)) (Hi - M)) = put l Lo (digs n x (Hi - Lo)) := by
          have h0 : Lo + (digs n (x % 2 ^ ((M - Lo) * n)) (M - Lo)).length = M := by rw [digs_length, Nat.add_sub_cancel' (Nat.le_of_lt hM1)]
          have := put_put (l := l) (d1 := digs n (x % 2 ^ ((M - Lo) * n)) (M - Lo)) (d2 := digs n (x / 2 ^ ((M - Lo) * n)) (Hi - M)) (i := Lo) (by rw [digs_length, digs_length, Nat.add_assoc, e1, Nat.add_sub_cancel' (Nat.le_of_lt hlt)]; exact hle)
          rw [h0] at this
          rw [this, ← hsp]
        rw [hpp] at X₈
        exact kn rfl _ _ _ X₈
  subst hfo
  have hOc : ∀ x c, (callEnvC _ L 52).cells.lookup x = some c → X₃.theO c := fun x c h => .inl (.inr (.inr ⟨x, h⟩))
  refine sname_cell X₃ rfl rfl rfl (d := .val (.ref f)) (by simp only [Rep]) (.inl (.inr (.inr ⟨"inner", rfl⟩))) (fun o h => ?_) cin.2 fun h₄ t₄ _ X₄ => ?_
  · rcases h with (h | ⟨h, _⟩) | ⟨h, _⟩
    · exact cin.1 o h
    · exact m.nc (h ▸ .inl (.inr (.inr ⟨"inner", rfl⟩)))
    · exact m.nf (h ▸ .inl (.inr (.inr ⟨"inner", rfl⟩)))
  refine x_if X₄ (tst_int (ev_local rfl)) fun h₅ t₅ X₅ => ?_
  have hdc := dcount_ok hn0 h0
  have hq : ∀ q ∈ Z.tl, OC O X₄.theEnv q.P := fun q hq => (X.tabs q hq).1
  by_cases ha0 : a = 0
  · subst ha0
    have e0 : dcount n 0 = 0 := by
      unfold dcount
      rw [show Builtin.Int.intBits 0 = 0 by decide]
      exact Nat.div_eq_of_lt (Nat.lt_of_lt_of_le (Nat.sub_lt (by rw [Nat.zero_add]; exact hn0) Nat.one_pos) (Nat.le_of_eq (Nat.zero_add n)))
    rw [e0] at X₅
    refine x_nil ?_
    refine x_retO X₅ (ev_cell rfl rfl) (fun b => Iff.rfl) hOa (.inr (.inl rfl)) (fun p hp => nomatch hp) hq fun h' tk X' r' => k _ h' tk _ _ _ _ X' (fun b h => h) (fun b o h => .inl (.inl h)) ?_
    rw [e0]
    exact r'
  · have hb : (a != 0) = true := by simpa using ha0
    rw [hb]
    have hpos : 0 < dcount n a := by
      rcases Nat.eq_zero_or_pos (dcount n a) with h | h
      · rw [h] at hdc; simp at hdc; omega
      · exact h
    have hrep : List.replicate (dcount n a) (D.int 0) = (List.replicate (dcount n a) (0 : Int)).map D.int := by simp
    rw [hrep] at X₅
    refine x_callO (o := _) (fd := _) (own' := [(al, (digs n a (dcount n a)).map .int)]) X₅ (.inr ⟨rfl, rfl⟩) rfl (ev_cell rfl rfl) (evs_cons (ev_local rfl) (evs_cons ev_int (evs_cons (ev_lenO (ev_b G.toZK ok2 rfl rfl) (ev_cell rfl rfl) (.head _) (by rw [List.length_map, List.length_replicate]; exact nat_ul (Nat.le_trans hcnt hbits))) evs_nil))) rfl (fun s' vs X' r' => ?_) fun h₆ t₆ X₆ => ?_
    · have := inner 64 (A.deeper X'.theEnv) X'.theO s' vs a 0 (dcount n a) (List.replicate (dcount n a) 0) hA (dep (a := A.depth) (m := 80) (n := 65) hdep) (Nat.le_trans hcnt hbits) hpos (by simp) (by rw [List.length_replicate]; exact Nat.le_trans hcnt hbits) h0 hdc X'.wd (X'.base _ _ (.inr ⟨rfl, rfl⟩)) (X'.base _ _ (.inl (.inr ⟨rfl, rfl⟩))) (cells_of X' (fun p hp => by
          simp only [List.mem_cons, List.not_mem_nil, or_false] at hp
          rcases hp with rfl | rfl | rfl <;> exact ⟨(by intro e; cases e), rfl⟩) (fun p hp d hg => by
          simp only [List.mem_cons, List.not_mem_nil, or_false] at hp
          rcases hp with rfl | rfl | rfl <;> exact hg)) X'.ownd (by simpa using r')
      rw [Nat.sub_zero, put_all (by rw [digs_length]; simp)] at this
      exact this
    · refine x_nil ?_
      exact x_retO X₆ (ev_cell rfl rfl) (fun b => Iff.rfl) hOa (.inr (.inl rfl)) (fun p hp => nomatch hp) hq fun h' tk X' r' => k _ h' tk _ _ _ _ X' (fun b h => h) (fun b o h => .inl (.inl h)) r'
end
end Mine

open PySem PySem.W PyProof.Rows PySem.Calls
set_option Elab.async false
set_option linter.all false
set_option maxRecDepth 100000
namespace Mine
section
variable {Z : Zone} {A : Around} {env : Env} {O O' O₂ wr : Addr → Prop} {B : Addr → Obj → Prop} {own own' : List (Addr × List D)} {ρ ρ' : Rho} {s : Shared} {E : Value → Shared → Prop} {h' : Heap} {tk : Nat}
/-- more addresses to keep away from, new since -/
theorem St.more (X : St Z env O B own ρ s) (g : Grow Z O s.heap h') (t : Tab Z O' h') (le : s.toks ≤ tk) (hN : ∀ b, O' b → O b ∨ (s.heap.get? b = none ∧ ∃ o, h'.get? b = some o)) (hk : ∀ b, O b → O' b) : St Z env O' B own ρ { s with heap := h', toks := tk } := by
  have old : ∀ b o, s.heap.get? b = some o → O' b → O b := fun b o e q => (hN b q).elim id fun z => by rw [z.1] at e; cases e
  have g' : Grow Z O' s.heap h' := ⟨g.1, g.2.1, t⟩
  exact {
    base := (X.grow g le).base
    zone := X.zone
    OH := fun b o hb e => X.OH b o (old b o (X.base b o (X.zone b o e)) hb) e
    tabB := X.tabB
    LB := X.LB
    ownB := X.ownB
    ownD := X.ownD
    Oex := fun b hb => (hN b hb).elim ((X.grow (tk := tk) g le).Oex b) fun z => z.2
    tabs := t
    pos := Nat.lt_of_lt_of_le X.pos le
    OL := hk _ X.OL
    loc := by
      obtain ⟨m, hm, rr⟩ := X.loc
      refine ⟨m, Ns.at_ hm fun o e => g.1 _ o (Ns.notTab X.tabs hm) e, fun x d hk' hg => ?_⟩
      obtain ⟨v, e, p⟩ := rr x d hk' hg
      exact ⟨v, e, (p.more old).grow g' le⟩
    cel := fun x c hx hc => by
      obtain ⟨ov, hv, rr⟩ := X.cel x c hx hc
      have hnt := Cell.notTab X.tabs hv
      obtain ⟨o, ho, hd⟩ := hv
      exact ⟨ov, ⟨o, g.1 _ o hnt ho, hd⟩, fun d hg => by obtain ⟨v, e, p⟩ := rr d hg; exact ⟨v, e, (p.more old).grow g' le⟩⟩
    ownd := fun p hp => by
      obtain ⟨ho, vs', hl', rr⟩ := X.ownd p hp
      have hnt := Plain.notTab X.tabs hl'
      obtain ⟨n, e⟩ := hl'
      exact ⟨hk _ ho, vs', ⟨n, g.1 _ _ hnt e⟩, (rr.more old).grow g' le⟩ }
/-- a step that writes to wr alone -/
theorem Rep.wrd {h : Heap} {T T' : Nat} {d : D} {v : Value} (r : Rep O' h T d v) (k : ∀ b o, ¬ wr b → h.get? b = some o → h'.get? b = some o) (hw : ∀ b, wr b → O' b) (hO : ∀ b, O₂ b → O' b) (hT : T ≤ T') : Rep O₂ h' T' d v :=
  Rep.keep (fun b o n e => ⟨k b o (fun q => n (hw b q)) e, fun q => n (hO b q)⟩) hT d r
theorem Tab.wrd {h : Heap} (t : Tab Z O' h) (k : ∀ b o, ¬ wr b → h.get? b = some o → h'.get? b = some o) (hw : ∀ b, wr b → O' b ∧ ¬ isTab Z b) (hO : ∀ b, O₂ b → O' b) (hq : ∀ q ∈ Z.tl, O₂ q.P) : Tab Z O₂ h' := fun q hq' => by
  obtain ⟨o, ps, g, r⟩ := t q hq'
  exact ⟨hq q hq', ps, k _ _ (fun z => (hw _ z).2 ⟨q, hq', rfl⟩) g, r.imp id fun ⟨c, e, n, x⟩ => ⟨c, e, fun z => n (hO c z), CodeRec.up (fun o e => k c o (fun z => n (hw c z).1) e) x⟩⟩
theorem St.wrd (X : St Z env O' B own ρ s) (k : ∀ b o, ¬ wr b → s.heap.get? b = some o → h'.get? b = some o) (hw : ∀ b, wr b → O' b ∧ ¬ isTab Z b) (hB : ∀ b, wr b → ∀ o, ¬ B b o) (hL : ¬ wr env.locals) (hc : ∀ x c, env.kindOf x ≠ some .local → env.cells.lookup x = some c → ¬ wr c) (hown : ∀ p ∈ own, ¬ wr p.1) (le : s.toks ≤ tk)
    (hO : ∀ b, O₂ b → O' b) (hq : ∀ q ∈ Z.tl, O₂ q.P) (hL₂ : O₂ env.locals) (ho : ∀ p ∈ own, O₂ p.1) (hex : ∀ b, O₂ b → wr b → ∃ o, h'.get? b = some o) : St Z env O₂ B own ρ { s with heap := h', toks := tk } := by
  have hw1 : ∀ b, wr b → O' b := fun b q => (hw b q).1
  exact {
    base := fun b o e => k b o (fun q => hB b q o e) (X.base b o e)
    zone := X.zone
    OH := fun b o h => X.OH b o (hO b h)
    tabB := X.tabB
    LB := X.LB
    ownB := X.ownB
    ownD := X.ownD
    Oex := fun b hb => by
      by_cases q : wr b
      · exact hex b hb q
      · obtain ⟨o, e⟩ := X.Oex b (hO b hb); exact ⟨o, k b o q e⟩
    tabs := X.tabs.wrd k hw hO hq
    pos := Nat.lt_of_lt_of_le X.pos le
    OL := hL₂
    loc := by
      obtain ⟨m, hm, rr⟩ := X.loc
      exact ⟨m, Ns.at_ hm fun o e => k _ o hL e, fun x d hk' hg => by obtain ⟨v, e, p⟩ := rr x d hk' hg; exact ⟨v, e, p.wrd k hw1 hO le⟩⟩
    cel := fun x c hx hcc => by
      obtain ⟨ov, ⟨o, ho', hd⟩, rr⟩ := X.cel x c hx hcc
      exact ⟨ov, ⟨o, k _ o (hc x c hx hcc) ho', hd⟩, fun d hg => by obtain ⟨v, e, p⟩ := rr d hg; exact ⟨v, e, p.wrd k hw1 hO le⟩⟩
    ownd := fun p hp => by
      obtain ⟨_, vs', ⟨n, e⟩, rr⟩ := X.ownd p hp
      exact ⟨ho p hp, vs', ⟨n, k _ _ (hown p hp) e⟩, Reps.keep (fun b o n e => ⟨k b o (fun q => n (hw1 b q)) e, fun q => n (hO b q)⟩) le _ rr⟩ }
theorem St.setB {B' : Addr → Obj → Prop} (X : St Z env O B own ρ s) (hB : ∀ b o, B b o → B' b o) (hs : ∀ b o, B' b o → s.heap.get? b = some o) (ht : ∀ b o, isTab Z b → ¬ B' b o) (hL : ∀ o, ¬ B' env.locals o) (ho : ∀ p ∈ own, ∀ o, ¬ B' p.1 o) : St Z env O B' own ρ s := { X with
  base := hs
  zone := fun b o e => hB b o (X.zone b o e)
  tabB := ht
  LB := hL
  ownB := ho }
theorem St.lessB {B' : Addr → Obj → Prop} (X : St Z env O B' own ρ s) (hB : ∀ b o, B b o → B' b o) (hz : ∀ b o, Z.H.get? b = some o → B b o) : St Z env O B own ρ s := { X with
  base := fun b o e => X.base b o (hB b o e)
  zone := hz
  tabB := fun b o q e => X.tabB b o q (hB b o e)
  LB := fun o e => X.LB o (hB _ o e)
  ownB := fun p hp o e => X.ownB p hp o (hB _ o e) }

/-- an iterator, turn by turn -/
structure Turns (Z : Zone) (A : Around) (O' : Addr → Prop) (target : PySem.Expr) (I : Value) (fp wr : Addr → Prop) (N : Nat) (P : Nat → D) (S : Nat → Heap → Prop) (h₁ : Heap) (t₁ : Nat) : Prop where
  sub : ∀ b, wr b → fp b
  frame : ∀ i h h', S i h → (∀ b, fp b → ∀ o, h.get? b = some o → h'.get? b = some o) → S i h'
  ex : ∀ i h, S i h → ∀ b, wr b → ∃ o, h.get? b = some o
  item : ∀ i (s : Shared) (R : Option Value → Shared → Prop) (Q : Value → Shared → Prop) (E : Value → Shared → Prop), i < N → S i s.heap → (∀ b o, ¬ O' b → h₁.get? b = some o → s.heap.get? b = some o) → (∀ b, O' b → ∃ o, s.heap.get? b = some o) → t₁ ≤ s.toks →
    (∀ v s', wpAny (model Z.prog Z.w) A (letOwnedTupleGo target I v) (fun _ s₂ => Q v s₂) E s' → R (some v) s') →
    (∀ v h' tk, S (i + 1) h' → (∀ b o, ¬ wr b → s.heap.get? b = some o → h'.get? b = some o) → s.toks ≤ tk → Rep O' h' tk (P i) v → Q v { s with heap := h', toks := tk }) →
    wpAny (model Z.prog Z.w) A (pyNext I) R E s
  done : ∀ (s : Shared) (Q : Option Value → Shared → Prop) (E : Value → Shared → Prop), S N s.heap → (∀ h' tk, (∀ b o, ¬ wr b → s.heap.get? b = some o → h'.get? b = some o) → s.toks ≤ tk → Q none { s with heap := h', toks := tk }) → wpAny (model Z.prog Z.w) A (pyNext I) Q E s
  self : ∀ i (s : Shared) (Q : Value → Shared → Prop) (E : Value → Shared → Prop), S i s.heap → Q I s → wpAny (model Z.prog Z.w) A (pyIter I) Q E s
/-- an iterable, evaluated and made an iterator -/
structure It (Z : Zone) (A : Around) (env : Env) (O : Addr → Prop) (B : Addr → Obj → Prop) (own : List (Addr × List D)) (ρ : Rho) (target iter : PySem.Expr) (N : Nat) (P : Nat → D) : Prop where
  run : 
    ∀ s, St Z env O B own ρ s → ∀ (Q E : Value → Shared → Prop),
      (∀ I fp wr S h₁ t₁ O', (∀ O'', (∀ b, O' b → O'' b) → (∀ b, O'' b → O' b ∨ h₁.get? b = none) → Turns Z A O'' target I fp wr N P S h₁ t₁) → Grow Z O s.heap h₁ → s.toks ≤ t₁ → Tab Z O' h₁ → S 0 h₁ → (∀ b, O' b ↔ O b ∨ wr b) → (∀ b, wr b → s.heap.get? b = none ∧ ∃ o, h₁.get? b = some o) → (∀ b, fp b → wr b ∨ (¬ O' b ∧ ∃ o, h₁.get? b = some o)) → Q I { s with heap := h₁, toks := t₁ }) →
      wpAny (model Z.prog Z.w) A (eval iter env) (fun x s₁ => wpAny (model Z.prog Z.w) A (pyIter x) Q E s₁) E s

theorem x_forz {target iter : PySem.Expr} {body rest : List Stmt} {pos : Pos} {N : Nat} {P : Nat → D} {Q : Flow → Shared → Prop} (own' : Nat → List (Addr × List D)) (ρf ρa : Nat → Rho) (hm : ∀ i, (own' i).map (·.1) = (own' 0).map (·.1)) (X : St Z env O B (own' 0) (ρf 0) s)
    (hi : It Z A env O B (own' 0) (ρf 0) target iter N P)
    (ha : ∀ i, i < N → ∀ O' B', Asg Z A env O' B' (own' i) (ρf i) (assign target env) (P i) (ρa i))
    (hb : ∀ i, i < N → ∀ O' B', (∀ b, O b → O' b) → (∀ b o, B b o → B' b o) → ∀ s, St Z env O' B' (own' i) (ρa i) s → ∀ (Q : Flow → Shared → Prop) (E : Value → Shared → Prop), (∀ h' tk, St Z env O' B' (own' (i + 1)) (ρf (i + 1)) { s with heap := h', toks := tk } → Q .next { s with heap := h', toks := tk }) → Xs Z A body env Q E s)
    (k : ∀ h' tk, St Z env O B (own' N) (ρf N) { s with heap := h', toks := tk } → Xs Z A rest env Q E { s with heap := h', toks := tk })
    (hs : ∀ x, foldedSetIterable iter env x = pure x) :
    Xs Z A (.For target iter body [] pos :: rest) env Q E s := by
  refine Xs.cons (wpAny_For (hi.run s X _ _ fun I fp wr S h₁ t₁ O' T' g le tt h0 hO hwr hfp => ?_) hs)
  have T := T' O' (fun b h => h) (fun b h => .inl h)
  have hk : ∀ b, O b → O' b := fun b q => (hO b).mpr (.inl q)
  have X₁ : St Z env O' B (own' 0) (ρf 0) { s with heap := h₁, toks := t₁ } := X.more g tt le (fun b q => ((hO b).mp q).imp id fun z => hwr b z) hk
  have oldO : ∀ b o, s.heap.get? b = some o → ¬ wr b := fun b o e q => by rw [(hwr b q).1] at e; cases e
  let Bs : Addr → Obj → Prop := fun b o => B b o ∨ (h₁.get? b = some o ∧ ¬ O' b)
  have isO : ∀ i, ∀ p ∈ own' i, O p.1 := fun i p hp => by
    obtain ⟨q, hq, e⟩ := (isOwn_map (hm i)).mp ⟨p, hp, rfl⟩
    exact e ▸ (X.ownd q hq).1
  have notB : ∀ i, ∀ p ∈ own' i, ∀ o, ¬ B p.1 o := fun i p hp o e => by
    obtain ⟨q, hq, e'⟩ := (isOwn_map (hm i)).mp ⟨p, hp, rfl⟩
    exact X.ownB q hq o (e' ▸ e)
  have X₂ : St Z env O' Bs (own' 0) (ρf 0) { s with heap := h₁, toks := t₁ } := X₁.setB (fun b o e => .inl e) (fun b o e => e.elim (X₁.base b o) fun z => z.1) (fun b o q e => e.elim (X.tabB b o q) fun z => z.2 (tt.isO q)) (fun o e => e.elim (X.LB o) fun z => z.2 (hk _ X.OL)) (fun p hp o e => e.elim (X.ownB p hp o) fun z => z.2 (hk _ (X.ownd p hp).1))
  have wrB : ∀ b, wr b → ∀ o, ¬ Bs b o := fun b q o e => e.elim (fun z => oldO b o (X.base b o z) q) fun z => z.2 ((hO b).mpr (.inr q))
  have wrT : ∀ b, wr b → O' b ∧ ¬ isTab Z b := fun b q => ⟨(hO b).mpr (.inr q), fun z => by
    obtain ⟨o, e⟩ := X.Oex b (X.tabs.isO z)
    exact oldO b o e q⟩
  have wrL : ¬ wr env.locals := fun q => by
    obtain ⟨o, e⟩ := X.Oex _ X.OL
    exact oldO _ o e q
  have wrC : ∀ x c, env.kindOf x ≠ some .local → env.cells.lookup x = some c → ¬ wr c := fun x c hx hc q => by
    obtain ⟨ov, ⟨o, e, _⟩, _⟩ := X.cel x c hx hc
    exact oldO _ o e q
  have wrOwn : ∀ i, ∀ p ∈ own' i, ¬ wr p.1 := fun i p hp q => by
    obtain ⟨o, e⟩ := X.Oex _ (isO i p hp)
    exact oldO _ o e q
  refine codeAny_forLoop_any (fun n s' => ∃ h' tk, s' = { s with heap := h', toks := tk } ∧ ∃ i, i ≤ N ∧ n = N - i ∧ t₁ ≤ tk ∧ S i h' ∧ St Z env O' Bs (own' i) (ρf i) s') ?_ N ⟨h₁, t₁, rfl, 0, Nat.zero_le _, rfl, Nat.le_refl _, h0, X₂⟩
  rintro n _ ⟨h', tk, rfl, i, hi', rfl, htk, hS, X'⟩
  by_cases hlt : i < N
  · have hold : ∀ b o, ¬ O' b → h₁.get? b = some o → h'.get? b = some o := fun b o n e => X'.base b o (.inr ⟨e, n⟩)
    refine T.item i _ _ _ _ hlt hS hold X'.Oex htk (fun v s' h => h) fun v h₂ t₂ hS₂ k₂ le₂ r₂ => ?_
    have X₃ : St Z env O' Bs (own' i) (ρf i) { s with heap := h₂, toks := t₂ } := X'.wrd k₂ wrT wrB wrL wrC (wrOwn i) le₂ (fun b h => h) (fun q hq => hk _ (X.tabs q hq).1) X'.OL (fun p hp => (X'.ownd p hp).1) (fun b _ q => T.ex _ _ hS₂ b q)
    let Bi : Addr → Obj → Prop := fun b o => Bs b o ∨ (wr b ∧ h₂.get? b = some o)
    have X₄ : St Z env O' Bi (own' i) (ρf i) { s with heap := h₂, toks := t₂ } := X₃.setB (fun b o e => .inl e) (fun b o e => e.elim (X₃.base b o) fun z => z.2) (fun b o q e => e.elim (X₃.tabB b o q) fun z => (wrT b z.1).2 q) (fun o e => e.elim (X₃.LB o) fun z => wrL z.1) (fun p hp o e => e.elim (X₃.ownB p hp o) fun z => wrOwn i p hp z.1)
    refine wpAny_with_toks (n := t₁) (Nat.le_trans htk le₂) ((ha i hlt O' Bi).run _ v X₄ r₂ _ _ fun h₃ t₃ k₃ X₅ => fun le₃ => ?_)
    refine wpAny_with_toks (n := t₁) le₃ (hb i hlt O' Bi hk (fun b o e => .inl (.inl e)) _ X₅ _ _ fun h₄ t₄ X₆ => fun le₄ => ?_).run
    refine ⟨N - (i + 1), by omega, h₄, t₄, rfl, i + 1, hlt, rfl, ?_, ?_, ?_⟩
    · exact le₄
    · refine T.frame _ _ _ hS₂ fun b hb' o e => ?_
      rcases hfp b hb' with q | ⟨q, o', e'⟩
      · exact X₆.base b o (.inr ⟨q, e⟩)
      · have := X₃.base b o' (.inr ⟨e', q⟩)
        obtain rfl : o' = o := Option.some.inj (this.symm.trans e)
        exact X₆.base b o' (.inl (.inr ⟨e', q⟩))
    · exact X₆.lessB (fun b o e => .inl e) X₃.zone
  · obtain rfl : i = N := by omega
    refine T.done _ _ _ hS fun h₂ t₂ k₂ le₂ => ?_
    have X₃ : St Z env O Bs (own' i) (ρf i) { s with heap := h₂, toks := t₂ } := X'.wrd k₂ wrT wrB wrL wrC (wrOwn i) le₂ hk (fun q hq => (X.tabs q hq).1) X.OL (isO i) (fun b q q' => by
      obtain ⟨o, e⟩ := X.Oex b q
      exact absurd q' (oldO b o e))
    exact wpAny_execs_nil (k h₂ t₂ (X₃.lessB (fun b o e => .inl e) X.zone))
theorem x_for {h₀ : Heap} {t₀ : Nat} {target iter : PySem.Expr} {body rest : List Stmt} {pos : Pos} {N : Nat} {P : Nat → D} {Q : Flow → Shared → Prop} (own' : Nat → List (Addr × List D)) (ρf ρa : Nat → Rho) (hm : ∀ i, (own' i).map (·.1) = (own' 0).map (·.1)) (X : St Z env O B (own' 0) (ρf 0) { s with heap := h₀, toks := t₀ })
    (hi : It Z A env O B (own' 0) (ρf 0) target iter N P)
    (ha : ∀ i, i < N → ∀ O' B', Asg Z A env O' B' (own' i) (ρf i) (assign target env) (P i) (ρa i))
    (hb : ∀ i, i < N → ∀ O' B', (∀ b, O b → O' b) → (∀ b o, B b o → B' b o) → ∀ s, St Z env O' B' (own' i) (ρa i) s → ∀ (Q : Flow → Shared → Prop) (E : Value → Shared → Prop), (∀ h' tk, St Z env O' B' (own' (i + 1)) (ρf (i + 1)) { s with heap := h', toks := tk } → Q .next { s with heap := h', toks := tk }) → Xs Z A body env Q E s)
    (k : ∀ h' tk, St Z env O B (own' N) (ρf N) { s with heap := h', toks := tk } → Xs Z A rest env Q E { s with heap := h', toks := tk })
    (hs : ∀ x, foldedSetIterable iter env x = pure x := by intro _; rfl) :
    Xs Z A (.For target iter body [] pos :: rest) env Q E { s with heap := h₀, toks := t₀ } := x_forz own' ρf ρa hm X hi ha hb k hs
end
end Mine

open PySem PySem.W PyProof.Rows PySem.Calls
set_option Elab.async false
set_option linter.all false
set_option maxRecDepth 100000
namespace Mine
/-- the i-th of a list of data -/
noncomputable def nth (ds : List D) (i : Nat) : D := ds.getD i .none
theorem nth_eq {ds : List D} {i : Nat} (h : i < ds.length) : ds[i]? = some (nth ds i) := by
  unfold nth
  rw [List.getD_eq_getElem?_getD]
  simp [h]
section
variable {Z : Zone} {A : Around} {env : Env} {O O' : Addr → Prop} {B : Addr → Obj → Prop} {own own' : List (Addr × List D)} {ρ ρ' : Rho} {s : Shared} {E : Value → Shared → Prop} {h' h₁ : Heap} {tk t₁ : Nat}
theorem Tab.fresh {h : Heap} (t : Tab Z O h) (k : ∀ b o, h.get? b = some o → h'.get? b = some o) (hN : ∀ b, O' b → O b ∨ h.get? b = none) (hk : ∀ b, O b → O' b) : Tab Z O' h' :=
  (t.more (fun b o e q => (hN b q).elim id fun z => by rw [z] at e; cases e) hk).stay k
theorem Turns.ofWalks {target : PySem.Expr} {I : Addr} {fp wr : List Addr} {N : Nat} {P : Nat → D} {Pv : Nat → Value → Prop} {S : Nat → Heap → Prop} (W : Walks Z.prog Z.w A I fp wr N Pv S) (ht : ∀ it v, letOwnedTupleGo target it v = pure ()) (hex : ∀ i h, S i h → ∀ b ∈ wr, ∃ o, h.get? b = some o)
    (hP : ∀ i v, i < N → Pv i v → Rep O' h₁ t₁ (P i) v) (hwO : ∀ b ∈ wr, O' b) : Turns Z A O' target (.ref I) (· ∈ fp) (· ∈ wr) N P S h₁ t₁ where
  sub := W.sub
  frame := W.frame
  ex := hex
  item := fun i s R Q E hi hS hold hex' hle hR k => by
    refine wpAny_with_toks (n := s.toks) (Nat.le_refl _) (W.item i s _ _ hi hS fun v h' tk hv hS' kk => fun le => ?_)
    refine hR v _ ?_
    rw [ht]
    refine wpAny_pure (k v h' tk hS' kk le ?_)
    have r := hP i v hi hv
    exact Rep.keep (fun b o n e => ⟨kk b o (fun q => n (hwO b q)) (hold b o n e), n⟩) (Nat.le_trans hle le) _ r
  done := fun s Q E hS k => wpAny_with_toks (n := s.toks) (Nat.le_refl _) (W.done s _ _ hS fun h' tk kk => fun le => k h' tk kk le)
  self := W.self
theorem Turns.ofWalksT {elts : List PySem.Expr} {tk0 : Nat} {tpos : Pos} {I : Addr} {fp wr : List Addr} {N : Nat} {ps : Nat → List D} {Pt : Nat → Array Value → Prop} {S : Nat → Heap → Prop} {Mid : Nat → Addr → Heap → Prop} (W : WalksT Z.prog Z.w A I fp wr N Pt S Mid) (hex : ∀ i h, S i h → ∀ b ∈ wr, ∃ o, h.get? b = some o)
    (hP : ∀ i vals, i < N → Pt i vals → Reps O' h₁ t₁ (ps i) vals.toList) (hwO : ∀ b ∈ wr, O' b) : Turns Z A O' (.Tuple elts tk0 tpos) (.ref I) (· ∈ fp) (· ∈ wr) N (fun i => .tup (ps i)) S h₁ t₁ where
  sub := W.sub
  frame := W.frame
  ex := hex
  item := fun i s R Q E hi hS hold hex' hle hR k => by
    refine wpAny_with_toks (n := s.toks) (Nat.le_refl _) (W.item i s _ _ hi hS fun T vals h' tk hv hT hTup hM kk => fun le => ?_)
    refine hR _ _ ?_
    refine W.go elts tk0 tpos i T _ _ _ hM fun h'' hS' kk' => ?_
    have hTw : T ∉ wr := W.apart i T _ hM
    refine k _ h'' tk hS' (fun b o n e => kk' b o n (kk b o n e)) le ?_
    simp only [Rep]
    obtain ⟨o, ho, hd⟩ := hTup
    refine ⟨T, vals.toList, rfl, fun q => ?_, ⟨o, kk' T o hTw ho, by simpa using hd⟩, ?_⟩
    · obtain ⟨o', e⟩ := hex' T q
      have := Heap.lt_size e
      exact absurd this (Nat.not_lt.mpr hT)
    · exact Reps.keep (fun b o n e => ⟨kk' b o (fun q => n (hwO b q)) (kk b o (fun q => n (hwO b q)) (hold b o n e)), n⟩) (Nat.le_trans hle le) _ (hP i vals hi hv)
  done := fun s Q E hS k => wpAny_with_toks (n := s.toks) (Nat.le_refl _) (W.done s _ _ hS fun h' tk kk => fun le => k h' tk kk le)
  self := W.self
theorem Reps.nth {h : Heap} {T : Nat} {ds : List D} {vs : List Value} {i : Nat} {v : Value} (r : Reps O h T ds vs) (e : vs[i]? = some v) : Rep O h T (nth ds i) v := by
  have hl := r.length
  have hi : i < vs.length := (List.getElem?_eq_some_iff.mp e).1
  obtain ⟨v', e', r'⟩ := r.at (nth_eq (ds := ds) (i := i) (by omega))
  rw [e] at e'; cases e'
  exact r'
theorem get_ne {h : Heap} {a b : Addr} {o : Obj} (h1 : h.get? a = some o) (h2 : h.get? b = none) : a ≠ b := fun e => by rw [e, h2] at h1; cases h1
theorem get_ge {h : Heap} {a : Addr} (ha : h.objs.size ≤ a) : h.get? a = none := Heap.get?_none_of_le ha
theorem Rep.fresh {h h₂ : Heap} {T T' : Nat} {d : D} {v : Value} (r : Rep O h T d v) (kp : ∀ b o, h.get? b = some o → h₂.get? b = some o) (hN : ∀ b, O' b → O b ∨ h.get? b = none) (hT : T ≤ T') : Rep O' h₂ T' d v :=
  Rep.keep (fun b o n e => ⟨kp b o e, fun q => (hN b q).elim n fun z => by rw [z] at e; cases e⟩) hT d r
theorem Reps.fresh {h h₂ : Heap} {T T' : Nat} {d : List D} {v : List Value} (r : Reps O h T d v) (kp : ∀ b o, h.get? b = some o → h₂.get? b = some o) (hN : ∀ b, O' b → O b ∨ h.get? b = none) (hT : T ≤ T') : Reps O' h₂ T' d v :=
  Reps.keep (fun b o n e => ⟨kp b o e, fun q => (hN b q).elim n fun z => by rw [z] at e; cases e⟩) hT d r
theorem It.fin {target : PySem.Expr} {I : Value} {fp wr : List Addr} {N : Nat} {P : Nat → D} {S : Nat → Heap → Prop} {h₂ : Heap} {t₂ : Nat} {Q : Value → Shared → Prop} (X : St Z env O B own ρ s) (g₁ : Grow Z O s.heap h₁) (le₁ : s.toks ≤ t₁) (kp : ∀ b o, h₁.get? b = some o → h₂.get? b = some o) (le₂ : t₁ ≤ t₂)
    (hwr : ∀ b ∈ wr, h₁.get? b = none ∧ ∃ o, h₂.get? b = some o) (hfp : ∀ b ∈ fp, b ∈ wr ∨ (¬ O b ∧ ∃ o, h₂.get? b = some o)) (T : ∀ O'', (∀ b ∈ wr, O'' b) → (∀ b, O'' b → O b ∨ h₁.get? b = none) → Turns Z A O'' target I (· ∈ fp) (· ∈ wr) N P S h₂ t₂) (hS : S 0 h₂)
    (k : ∀ I fp wr S h₁ t₁ O', (∀ O'', (∀ b, O' b → O'' b) → (∀ b, O'' b → O' b ∨ h₁.get? b = none) → Turns Z A O'' target I fp wr N P S h₁ t₁) → Grow Z O s.heap h₁ → s.toks ≤ t₁ → Tab Z O' h₁ → S 0 h₁ → (∀ b, O' b ↔ O b ∨ wr b) → (∀ b, wr b → s.heap.get? b = none ∧ ∃ o, h₁.get? b = some o) → (∀ b, fp b → wr b ∨ (¬ O' b ∧ ∃ o, h₁.get? b = some o)) → Q I { s with heap := h₁, toks := t₁ }) :
    Q I { s with heap := h₂, toks := t₂ } := by
  have X₁ := X.grow g₁ le₁
  have hN : ∀ b, (O b ∨ b ∈ wr) → O b ∨ h₁.get? b = none := fun b q => q.imp id fun z => (hwr b z).1
  refine k I (· ∈ fp) (· ∈ wr) S h₂ t₂ (fun b => O b ∨ b ∈ wr) (fun O'' ho hn => T O'' (fun b hb => ho b (.inr hb)) fun b q => ?_) (g₁.trans (Grow.of X₁.tabs kp)) (Nat.le_trans le₁ le₂) (Tab.fresh X₁.tabs kp hN fun b q => .inl q) hS (fun b => Iff.rfl) (fun b hb => ⟨?_, (hwr b hb).2⟩) fun b hb => ?_
  · rcases hn b q with z | z
    · exact hN b z
    · refine .inr ?_
      cases e : h₁.get? b with
      | none => rfl
      | some o => rw [kp b o e] at z; cases z
  · cases e : s.heap.get? b with
    | none => rfl
    | some o => obtain ⟨o', e'⟩ := g₁.2.1 _ o e; rw [(hwr b hb).1] at e'; cases e'
  · by_cases q : b ∈ wr
    · exact .inl q
    · rcases hfp b hb with z | ⟨z, z'⟩
      · exact .inl z
      · exact .inr ⟨fun w => w.elim z q, z'⟩
/-- a list, walked -/
theorem it_list {target iter : PySem.Expr} {ds : List D} (hA : A.handled = none) (he : Ev Z A env O B own ρ iter (.lst ds)) (ht : ∀ it v, letOwnedTupleGo target it v = pure () := by intro _ _; rfl) : It Z A env O B own ρ target iter ds.length (nth ds) := .mk fun s X Q E k =>
  he.run s X _ _ fun v h₁ t₁ g₁ le₁ r₁ => by
    simp only [Rep] at r₁
    obtain ⟨a, vs, rfl, no, hl, rs⟩ := r₁
    refine wpAny_pyIter_list hl ?_
    obtain ⟨oa, ea, hoa⟩ := id hl
    have fr : h₁.get? h₁.objs.size = none := get_size _
    have kp : ∀ b o, h₁.get? b = some o → (h₁.push { cls := .type "list_iterator", data := .fields #[.ref a, .int 0 0] }).get? b = some o := fun b o e => Heap.get?_push_of_some _ e
    have W := Walks.list (prog := Z.prog) (w := Z.w) hA h₁.objs.size a (get_ne ea fr) vs.toArray
    rw [show vs.toArray.size = ds.length by simpa using rs.length] at W
    refine It.fin (s := s) (Q := Q) (t₂ := t₁) (wr := [h₁.objs.size]) X g₁ le₁ kp (Nat.le_refl _) (fun b hb => ?_) (fun b hb => ?_) (fun O'' hwO hN => Turns.ofWalks W ht (fun i h hS b hb => ?_) (fun i v hi hv => ?_) hwO) ?_ k
    · simp at hb; subst hb; exact ⟨fr, _, Heap.get?_push_size _ rfl⟩
    · simp only [List.mem_cons, List.not_mem_nil, or_false] at hb
      rcases hb with rfl | rfl
      · exact .inl (by simp)
      · exact .inr ⟨no, _, kp _ _ ea⟩
    · obtain ⟨⟨o, e, _⟩, _⟩ := hS
      simp at hb; rw [hb]; exact ⟨o, e⟩
    · exact (rs.nth (i := i) (v := v) (by simpa using hv)).fresh kp hN (Nat.le_refl _)
    · exact ⟨⟨_, Heap.get?_push_size _ rfl, rfl, rfl⟩, ⟨oa, kp _ _ ea, hoa⟩⟩
theorem it_tuple {target iter : PySem.Expr} {ds : List D} (hA : A.handled = none) (he : Ev Z A env O B own ρ iter (.tup ds)) (ht : ∀ it v, letOwnedTupleGo target it v = pure () := by intro _ _; rfl) : It Z A env O B own ρ target iter ds.length (nth ds) := .mk fun s X Q E k =>
  he.run s X _ _ fun v h₁ t₁ g₁ le₁ r₁ => by
    simp only [Rep] at r₁
    obtain ⟨a, vs, rfl, no, hl, rs⟩ := r₁
    refine wpAny_pyIter_tuple hl ?_
    obtain ⟨oa, ea, hoa⟩ := id hl
    have fr : h₁.get? h₁.objs.size = none := get_size _
    have kp : ∀ b o, h₁.get? b = some o → (h₁.push { cls := .type "tuple_iterator", data := .fields #[.ref a, .int 0 0] }).get? b = some o := fun b o e => Heap.get?_push_of_some _ e
    have W := Walks.tuple (prog := Z.prog) (w := Z.w) hA h₁.objs.size a (get_ne ea fr) vs.toArray
    rw [show vs.toArray.size = ds.length by simpa using rs.length] at W
    refine It.fin (s := s) (Q := Q) (t₂ := t₁) (wr := [h₁.objs.size]) X g₁ le₁ kp (Nat.le_refl _) (fun b hb => ?_) (fun b hb => ?_) (fun O'' hwO hN => Turns.ofWalks W ht (fun i h hS b hb => ?_) (fun i v hi hv => ?_) hwO) ?_ k
    · simp at hb; subst hb; exact ⟨fr, _, Heap.get?_push_size _ rfl⟩
    · simp only [List.mem_cons, List.not_mem_nil, or_false] at hb
      rcases hb with rfl | rfl
      · exact .inl (by simp)
      · exact .inr ⟨no, _, kp _ _ ea⟩
    · obtain ⟨⟨o, e, _⟩, _⟩ := hS
      simp at hb; rw [hb]; exact ⟨o, e⟩
    · exact (rs.nth (i := i) (v := v) (by simpa using hv)).fresh kp hN (Nat.le_refl _)
    · exact ⟨⟨_, Heap.get?_push_size _ rfl, rfl, rfl⟩, ⟨oa, kp _ _ ea, hoa⟩⟩
/-- a call of a type, its arguments evaluated -/
theorem callT_split {f e : PySem.Expr} {es : List PySem.Expr} {pos : Pos} {T : String} {ds : List D} {Q : Value → Shared → Prop} (X : St Z env O B own ρ s) (hf : Ev Z A env O B own ρ f (.val (.type T))) (ha : Evs Z A env O B own ρ pos (e :: es) ds)
    (hc : ∀ vs h' tk, Grow Z O s.heap h' → s.toks ≤ tk → Reps O h' tk ds vs → wpAny (model Z.prog Z.w) A (call (.type T) vs) Q E { s with heap := h', toks := tk })
    (he : eval (.Call f (e :: es) [] pos) env = (do callWith pos (← eval f env) [] (backTo pos (starEach (e :: es) env)) (backToKw pos (keywordEach [] env))) := by rfl)
    (hs : starEach (e :: es) env = (false, eval e env) :: starEach es env := by rfl) (hp : (backTo pos (starEach es env)).any (·.1) = false := by rfl) : wpAny (model Z.prog Z.w) A (eval (.Call f (e :: es) [] pos) env) Q E s := by
  rw [he]
  refine wpAny_bind (hf.run s X _ _ fun v h₁ t₁ g₁ le₁ r₁ => ?_)
  simp only [Rep] at r₁
  subst r₁
  refine PyProof.Rows.callWith_type1 (ha.run _ (X.grow g₁ le₁) _ _ fun vs h₂ t₂ g₂ le₂ r₂ => ?_) hs hp
  exact hc vs h₂ t₂ (g₁.trans g₂) (Nat.le_trans le₁ le₂) r₂
/-- reversed(a list) -/
theorem it_rev {target f e : PySem.Expr} {pos : Pos} {ds : List D} (hA : A.handled = none) (hf : Ev Z A env O B own ρ f (.val (.type "reversed"))) (he : Ev Z A env O B own ρ e (.lst ds)) (ht : ∀ it v, letOwnedTupleGo target it v = pure () := by intro _ _; rfl)
    (h1 : eval (.Call f [e] [] pos) env = (do callWith pos (← eval f env) [] (backTo pos (starEach [e] env)) (backToKw pos (keywordEach [] env))) := by rfl)
    (h2 : starEach [e] env = (false, eval e env) :: starEach [] env := by rfl) : It Z A env O B own ρ target (.Call f [e] [] pos) ds.length (nth ds.reverse) := .mk fun s X Q E k => by
  refine callT_split X hf (evs_cons he evs_nil h2) (fun vs h₁ t₁ g₁ le₁ r => ?_) h1 h2 rfl
  simp only [Reps, Rep] at r
  obtain ⟨_, _, rfl, ⟨a, vs, rfl, no, hl, rs⟩, rfl⟩ := r
  refine call_reversed_list hl ?_
  obtain ⟨oa, ea, hoa⟩ := id hl
  have fr : h₁.get? h₁.objs.size = none := get_size _
  have hlen : vs.length = ds.length := rs.length
  have kp : ∀ b o, h₁.get? b = some o → (h₁.push (revObj a ((vs.toArray.size : Int) - 1))).get? b = some o := fun b o e => Heap.get?_push_of_some _ e
  have hI : (h₁.push (revObj a ((vs.toArray.size : Int) - 1))).IsRevIter h₁.objs.size a ((vs.toArray.size : Int) - 1) := ⟨_, Heap.get?_push_size _ rfl, rfl, rfl⟩
  refine wpAny_pyIter_revIter (l := a) (i := (vs.toArray.size : Int) - 1) hI ?_
  have W := Walks.listRev (prog := Z.prog) (w := Z.w) hA h₁.objs.size a (get_ne ea fr) vs.toArray
  rw [show vs.toArray.size = ds.length by simpa using hlen] at W
  refine It.fin (s := s) (Q := Q) (t₂ := t₁) (wr := [h₁.objs.size]) X g₁ le₁ kp (Nat.le_refl _) (fun b hb => ?_) (fun b hb => ?_) (fun O'' hwO hN => Turns.ofWalks W ht (fun i h hS b hb => ?_) (fun i v hi hv => ?_) hwO) ?_ k
  · simp at hb; subst hb; exact ⟨fr, _, Heap.get?_push_size _ rfl⟩
  · simp only [List.mem_cons, List.not_mem_nil, or_false] at hb
    rcases hb with rfl | rfl
    · exact .inl (by simp)
    · exact .inr ⟨no, _, kp _ _ ea⟩
  · obtain ⟨_, ⟨o, e, _⟩, _⟩ := hS
    simp at hb; rw [hb]; exact ⟨o, e⟩
  · exact (rs.reverse.nth (i := i) (v := v) (by
      rw [List.getElem?_reverse (by omega), hlen]
      simpa using hv)).fresh kp hN (Nat.le_refl _)
  · exact ⟨Nat.zero_le _, by simpa [hlen] using hI, ⟨oa, kp _ _ ea, hoa⟩⟩
end
end Mine

open PySem PySem.W PyProof.Rows PySem.Calls
set_option Elab.async false
set_option linter.all false
set_option maxRecDepth 100000
namespace Mine
section
variable {Z : Zone} {A : Around} {env : Env} {O O' : Addr → Prop} {B : Addr → Obj → Prop} {own own' : List (Addr × List D)} {ρ ρ' : Rho} {s : Shared} {E : Value → Shared → Prop} {h' h₁ : Heap} {tk t₁ : Nat}
/-- an own list becomes a datum -/
theorem St.share {a : Addr} {ds : List D} {x : PySem.Str} (X : St Z env O' B ((a, ds) :: own) ρ s) (hx : env.kindOf x = some .local) (hg : get ρ x = some (.val (.ref a))) (hO' : ∀ b, O' b ↔ O b ∨ b = a) (hn : ¬ O a) (hL : O env.locals) (ho : ∀ p ∈ own, O p.1) (hq : ∀ q ∈ Z.tl, O q.P) : St Z env O B own ((x, .lst ds) :: ρ) s := by
  obtain ⟨X₁, r₁⟩ := X.drop hO' hn hL ho hq
  exact { X₁ with
    loc := by
      obtain ⟨m, hm, rr⟩ := X₁.loc
      refine ⟨m, hm, fun y d hk hg' => ?_⟩
      rcases get_put hg' with ⟨rfl, rfl⟩ | ⟨_, hg'⟩
      · obtain ⟨v, e, p⟩ := rr y _ hk hg
        simp only [Rep] at p
        subst p
        exact ⟨_, e, r₁⟩
      · exact rr y d hk hg'
    cel := fun y c hy hc => by
      obtain ⟨ov, hv, rr⟩ := X₁.cel y c hy hc
      refine ⟨ov, hv, fun d hg' => ?_⟩
      rcases get_put hg' with ⟨rfl, rfl⟩ | ⟨_, hg'⟩
      · exact absurd hx hy
      · exact rr d hg' }
/-- a call of a def of the zone, by its contract -/
theorem ev_fn {fe e : PySem.Expr} {es : List PySem.Expr} {pos : Pos} {f : Addr} {o : Obj} {fd : FuncData} {k : Nat} {ds : List D} {d : D} (hZ : Z.H.get? f = some o) (hd : o.data = .func fd) (hF : Fn Z f k ds d) (hA : A.handled = none) (hdep : A.depth + k < recursionLimit) (hf : Ev Z A env O B own ρ fe (.val (.ref f))) (ha : Evs Z A env O B own ρ pos (e :: es) ds)
    (he : eval (.Call fe (e :: es) [] pos) env = (do callWith pos (← eval fe env) [] (backTo pos (starEach (e :: es) env)) (backToKw pos (keywordEach [] env))) := by rfl)
    (hs : starEach (e :: es) env = (false, eval e env) :: starEach es env := by rfl) : Ev Z A env O B own ρ (.Call fe (e :: es) [] pos) d := .mk fun s X Q E kk =>
  (ev_callF (X.zone _ _ hZ) hd hf ha (fun s' vs X' r' => Cp.call (hF.run A O s' vs hA hdep X'.wd r')) he hs).run s X Q E kk
end
end Mine

open PySem PySem.W PyProof.Rows PySem.Calls
set_option Elab.async false
set_option linter.all false
set_option maxRecDepth 100000
namespace Mine
/-- long division, digit by digit; the lists have the lowest digit first -/
noncomputable def ldiv (n : Nat) (b : Int) : List Int → List Int × Int
  | [] => ([], 0)
  | d :: l => (((ldiv n b l).2 * 2 ^ n + d) / b :: (ldiv n b l).1, ((ldiv n b l).2 * 2 ^ n + d) % b)
theorem ldiv_rem {n : Nat} {b : Int} (hb : 0 < b) : ∀ l, 0 ≤ (ldiv n b l).2 ∧ (ldiv n b l).2 < b
  | [] => by simp [ldiv]; exact hb
  | d :: l => ⟨Int.emod_nonneg _ (Int.ne_of_gt hb), Int.emod_lt_of_pos _ hb⟩
theorem ldiv_len {n : Nat} {b : Int} : ∀ l, (ldiv n b l).1.length = l.length
  | [] => rfl
  | d :: l => by simp [ldiv, ldiv_len l]
theorem ldiv_val {n : Nat} {b : Int} : ∀ l, dsum n l = b * dsum n (ldiv n b l).1 + (ldiv n b l).2
  | [] => by simp [ldiv, dsum]
  | d :: l => by
    simp only [ldiv, dsum]
    rw [ldiv_val l]
    generalize dsum n (ldiv n b l).1 = q
    generalize (ldiv n b l).2 = r
    have h := Int.emod_add_mul_ediv (r * 2 ^ n + d) b
    have e1 : (2 : Int) ^ n * (b * q + r) = b * (2 ^ n * q) + r * 2 ^ n := by rw [Int.mul_add, ← Int.mul_assoc, Int.mul_comm (2 ^ n) b, Int.mul_assoc, Int.mul_comm (2 ^ n) r]
    rw [e1, Int.mul_add]
    omega
theorem ldiv_cur {n : Nat} {b : Int} (hb : 0 < b) {l : List Int} {d : Int} (hd : 0 ≤ d ∧ d < 2 ^ n) : 0 ≤ (ldiv n b l).2 * 2 ^ n + d ∧ (ldiv n b l).2 * 2 ^ n + d < b * 2 ^ n := by
  have h := ldiv_rem (n := n) hb l
  have h1 : 0 ≤ (ldiv n b l).2 * 2 ^ n := Int.mul_nonneg h.1 (Int.le_of_lt (two_pos n))
  have h2 : ((ldiv n b l).2 + 1) * 2 ^ n ≤ b * 2 ^ n := Int.mul_le_mul_of_nonneg_right h.2 (Int.le_of_lt (two_pos n))
  rw [Int.add_mul, Int.one_mul] at h2
  omega
theorem ldiv_digits {n : Nat} {b : Int} (hb : 0 < b) : ∀ {l : List Int}, (∀ d ∈ l, 0 ≤ d ∧ d < 2 ^ n) → ∀ d ∈ (ldiv n b l).1, 0 ≤ d ∧ d < 2 ^ n
  | [], _, d, h => nomatch h
  | x :: l, hl, d, h => by
    rcases List.mem_cons.mp h with rfl | h
    · have := ldiv_cur hb (l := l) (hl x (.head _))
      exact ⟨Int.ediv_nonneg this.1 (Int.le_of_lt hb), Int.ediv_lt_of_lt_mul hb (by rw [Int.mul_comm (2 ^ n) b]; exact this.2)⟩
    · exact ldiv_digits hb (fun y hy => hl y (.tail _ hy)) d h
section
variable {Z : Zone} {A : Around} {env : Env} {O : Addr → Prop} {B : Addr → Obj → Prop} {own : List (Addr × List D)} {ρ ρ' : Rho} {s : Shared}
abbrev St.theS (_ : St Z env O B own ρ s) : Shared := s
theorem fn_divmod_pos (G : ZL Z) {a b : Int} (h0 : 0 ≤ a) (ha : a < 2 ^ 64) (hb : 0 < b) (hb2 : b < 2 ^ 64) : Fn Z 66 100 [.int a, .int b] (.tup [.int (a / b), .int (a % b)]) := .mk <| by
  intro A O s vs hA hdep W r
  have r' := r
  simp only [Reps] at r'
  obtain ⟨v1, _, rfl, r1, v2, _, rfl, r2, rfl⟩ := r'
  refine fn_enterP (ns := ["a", "b"]) G.toZoneOk W (dep0 hdep) (G.K 66 _ rfl) rfl (codeRec_of (Frag.In.keeps G.K W.zone) rfl) rfl rfl (by decide) (by decide) (by decide) rfl rfl rfl r (fun _ => rfl) ?_
  intro L h₁ t₁ X Q E k
  have ok := envOk_of X rfl rfl rfl
  have hbits : Builtin.Int.intBits b ≤ 64 := intBits_of_lt (Int.le_of_lt hb) hb2
  have hb3 : b < 2 ^ Builtin.Int.intBits b := by
    have h1 := natAbs_lt_pow_bits b
    have : ((2 ^ Builtin.Int.intBits b : Nat) : Int) = 2 ^ Builtin.Int.intBits b := by simp
    omega
  refine x_assign X (ev_bitlen (ev_local rfl)) asg_store fun h₂ t₂ X₂ => ?_
  generalize hnb : Builtin.Int.intBits b = n at X₂ hbits hb3
  have hn0 : 0 < n := by
    rcases Nat.eq_zero_or_pos n with h | h
    · rw [h] at hb3; simp at hb3; omega
    · exact h
  refine x_assign X₂ (ev_fn (G.K 52 _ rfl) rfl (fn_int2digits G h0 ha hn0 hbits) hA (dep (a := A.depth) (m := 100) (n := 81) hdep) (ev_g G.toZK ok rfl) (evs_cons (ev_local rfl) (evs_cons (ev_local rfl) evs_nil))) asg_store fun h₃ t₃ X₃ => ?_
  have hval := dsum_digs n (dcount n a) h0 (dcount_ok hn0 h0)
  have hdig := digs_ok n (dcount n a) a
  have hlen : (digs n a (dcount n a)).length ≤ 64 := by
    rw [digs_length]
    exact Nat.le_trans (dcount_le hn0) (intBits_of_lt h0 ha)
  generalize digs n a (dcount n a) = l at X₃ hval hdig hlen
  refine x_assign X₃ ev_int asg_store fun h₄ t₄ X₄ => ?_
  refine x_ownL X₄ rfl rfl (evn_lst evs_nil) rfl fun al h₅ t₅ hBa hOa X₅ => ?_
  have ok5 := envOk_of X₅ rfl rfl rfl
  let ρ0 : Rho := [("q_digits", .val (.ref al)), ("a_digits", .lst (l.map .int)), ("n", .int n), ("a", .int a), ("b", .int b)]
  have X₆ := X₅.sub (ρ' := ("r", .int 0) :: ρ0) ⟨rfl, rfl, rfl, rfl, rfl, rfl, trivial⟩
  let F : Nat → List Int × Int := fun i => ldiv n b (l.drop (l.length - i))
  have hF0 : F 0 = ([], 0) := by simp [F, ldiv]
  have hFs : ∀ i, i < l.length → ∃ d, l[l.length - 1 - i]? = some d ∧ 0 ≤ d ∧ d < 2 ^ n ∧ F (i + 1) = (((F i).2 * 2 ^ n + d) / b :: (F i).1, ((F i).2 * 2 ^ n + d) % b) := fun i hi => by
    have h1 : l.length - (i + 1) < l.length := Nat.sub_lt (Nat.lt_of_le_of_lt (Nat.zero_le i) hi) (Nat.succ_pos i)
    refine ⟨l[l.length - (i + 1)], ?_, (hdig _ (List.getElem_mem _)).1, (hdig _ (List.getElem_mem _)).2, ?_⟩
    · rw [Nat.sub_sub, Nat.add_comm 1]; simp [h1]
    · simp only [F]
      rw [List.drop_eq_getElem_cons h1, sub_s hi]
      rfl
  have X₇ : St Z X₅.theEnv X₅.theO X₅.theB [(al, (F 0).1.reverse.map .int)] (("r", .int (F 0).2) :: ρ0) X₆.theS := by rw [hF0]; exact X₆
  refine x_for (N := (l.map D.int).length) (fun i => [(al, (F i).1.reverse.map .int)]) (fun i => ("r", .int (F i).2) :: ρ0) (fun i => ("a_digit", nth (l.map D.int).reverse i) :: ("r", .int (F i).2) :: ρ0) (fun i => rfl) X₇
    (it_rev hA (ev_b G.toZK ok5 rfl rfl) (ev_local rfl)) (fun i hi O' B' => asg_name) (fun i hi O' B' hO' hB' s X Q E kk => ?_) fun h₆ t₆ X₈ => ?_
  · have hi' : i < l.length := by simpa using hi
    obtain ⟨d, hd1, hd0, hd2, hF1⟩ := hFs i hi'
    have hnth : nth (l.map D.int).reverse i = .int d := by
      unfold nth
      rw [List.getD_eq_getElem?_getD, List.getElem?_reverse (by simpa using hi')]
      simp only [List.length_map, List.getElem?_map, hd1]
      rfl
    rw [hnth] at X
    have hr := ldiv_rem (n := n) hb (l.drop (l.length - i))
    have hc := ldiv_cur (n := n) hb (l := l.drop (l.length - i)) ⟨hd0, hd2⟩
    have hrb : Builtin.Int.intBits (F i).2 ≤ 64 := intBits_of_lt hr.1 (Int.lt_trans hr.2 hb2)
    have hcb : Builtin.Int.intBits ((F i).2 * 2 ^ n + d) ≤ 64 + n := intBits_of_lt hc.1 (Int.lt_of_lt_of_le hc.2 (by
      rw [Int.pow_add]
      exact Int.mul_le_mul_of_nonneg_right (Int.le_of_lt hb2) (Int.le_of_lt (two_pos n))))
    refine x_tup X (d := .tup [.int (((F i).2 * 2 ^ n + d) / b), .int (((F i).2 * 2 ^ n + d) % b)]) (Ev.cast (ev_fn (G.K 38 _ rfl) rfl (fn_div2n1n G.toZK (n := n) (Int.ne_of_gt hb) (na_pow (Int.le_of_lt hb) hb2) ?_) hA (dep (a := A.depth) (m := 100) (n := 6) hdep) (ev_g G.toZK ok5 rfl) (evs_cons (ev_bin (ev_bin (ev_local rfl) (ev_local rfl) (op_shl (Int.natCast_nonneg _) (by omega))) (ev_local rfl) op_add) (evs_cons (ev_local rfl) (evs_cons (ev_local rfl) evs_nil)))) ?_)
      (asg_tup hA (asgs_cons asg_name (asgs_cons asg_name asgs_nil))) fun h₂ t₂ X₂ => ?_
    · simp only [Int.toNat_natCast]; omega
    · simp only [Int.toNat_natCast]
      rw [Int.fdiv_eq_ediv_of_nonneg _ (Int.le_of_lt hb), Int.fmod_eq_emod_of_nonneg _ (Int.le_of_lt hb)]
    · refine x_appO (own₁ := []) (own₂ := []) X₂ (ev_local rfl) (ev_local rfl) ?_ fun h₃ t₃ X₃ => ?_
      · simp only [List.length_map, List.length_reverse]
        have := ldiv_len (n := n) (b := b) (l.drop (l.length - i))
        simp only [F]
        rw [this]
        simp [sizeLine]
        omega
      · refine x_nil (kk _ _ ?_)
        have e : (List.map D.int (F i).1.reverse ++ [D.int (((F i).2 * 2 ^ n + d) / b)]) = (F (i + 1)).1.reverse.map .int := by rw [hF1]; simp
        rw [List.nil_append, e] at X₃
        have e2 : ((F i).2 * 2 ^ n + d) % b = (F (i + 1)).2 := by rw [hF1]
        rw [e2] at X₃
        exact X₃.sub ⟨rfl, rfl, rfl, rfl, rfl, rfl, trivial⟩
  · have hFN : F (l.map D.int).length = ldiv n b l := by simp [F]
    have hlq := ldiv_len (n := n) (b := b) l
    rw [hFN] at X₈
    refine x_revO (own₁ := []) (own₂ := []) X₈ (ev_local rfl) (by simp [sizeLine]; omega) fun h₇ t₇ X₉ => ?_
    rw [List.nil_append, show ((ldiv n b l).1.reverse.map D.int).reverse = (ldiv n b l).1.map .int by simp] at X₉
    have X₁₀ := X₉.share (x := "q_digits") rfl rfl (fun b => Iff.rfl) hOa X.OL (fun p hp => nomatch hp) (fun q hq => (X.tabs q hq).1)
    refine x_assign X₁₀ (ev_fn (G.K 59 _ rfl) rfl (fn_digits2int G hbits (by omega) (ldiv_digits hb hdig)) hA (dep (a := A.depth) (m := 100) (n := 81) hdep) (ev_g G.toZK ok rfl) (evs_cons (ev_local rfl) (evs_cons (ev_local rfl) evs_nil))) asg_store fun h₈ t₈ X₁₁ => ?_
    have hv := ldiv_val (n := n) (b := b) l
    rw [hval] at hv
    have hr := ldiv_rem (n := n) hb l
    have hu := (Int.ediv_emod_unique (a := a) (b := b) (r := (ldiv n b l).2) (q := dsum n (ldiv n b l).1) hb).mpr ⟨by rw [Int.add_comm]; exact hv.symm, hr⟩
    have hq := hu.1.symm
    have hr2 := hu.2.symm
    rw [hq, hr2] at X₁₁
    exact x_ret X₁₁ (ev_tup (evs_cons (ev_local rfl) (evs_cons (ev_local rfl) evs_nil))) fun v h' tk X' r' => k v h' tk _ _ X' r'
end
end Mine

open PySem PySem.W PyProof.Rows PySem.Calls
set_option Elab.async false
set_option linter.all false
set_option maxRecDepth 100000
namespace Mine
section
variable {Z : Zone}
theorem fn_int_divmod_pp (G : ZL Z) {a b : Int} (h0 : 0 ≤ a) (ha : a < 2 ^ 64) (hb : 0 < b) (hb2 : b < 2 ^ 64) : Fn Z 73 110 [.int a, .int b] (.tup [.int (a / b), .int (a % b)]) := .mk <| by
  intro A O s vs hA hdep W r
  have r' := r
  simp only [Reps] at r'
  obtain ⟨v1, _, rfl, r1, v2, _, rfl, r2, rfl⟩ := r'
  refine fn_enterP (ns := ["a", "b"]) G.toZoneOk W (dep0 hdep) (G.K 73 _ rfl) rfl (codeRec_of (Frag.In.keeps G.K W.zone) rfl) rfl rfl (by decide) (by decide) (by decide) rfl rfl rfl r (fun _ => rfl) ?_
  intro L h₁ t₁ X Q E k
  have ok := envOk_of X rfl rfl rfl
  refine x_iff X (Tst.cast (tst_cmp (ev_local rfl) ev_int op_eqi) (beq_eq_false_iff_ne.mpr (Int.ne_of_gt hb))) fun h₂ t₂ X₂ => ?_
  refine x_iff X₂ (Tst.cast (tst_cmp (ev_local rfl) ev_int op_lt) (decide_eq_false (Int.not_lt_of_ge (Int.le_of_lt hb)))) fun h₃ t₃ X₃ => ?_
  refine x_iff X₃ (Tst.cast (tst_cmp (ev_local rfl) ev_int op_lt) (decide_eq_false (Int.not_lt_of_ge h0))) fun h₄ t₄ X₄ => ?_
  exact x_ret X₄ (ev_fn (G.K 66 _ rfl) rfl (fn_divmod_pos G h0 ha hb hb2) hA (dep (a := A.depth) (n := 101) hdep) (ev_g G.toZK ok rfl) (evs_cons (ev_local rfl) (evs_cons (ev_local rfl) evs_nil))) fun v h' tk X' r' => k v h' tk _ _ X' r'
theorem fn_int_divmod_np (G : ZL Z) {a b : Int} (h0 : a < 0) (ha : -2 ^ 64 < a) (hb : 0 < b) (hb2 : b < 2 ^ 64) : Fn Z 73 115 [.int a, .int b] (.tup [.int (a / b), .int (a % b)]) := .mk <| by
  intro A O s vs hA hdep W r
  have r' := r
  simp only [Reps] at r'
  obtain ⟨v1, _, rfl, r1, v2, _, rfl, r2, rfl⟩ := r'
  refine fn_enterP (ns := ["a", "b"]) G.toZoneOk W (dep0 hdep) (G.K 73 _ rfl) rfl (codeRec_of (Frag.In.keeps G.K W.zone) rfl) rfl rfl (by decide) (by decide) (by decide) rfl rfl rfl r (fun _ => rfl) ?_
  intro L h₁ t₁ X Q E k
  have ok := envOk_of X rfl rfl rfl
  refine x_iff X (Tst.cast (tst_cmp (ev_local rfl) ev_int op_eqi) (beq_eq_false_iff_ne.mpr (Int.ne_of_gt hb))) fun h₂ t₂ X₂ => ?_
  refine x_iff X₂ (Tst.cast (tst_cmp (ev_local rfl) ev_int op_lt) (decide_eq_false (Int.not_lt_of_ge (Int.le_of_lt hb)))) fun h₃ t₃ X₃ => ?_
  refine x_ift X₃ (Tst.cast (tst_cmp (ev_local rfl) ev_int op_lt) (by simp; omega)) fun h₄ t₄ X₄ => ?_
  have e1 : Builtin.bitNot a = -a - 1 := rfl
  have hu := (Int.ediv_emod_unique (a := a) (b := b) (r := b + (-((-a - 1) % b) - 1)) (q := -((-a - 1) / b) - 1) hb).mpr (by
    have h := Int.emod_add_mul_ediv (-a - 1) b
    have h1 := Int.emod_nonneg (-a - 1) (Int.ne_of_gt hb)
    have h2 := Int.emod_lt_of_pos (-a - 1) hb
    rw [Int.mul_sub, Int.mul_neg]
    generalize (-a - 1) % b = m at *
    generalize b * ((-a - 1) / b) = k at *
    omega)
  refine x_tup X₄ (d := .tup [.int ((-a - 1) / b), .int ((-a - 1) % b)]) (ev_fn (G.K 73 _ rfl) rfl (fn_int_divmod_pp G (a := -a - 1) (by omega) (by omega) hb hb2) hA (dep (a := A.depth) (n := 111) hdep) (ev_g G.toZK ok rfl) (evs_cons (ev_un (ev_local rfl) op_inv) (evs_cons (ev_local rfl) evs_nil)))
    (asg_tup hA (asgs_cons asg_name (asgs_cons asg_name asgs_nil))) fun h₅ t₅ X₅ => ?_
  exact x_ret X₅ (Ev.cast (ev_tup (evs_cons (ev_un (ev_local rfl) op_inv) (evs_cons (ev_bin (ev_local rfl) (ev_un (ev_local rfl) op_inv) op_add) evs_nil))) (by
    rw [hu.1, hu.2]; rfl)) fun v h' tk X' r' => k v h' tk _ _ X' r'
theorem fn_int_divmod (G : ZL Z) {a b : Int} (ha : -2 ^ 63 < a) (ha2 : a < 2 ^ 63) (hb : -2 ^ 63 < b) (hb2 : b < 2 ^ 63) (hb0 : b ≠ 0) : Fn Z 73 120 [.int a, .int b] (.tup [.int (a.fdiv b), .int (a.fmod b)]) := by
  have pos : ∀ a b : Int, -2 ^ 63 < a → a < 2 ^ 63 → 0 < b → b < 2 ^ 63 → Fn Z 73 115 [.int a, .int b] (.tup [.int (a / b), .int (a % b)]) := fun a b ha ha2 hb hb2 => by
    by_cases h0 : 0 ≤ a
    · refine .mk ?_
      intro A O s vs hA hdep W r
      exact (fn_int_divmod_pp G h0 (by omega) hb (by omega)).run A O s vs hA (dep hdep) W r
    · exact fn_int_divmod_np G (by omega) (by omega) hb (by omega)
  by_cases hp : 0 < b
  · rw [Int.fdiv_eq_ediv_of_nonneg _ (Int.le_of_lt hp), Int.fmod_eq_emod_of_nonneg _ (Int.le_of_lt hp)]
    refine .mk ?_
    intro A O s vs hA hdep W r
    exact (pos a b ha ha2 hp hb2).run A O s vs hA (dep hdep) W r
  refine .mk ?_
  intro A O s vs hA hdep W r
  have r' := r
  simp only [Reps] at r'
  obtain ⟨v1, _, rfl, r1, v2, _, rfl, r2, rfl⟩ := r'
  refine fn_enterP (ns := ["a", "b"]) G.toZoneOk W (dep0 hdep) (G.K 73 _ rfl) rfl (codeRec_of (Frag.In.keeps G.K W.zone) rfl) rfl rfl (by decide) (by decide) (by decide) rfl rfl rfl r (fun _ => rfl) ?_
  intro L h₁ t₁ X Q E k
  have ok := envOk_of X rfl rfl rfl
  refine x_iff X (Tst.cast (tst_cmp (ev_local rfl) ev_int op_eqi) (beq_eq_false_iff_ne.mpr hb0)) fun h₂ t₂ X₂ => ?_
  refine x_ift X₂ (Tst.cast (tst_cmp (ev_local rfl) ev_int op_lt) (by simp; omega)) fun h₃ t₃ X₃ => ?_
  refine x_tup X₃ (d := .tup [.int (-a / -b), .int (-a % -b)]) (ev_fn (G.K 73 _ rfl) rfl (pos (-a) (-b) (by omega) (by omega) (by omega) (by omega)) hA (dep (a := A.depth) (n := 116) hdep) (ev_g G.toZK ok rfl) (evs_cons (ev_un (ev_local rfl) op_neg) (evs_cons (ev_un (ev_local rfl) op_neg) evs_nil)))
    (asg_tup hA (asgs_cons asg_name (asgs_cons asg_name asgs_nil))) fun h₅ t₅ X₅ => ?_
  refine x_ret X₅ (Ev.cast (ev_tup (evs_cons (ev_local rfl) (evs_cons (ev_un (ev_local rfl) op_neg) evs_nil))) ?_) fun v h' tk X' r' => k v h' tk _ _ X' r'
  have e1 : -a / -b = a.fdiv b := by
    have : (-a).fdiv (-b) = a.fdiv b := by rw [Int.neg_fdiv_neg]
    rw [← this, Int.fdiv_eq_ediv_of_nonneg _ (by omega)]
  have e2 : -(-a % -b) = a.fmod b := by
    rw [← Int.fmod_eq_emod_of_nonneg (-a) (by omega), Int.neg_fmod_neg, Int.neg_neg]
  rw [e1, e2]
end
end Mine

open PySem PySem.W PyProof.Rows PySem.Calls
set_option Elab.async false
set_option linter.all false
set_option maxRecDepth 100000
namespace Mine
section
variable {prog : Program} {w : World} {A : Around} {E : Value → Shared → Prop} {R : Result → Shared → Prop} {s : Shared}
theorem codeAny_compLoop_any {elt target iter : PySem.Expr} {ifs : List PySem.Expr} {scope : Scope} {pos : Pos} {it acc : Value} {env : Env} (I : Nat → Shared → Prop)
    (turn : ∀ n s, I n s → wpAny (model prog w) A (pyNext it) (fun r s₁ => match r with
      | none => R (.ok .next) s₁
      | some v => wpAny (model prog w) A (letOwnedTupleGo target it v) (fun _ s₁' => wpAny (model prog w) A (assign target env v) (fun _ s₂ =>
          wpAny (model prog w) A (forIn ifs true fun c r => if r = true then do let ok ← isTrue c env (eval c env); pure (ForInStep.yield ok) else pure (ForInStep.yield r)) (fun ok s₃ =>
            if ok = true then wpAny (model prog w) A (eval elt env) (fun x s₄ =>
              wpAny (model prog w) A (call (.builtin "list.append") [acc, x]) (fun _ s₅ => ∃ m, m < n ∧ I m s₅) (notedBy (model prog w) A env fun e s' => R (.error e) s') s₄) (notedBy (model prog w) A env fun e s' => R (.error e) s') s₃
            else ∃ m, m < n ∧ I m s₃) (notedBy (model prog w) A env fun e s' => R (.error e) s') s₂) (notedBy (model prog w) A env fun e s' => R (.error e) s') s₁') (notedBy (model prog w) A env fun e s' => R (.error e) s') s₁) (notedBy (model prog w) A env fun e s' => R (.error e) s') s)
    (n : Nat) (h : I n s) : codeAny (model prog w) A (.compLoop (.ListComp elt [⟨target, iter, ifs, 0⟩] scope pos) 0 it acc env) R s := by
  refine codeAny_loop rfl I (fun n s hI => ?_) n h
  show wpAny _ A ((compTurn (.ListComp elt [⟨target, iter, ifs, 0⟩] scope pos) 0 it acc env).onRaise (fun x => do noteFrame x env; theTreesLotGoes x)) _ _ s
  refine wpAny_noted ?_
  rw [compTurn_list]
  refine wpAny_bind (wpAny_standAt (wpAny_bind (wpAny_mono (turn n s hI) (fun r s₁ h₁ => ?_) fun _ _ h' => h')))
  cases r with
  | none => exact wpAny_pure h₁
  | some v =>
    refine wpAny_bind (wpAny_mono h₁ (fun _ s₁' h₁' => ?_) fun _ _ h' => h')
    refine wpAny_bind (wpAny_mono h₁' (fun _ s₂ h₂ => wpAny_bind (wpAny_mono h₂ (fun ok s₃ h₃ => ?_) fun _ _ h' => h')) fun _ _ h' => h')
    cases ok with
    | false => exact wpAny_pure ⟨rfl, h₃⟩
    | true =>
      exact wpAny_bind (wpAny_bind (wpAny_mono h₃ (fun x s₄ h₄ => wpAny_bind (wpAny_mono h₄ (fun _ s₅ h₅ => wpAny_pure (wpAny_pure ⟨rfl, h₅⟩)) fun _ _ h' => h')) fun _ _ h' => h'))
end
section
variable {Z : Zone} {A : Around} {env : Env} {O O' : Addr → Prop} {B : Addr → Obj → Prop} {own own' : List (Addr × List D)} {ρ ρ' : Rho} {s : Shared} {E : Value → Shared → Prop} {h' h₁ : Heap} {tk t₁ : Nat}
/-- the tests of a comprehension -/
structure Tsts (Z : Zone) (A : Around) (env : Env) (O : Addr → Prop) (B : Addr → Obj → Prop) (own : List (Addr × List D)) (ρ : Rho) (ifs : List PySem.Expr) (b : Bool) : Prop where
  run : 
    ∀ s, St Z env O B own ρ s → ∀ (Q : Bool → Shared → Prop) (E : Value → Shared → Prop),
      (∀ h' tk, Grow Z O s.heap h' → s.toks ≤ tk → Q b { s with heap := h', toks := tk }) → wpAny (model Z.prog Z.w) A (forIn ifs true fun c r => if r = true then do let ok ← isTrue c env (eval c env); pure (ForInStep.yield ok) else pure (ForInStep.yield r)) Q E s
theorem tsts_nil : Tsts Z A env O B own ρ [] true := .mk fun s X Q E k => wpAny_tests_nil (k s.heap s.toks (Grow.refl X.tabs) (Nat.le_refl _))
theorem tsts_one {c : PySem.Expr} {b : Bool} (h : Tst Z A env O B own ρ c b) : Tsts Z A env O B own ρ [c] b := .mk fun s X Q E k => wpAny_tests_one (h.run s X _ _ k)
/-- the comprehension's walk, up to its end -/
theorem comp_core {elt target iter : PySem.Expr} {ifs : List PySem.Expr} {scope : Scope} {pos : Pos} {cl : List (PySem.Str × Addr)} {N : Nat} {P : Nat → D} {use : Option (Value → Sem Unit)} {Q : Value → Shared → Prop} {newPos : Pos} (p : Nat → Bool) (d : Nat → D) (ρ₀ : Rho) (ρa : Nat → Rho) (X : St Z env O B own ρ s)
    (hi : It Z A env O B own ρ target iter N P) (hN : N ≤ sizeLine) (hclos : closureFor scope env = pure cl) (hcell : ∀ y ∈ scope.names, y.2 ≠ .cell) (hkind : scope.kind = .function) (hnames : ∀ y ∈ scope.names, y.2 = .local → scope.names.lookup y.1 = some .local)
    (h0 : ∀ C x d, get ρ₀ x = some d → (compEnvC scope cl C env).kindOf x ≠ some .local) (hcl : ∀ x c, cl.lookup x = some c → env.kindOf x ≠ some .local ∧ env.cells.lookup x = some c ∧ ∀ d, get ρ₀ x = some d → get ρ x = some d)
    (hsub : ∀ i, SubR (ρa i) ρ₀)
    (ha : ∀ i, i < N → ∀ C O' B' own', (∀ b, O b → O' b) → Asg Z A (compEnvC scope cl C env) O' B' own' ρ₀ (assign target (compEnvC scope cl C env)) (P i) (ρa i))
    (ht : ∀ i, i < N → ∀ C O' B' own', (∀ b, O b → O' b) → Tsts Z A (compEnvC scope cl C env) O' B' own' (ρa i) ifs (p i))
    (he : ∀ i, i < N → p i = true → ∀ C O' B' own', (∀ b, O b → O' b) → Ev Z A (compEnvC scope cl C env) O' B' own' (ρa i) elt (d i))
    (fin : ∀ Dl C h' tk, Grow Z O s.heap h' → s.toks ≤ tk → s.heap.get? C = none → s.heap.get? Dl = none → C ≠ Dl → (∃ m, h'.Ns C m) → Tab Z (fun b => O b ∨ b = C) h' → Rep (fun b => O b ∨ b = C) h' tk (.lst (((List.range N).filter p).map d)) (.ref Dl) →
      compPost (model Z.prog Z.w) A E use Q (.ref Dl) C (.ok .next) { s with heap := h', toks := tk })
    (hs : ∀ x, foldedSetIterable iter env x = pure x := by intro _; rfl) :
    wpAny (model Z.prog Z.w) A (comprehension (.ListComp elt [⟨target, iter, ifs, 0⟩] scope pos) scope env newPos (newList []) false (eval iter env) use) Q E s := by
  refine wpAny_comprehension_free rfl hs hclos hkind hnames (hi.run s X _ _ fun I fp wr S h₁ t₁ O' T' g le tt hS0 hO hwr hfp => ?_)
  refine wpAny_newObj_type (wpAny_newFunctionEnv hcell (by intro y hy; simp at hy) (fun h₂ hns hsb => ?_) hkind)
  dsimp only at hns hsb ⊢
  generalize hH2 : h₁.push { cls := .type "list", dict := none, data := .seq ([] : List Value).toArray } = H2 at hns hsb ⊢
  have hC : H2.objs.size = h₁.objs.size + 1 := by rw [← hH2, Heap.size_push]
  generalize hDl : h₁.objs.size = Dl at *
  generalize hCC : H2.objs.size = C at *
  have hDC : Dl ≠ C := by rw [hC]; exact Nat.ne_of_lt (Nat.lt_succ_self _)
  have hDf : h₁.get? Dl = none := by rw [← hDl]; exact get_size _
  have hCf : h₁.get? C = none := get_ge (by rw [hDl, hC]; exact Nat.le_succ _)
  have hCf2 : H2.get? C = none := by rw [← hCC]; exact get_size _
  have k1 : ∀ b o, h₁.get? b = some o → h₂.get? b = some o := fun b o e => hsb.extBut b o (get_ne e hCf) (Heap.get?_push_of_some _ (hH2 ▸ Heap.get?_push_of_some _ e))
  have hacc : h₂.PlainList Dl #[] := ⟨0, hsb.extBut _ _ hDC (Heap.get?_push_of_some _ (hH2 ▸ hDl ▸ Heap.get?_push_size _ rfl))⟩
  let O2 : Addr → Prop := fun b => O' b ∨ b = Dl ∨ b = C
  let Bc : Addr → Obj → Prop := fun b o => h₁.get? b = some o ∧ ¬ isTab Z b ∧ ¬ wr b
  let cenv := compEnvC scope cl C env
  let ys : Nat → List D := fun i => ((List.range i).filter p).map d
  have hO2 : ∀ b, O b → O2 b := fun b q => .inl ((hO b).mpr (.inl q))
  have oldW : ∀ b o, s.heap.get? b = some o → ¬ wr b := fun b o e q => by rw [(hwr b q).1] at e; cases e
  have oldS : ∀ b o, s.heap.get? b = some o → b ≠ Dl ∧ b ≠ C := fun b o e => by
    obtain ⟨o', e'⟩ := g.2.1 b o e
    exact ⟨get_ne e' hDf, get_ne e' hCf⟩
  have old : ∀ b o, s.heap.get? b = some o → O2 b → O b := fun b o e q => by
    rcases q with q | q | q
    · exact ((hO b).mp q).elim id fun z => absurd z (oldW b o e)
    · exact absurd q (oldS b o e).1
    · exact absurd q (oldS b o e).2
  have wrT : ∀ b, wr b → O2 b ∧ ¬ isTab Z b := fun b q => ⟨.inl ((hO b).mpr (.inr q)), fun z => by
    obtain ⟨o, e⟩ := X.Oex b (X.tabs.isO z)
    exact oldW b o e q⟩
  have wrB : ∀ b, wr b → ∀ o, ¬ Bc b o := fun b q o e => e.2.2 q
  have wrne : ∀ b, wr b → b ≠ Dl ∧ b ≠ C := fun b q => by
    obtain ⟨o, e⟩ := (hwr b q).2
    exact ⟨get_ne e hDf, get_ne e hCf⟩
  have tab2 : Tab Z O2 h₂ := Tab.fresh tt k1 (fun b q => q.imp id fun z => z.elim (fun z => z ▸ hDf) fun z => z ▸ hCf) (fun b q => .inl q)
  have g2 : Grow Z O2 s.heap h₂ := ⟨fun b o n e => k1 b o (g.1 b o n e), fun b o e => by obtain ⟨o', e'⟩ := g.2.1 b o e; exact ⟨o', k1 b o' e'⟩, tab2⟩
  have hne : ∀ x c, cl.lookup x = some c → env.kindOf x ≠ some .local ∧ env.cells.lookup x = some c := fun x c h => ⟨(hcl x c h).1, (hcl x c h).2.1⟩
  have hzB : ∀ b o, Z.H.get? b = some o → Bc b o := fun b o e => by
    have e1 := X.wd.zone b o e
    exact ⟨g.1 b o (fun q => X.OH b o (X.tabs.isO q) e) e1, fun q => X.OH b o (X.tabs.isO q) e, oldW b o e1⟩
  have X₀ : St Z cenv O2 Bc [(Dl, ys 0)] ρ₀ { s with heap := h₂, toks := t₁ } := {
    base := fun b o e => k1 b o e.1
    zone := hzB
    OH := fun b o q e => by
      have e1 := X.wd.zone b o e
      exact X.OH b o (old b o e1 q) e
    tabB := fun b o q e => e.2.1 q
    LB := fun o e => by have := e.1; rw [show cenv.locals = C from rfl, hCf] at this; cases this
    ownB := fun q hq o e => by
      simp only [List.mem_cons, List.not_mem_nil, or_false] at hq
      subst hq
      have := e.1; rw [hDf] at this; cases this
    ownD := by simp
    Oex := fun b q => by
      rcases q with q | q | q
      · rcases (hO b).mp q with q | q
        · obtain ⟨o, e⟩ := X.Oex b q
          exact g2.2.1 b o e
        · obtain ⟨o, e⟩ := (hwr b q).2; exact ⟨o, k1 b o e⟩
      · obtain ⟨n, e⟩ := hacc; exact ⟨_, q ▸ e⟩
      · obtain ⟨o, _, _, e, _⟩ := hns; exact ⟨o, q ▸ e⟩
    tabs := tab2
    pos := Nat.lt_of_lt_of_le X.pos le
    OL := .inr (.inr rfl)
    loc := ⟨_, hns, fun x d hk hg => (h0 C x d hg hk).elim⟩
    cel := fun x c hx hc => by
      obtain ⟨hk, hl, hg⟩ := hcl x c hc
      obtain ⟨ov, hv, rr⟩ := X.cel x c hk hl
      have hnt := Cell.notTab X.tabs hv
      obtain ⟨o, ho, hd⟩ := hv
      exact ⟨ov, ⟨o, g2.1 _ o hnt ho, hd⟩, fun d hg' => by
        obtain ⟨v, e, q⟩ := rr d (hg d hg')
        exact ⟨v, e, (q.more old).grow g2 le⟩⟩
    ownd := fun q hq => by
      simp only [List.mem_cons, List.not_mem_nil, or_false] at hq
      subst hq
      exact ⟨.inr (.inl rfl), [], hacc, by simp [ys, Reps]⟩ }
  have T := T' O2 (fun b q => .inl q) (fun b q => q.imp id fun z => z.elim (fun z => z ▸ hDf) fun z => z ▸ hCf)
  have hB0 : ∀ b o, ¬ O2 b → h₁.get? b = some o → Bc b o := fun b o n e => ⟨e, fun q => n (.inl (tt.isO q)), fun q => n (.inl ((hO b).mpr (.inr q)))⟩
  have loop : codeAny (model Z.prog Z.w) A (.compLoop (.ListComp elt [⟨target, iter, ifs, 0⟩] scope pos) 0 I (.ref Dl) cenv) (compPost (model Z.prog Z.w) A E use Q (.ref Dl) C) { s with heap := h₂, toks := t₁ } := by
    refine codeAny_compLoop_any (fun n s' => ∃ h' tk, s' = { s with heap := h', toks := tk } ∧ ∃ i, i ≤ N ∧ n = N - i ∧ t₁ ≤ tk ∧ S i h' ∧ St Z cenv O2 Bc [(Dl, ys i)] ρ₀ s') ?_ N ⟨h₂, t₁, rfl, 0, Nat.zero_le _, rfl, Nat.le_refl _, T.frame _ _ _ hS0 fun b _ o e => k1 b o e, X₀⟩
    rintro n _ ⟨h', tk, rfl, i, hi', rfl, htk, hS, X'⟩
    by_cases hlt : i < N
    · have hold : ∀ b o, ¬ O2 b → h₁.get? b = some o → h'.get? b = some o := fun b o n e => X'.base b o (hB0 b o n e)
      refine T.item i _ _ _ _ hlt hS hold X'.Oex htk (fun v s' h => h) fun v h₂ t₂ hS₂ k₂ le₂ r₂ => ?_
      have X₃ : St Z cenv O2 Bc [(Dl, ys i)] ρ₀ { s with heap := h₂, toks := t₂ } := X'.wrd k₂ wrT wrB (fun q => (wrne _ q).2 rfl) (fun x c hx hc q => by
        obtain ⟨hk, hl, _⟩ := hcl x c hc
        obtain ⟨ov, ⟨o, e, _⟩, _⟩ := X.cel x c hk hl
        exact oldW _ o e q) (fun q hq w => by
        simp only [List.mem_cons, List.not_mem_nil, or_false] at hq
        subst hq; exact (wrne _ w).1 rfl) le₂ (fun b h => h) (fun q hq => hO2 _ (X.tabs q hq).1) X'.OL (fun p hp => (X'.ownd p hp).1) (fun b _ q => T.ex _ _ hS₂ b q)
      let Bi : Addr → Obj → Prop := fun b o => Bc b o ∨ (wr b ∧ h₂.get? b = some o)
      have X₄ : St Z cenv O2 Bi [(Dl, ys i)] ρ₀ { s with heap := h₂, toks := t₂ } := X₃.setB (fun b o e => .inl e) (fun b o e => e.elim (X₃.base b o) fun z => z.2) (fun b o q e => e.elim (X₃.tabB b o q) fun z => (wrT b z.1).2 q) (fun o e => e.elim (X₃.LB o) fun z => (wrne _ z.1).2 rfl) (fun q hq o e => e.elim (X₃.ownB q hq o) fun z => by
        simp only [List.mem_cons, List.not_mem_nil, or_false] at hq
        subst hq; exact (wrne _ z.1).1 rfl)
      have back : ∀ (h₄ : Heap) (t₄ : Nat), t₁ ≤ t₄ → St Z cenv O2 Bi [(Dl, ys (i + 1))] (ρa i) { s with heap := h₄, toks := t₄ } → ∃ m, m < N - i ∧ ∃ h' tk, ({ s with heap := h₄, toks := t₄ } : Shared) = { s with heap := h', toks := tk } ∧ ∃ i, i ≤ N ∧ m = N - i ∧ t₁ ≤ tk ∧ S i h' ∧ St Z cenv O2 Bc [(Dl, ys i)] ρ₀ { s with heap := h₄, toks := t₄ } := fun h₄ t₄ le₄ X₆ => by
        refine ⟨N - (i + 1), by omega, h₄, t₄, rfl, i + 1, hlt, rfl, le₄, ?_, (X₆.lessB (fun b o e => .inl e) hzB).sub (hsub i)⟩
        refine T.frame _ _ _ hS₂ fun b hb' o e => ?_
        rcases hfp b hb' with q | ⟨q, o', e'⟩
        · exact X₆.base b o (.inr ⟨q, e⟩)
        · have hbc : Bc b o' := ⟨e', fun z => q (tt.isO z), fun z => q ((hO b).mpr (.inr z))⟩
          have := X₃.base b o' hbc
          obtain rfl : o' = o := Option.some.inj (this.symm.trans e)
          exact X₆.base b o' (.inl hbc)
      refine wpAny_with_toks (n := t₁) (Nat.le_trans htk le₂) ((ha i hlt C O2 Bi _ hO2).run _ v X₄ r₂ _ _ fun h₃ t₃ k₃ X₅ => fun le₃ => ?_)
      refine (ht i hlt C O2 Bi _ hO2).run _ X₅ _ _ fun h₄ t₄ g₄ le₄ => ?_
      have X₆ := X₅.grow g₄ le₄
      by_cases hp : p i = true
      · rw [if_pos hp]
        refine (he i hlt hp C O2 Bi _ hO2).run _ X₆ _ _ fun x h₅ t₅ g₅ le₅ r₅ => ?_
        have X₇ := X₆.grow g₅ le₅
        obtain ⟨_, vs2, hl2, rs2⟩ := X₇.ownd (Dl, ys i) (.head _)
        have hlen : vs2.length = (ys i).length := rs2.length
        refine wpAny_list_append_plain hl2 (fun h₆ hl₆ hs₆ => ?_) (by
          have : (ys i).length ≤ i := by
            simp only [ys, List.length_map]
            exact Nat.le_trans (List.length_filter_le _ _) (by simp)
          simp; omega)
        have X₈ := X₇.own_upd (own₁ := []) (own₂ := []) (ds' := ys i ++ [d i]) (tk := t₅) (vs' := vs2 ++ [x]) hs₆ (Nat.le_refl _) (by simpa using hl₆) (Reps.append rs2 (by simp only [Reps]; exact ⟨x, [], rfl, r₅, rfl⟩))
        have e : ys i ++ [d i] = ys (i + 1) := by simp [ys, List.range_succ, List.filter_append, hp]
        rw [e] at X₈
        exact back h₆ t₅ (Nat.le_trans le₃ (Nat.le_trans le₄ le₅)) X₈
      · rw [if_neg hp]
        have e : ys i = ys (i + 1) := by simp [ys, List.range_succ, List.filter_append, hp]
        rw [e] at X₆
        exact back h₄ t₄ (Nat.le_trans le₃ le₄) X₆
    · obtain rfl : i = N := by omega
      refine T.done _ _ _ hS fun h₃ t₃ k₃ le₃ => ?_
      have X₃ : St Z cenv (fun b => (O b ∨ b = C) ∨ b = Dl) Bc [(Dl, ys i)] ρ₀ { s with heap := h₃, toks := t₃ } := X'.wrd k₃ wrT wrB (fun q => (wrne _ q).2 rfl) (fun x c hx hc q => by
        obtain ⟨hk, hl, _⟩ := hcl x c hc
        obtain ⟨ov, ⟨o, e, _⟩, _⟩ := X.cel x c hk hl
        exact oldW _ o e q) (fun q hq w => by
        simp only [List.mem_cons, List.not_mem_nil, or_false] at hq
        subst hq; exact (wrne _ w).1 rfl) le₃ (fun b h => h.elim (fun h => h.elim (hO2 b) fun z => .inr (.inr z)) fun z => .inr (.inl z)) (fun q hq => .inl (.inl (X.tabs q hq).1)) (.inl (.inr rfl)) (fun q hq => by
        simp only [List.mem_cons, List.not_mem_nil, or_false] at hq
        subst hq; exact .inr rfl) (fun b q q' => by
        rcases q with (q | q) | q
        · obtain ⟨o, e⟩ := X.Oex b q
          exact absurd q' (oldW b o e)
        · exact absurd q (wrne _ q').2
        · exact absurd q (wrne _ q').1)
      have nD : ¬ (O Dl ∨ Dl = C) := fun q => q.elim (fun q => by
        obtain ⟨o, e⟩ := X.Oex _ q
        exact (oldS _ o e).1 rfl) hDC
      obtain ⟨X₄, r₄⟩ := X₃.drop (own := []) (O := fun b => O b ∨ b = C) (fun b => Iff.rfl) nD (.inr rfl) (fun p hp => nomatch hp) (fun q hq => .inl (X.tabs q hq).1)
      have old2 : ∀ b o, ¬ isTab Z b → s.heap.get? b = some o → h₃.get? b = some o := fun b o n e => X₄.base b o ⟨g.1 b o n e, n, oldW b o e⟩
      have nC : ∀ o, s.heap.get? C ≠ some o := fun o e => (oldS _ o e).2 rfl
      refine fin Dl C h₃ t₃ ⟨old2, fun b o e => ?_, X₄.tabs.drop (fun b q => .inl q) (fun q hq => (X.tabs q hq).1)⟩ (Nat.le_trans le (Nat.le_trans htk le₃)) ?_ ?_ hDC.symm (let ⟨m, hm, _⟩ := X₄.loc; ⟨m, hm⟩) X₄.tabs r₄
      · by_cases q : isTab Z b
        · obtain ⟨t, ht, rfl⟩ := q
          obtain ⟨_, ps, g, _⟩ := X₄.tabs t ht
          exact ⟨_, g⟩
        · exact ⟨o, old2 b o q e⟩
      · cases e : s.heap.get? C with
        | none => rfl
        | some o => exact absurd e (nC o)
      · cases e : s.heap.get? Dl with
        | none => rfl
        | some o => exact absurd rfl (oldS _ o e).1
  exact codeAny_compStart_list loop (T.self 0 _ _ _ (T.frame _ _ _ hS0 fun b _ o e => k1 b o e) loop)
end
end Mine

open PySem PySem.W PyProof.Rows PySem.Calls
set_option Elab.async false
set_option linter.all false
set_option maxRecDepth 100000
namespace Mine
section
variable {Z : Zone} {A : Around} {env : Env} {O O' : Addr → Prop} {B : Addr → Obj → Prop} {own own' : List (Addr × List D)} {ρ ρ' : Rho} {s : Shared} {E : Value → Shared → Prop} {h' h₁ : Heap} {tk t₁ : Nat}
theorem ev_comp {elt target iter : PySem.Expr} {ifs : List PySem.Expr} {scope : Scope} {pos : Pos} {cl : List (PySem.Str × Addr)} {N : Nat} {P : Nat → D} (p : Nat → Bool) (d : Nat → D) (ρ₀ : Rho) (ρa : Nat → Rho)
    (hi : It Z A env O B own ρ target iter N P) (hN : N ≤ sizeLine) (hclos : closureFor scope env = pure cl) (hcell : ∀ y ∈ scope.names, y.2 ≠ .cell) (hkind : scope.kind = .function) (hnames : ∀ y ∈ scope.names, y.2 = .local → scope.names.lookup y.1 = some .local)
    (h0 : ∀ C x d, get ρ₀ x = some d → (compEnvC scope cl C env).kindOf x ≠ some .local) (hcl : ∀ x c, cl.lookup x = some c → env.kindOf x ≠ some .local ∧ env.cells.lookup x = some c ∧ ∀ d, get ρ₀ x = some d → get ρ x = some d)
    (hsub : ∀ i, SubR (ρa i) ρ₀)
    (ha : ∀ i, i < N → ∀ C O' B' own', (∀ b, O b → O' b) → Asg Z A (compEnvC scope cl C env) O' B' own' ρ₀ (assign target (compEnvC scope cl C env)) (P i) (ρa i))
    (ht : ∀ i, i < N → ∀ C O' B' own', (∀ b, O b → O' b) → Tsts Z A (compEnvC scope cl C env) O' B' own' (ρa i) ifs (p i))
    (he : ∀ i, i < N → p i = true → ∀ C O' B' own', (∀ b, O b → O' b) → Ev Z A (compEnvC scope cl C env) O' B' own' (ρa i) elt (d i))
    (hs : ∀ x, foldedSetIterable iter env x = pure x := by intro _; rfl) :
    Ev Z A env O B own ρ (.ListComp elt [⟨target, iter, ifs, 0⟩] scope pos) (.lst (((List.range N).filter p).map d)) := .mk fun s X Q E k => by
  rw [eval_ListComp]
  refine comp_core (use := none) p d ρ₀ ρa X hi hN hclos hcell hkind hnames h0 hcl hsub ha ht he (fun Dl C h₁ t₁ g le nC nD hCD hn tt r => ?_) hs
  obtain ⟨m, hm⟩ := hn
  refine ⟨m, hm, fun h₂ hs₂ => ?_⟩
  have ke := hs₂.extBut
  have hC : (fun b => O b ∨ b = C) C := .inr rfl
  have hnt : ¬ isTab Z C := fun z => by
    obtain ⟨o, e⟩ := X.Oex C (X.tabs.isO z)
    rw [nC] at e; cases e
  have tb : Tab Z O h₂ := (tt.same hC hnt ke).drop (fun b q => .inl q) (fun q hq => (X.tabs q hq).1)
  refine k _ h₂ t₁ ⟨fun b o n e => ke b o (fun z => by rw [z, nC] at e; cases e) (g.1 b o n e), fun b o e => ?_, tb⟩ le ((r.same hC ke (Nat.le_refl _)).less fun b q => .inl q)
  obtain ⟨o', e'⟩ := g.2.1 b o e
  exact ⟨o', ke b o' (fun z => by rw [z, nC] at e; cases e) e'⟩
/-- the assignment of a comprehension to a name -/
theorem x_compz {elt target iter : PySem.Expr} {ifs : List PySem.Expr} {scope : Scope} {pos spos py : Pos} {y : PySem.Str} {cl : List (PySem.Str × Addr)} {N : Nat} {P : Nat → D} {rest : List Stmt} {Q : Flow → Shared → Prop} {ρ₁ : Rho} (p : Nat → Bool) (d : Nat → D) (ρ₀ : Rho) (ρa : Nat → Rho) (X : St Z env O B own ρ s)
    (hi : It Z A env O B own ρ target iter N P) (hN : N ≤ sizeLine) (hclos : closureFor scope env = pure cl) (hcell : ∀ y ∈ scope.names, y.2 ≠ .cell) (hkind : scope.kind = .function) (hnames : ∀ y ∈ scope.names, y.2 = .local → scope.names.lookup y.1 = some .local)
    (h0 : ∀ C x d, get ρ₀ x = some d → (compEnvC scope cl C env).kindOf x ≠ some .local) (hcl : ∀ x c, cl.lookup x = some c → env.kindOf x ≠ some .local ∧ env.cells.lookup x = some c ∧ ∀ d, get ρ₀ x = some d → get ρ x = some d)
    (hsub : ∀ i, SubR (ρa i) ρ₀)
    (ha : ∀ i, i < N → ∀ C O' B' own', (∀ b, O b → O' b) → Asg Z A (compEnvC scope cl C env) O' B' own' ρ₀ (assign target (compEnvC scope cl C env)) (P i) (ρa i))
    (ht : ∀ i, i < N → ∀ C O' B' own', (∀ b, O b → O' b) → Tsts Z A (compEnvC scope cl C env) O' B' own' (ρa i) ifs (p i))
    (he : ∀ i, i < N → p i = true → ∀ C O' B' own', (∀ b, O b → O' b) → Ev Z A (compEnvC scope cl C env) O' B' own' (ρa i) elt (d i))
    (hasg : ∀ O' B', Asg Z A env O' B' own ρ (assign (.Name y py) env) (.lst (((List.range N).filter p).map d)) ρ₁)
    (k : ∀ h' tk, St Z env O B own ρ₁ { s with heap := h', toks := tk } → Xs Z A rest env Q E { s with heap := h', toks := tk })
    (hs : ∀ x, foldedSetIterable iter env x = pure x)
    (hsw : swapsWith (.ListComp elt [⟨target, iter, ifs, 0⟩] scope pos) (some (.Name y py)) spos.line env = pure true) :
    Xs Z A (.Assign [.Name y py] (.ListComp elt [⟨target, iter, ifs, 0⟩] scope pos) spos :: rest) env Q E s := by
  refine Xs.cons ?_
  rw [exec_Assign_Name_used _ _ _ _ hsw]
  refine wpAny_bind (wpAny_standAt (wpAny_bind ?_))
  show wpAny _ A (do let _ ← comprehension (.ListComp elt [⟨target, iter, ifs, 0⟩] scope pos) scope env _ (newList []) false (eval iter env) (some (assign (.Name y py) env))) _ _ s
  refine wpAny_bind (comp_core (use := some (assign (.Name y py) env)) p d ρ₀ ρa X hi hN hclos hcell hkind hnames h0 hcl hsub ha ht he (fun Dl C h₁ t₁ g le nC nD hCD hn tt r => ?_) hs)
  obtain ⟨m, hm⟩ := hn
  have hnt : ¬ isTab Z C := fun z => by
    obtain ⟨o, e⟩ := X.Oex C (X.tabs.isO z)
    rw [nC] at e; cases e
  have nOC : ¬ O C := fun q => by
    obtain ⟨o, e⟩ := X.Oex C q
    rw [nC] at e; cases e
  obtain ⟨oC, esC, epC, eC, rC⟩ := hm
  have X₁ : St Z env (fun b => O b ∨ b = C) B own ρ { s with heap := h₁, toks := t₁ } := X.more g tt le (fun b q => q.imp id fun (z : b = C) => ⟨by rw [z]; exact nC, oC, by rw [z]; exact eC⟩) (fun b q => .inl q)
  have hBC : ∀ o, ¬ B C o := fun o e => by have := X.base C o e; rw [nC] at this; cases this
  have hCL : env.locals ≠ C := fun z => nOC (z ▸ X.OL)
  have hCown : ∀ p ∈ own, p.1 ≠ C := fun p hp z => nOC (z ▸ (X.ownd p hp).1)
  have X₂ : St Z env (fun b => O b ∨ b = C) (fun b o => B b o ∨ (b = C ∧ o = oC)) own ρ { s with heap := h₁, toks := t₁ } := X₁.setB (fun b o e => .inl e) (fun b o e => e.elim (X₁.base b o) fun z => by rw [z.1, z.2]; exact eC) (fun b o q e => e.elim (X₁.tabB b o q) fun z => hnt (z.1 ▸ q)) (fun o e => e.elim (X₁.LB o) fun z => hCL z.1) (fun p hp o e => e.elim (X₁.ownB p hp o) fun z => hCown p hp z.1)
  show wpAny _ A (assign (.Name y py) env (.ref Dl)) _ _ _
  refine (hasg _ _).run _ _ X₂ r _ _ fun h₂ t₂ k₂ X₃ => ?_
  refine ⟨m, ⟨oC, esC, epC, X₃.base C oC (.inr ⟨rfl, rfl⟩), rC⟩, fun h₃ hs₃ => wpAny_pure (wpAny_pure ?_)⟩
  have ke := hs₃.extBut
  have X₄ : St Z env (fun b => O b ∨ b = C) B own ρ₁ { s with heap := h₂, toks := t₂ } := X₃.lessB (fun b o e => .inl e) X.zone
  have X₅ : St Z env O B own ρ₁ { s with heap := h₃, toks := t₂ } := X₄.wrd (wr := fun b => b = C) (fun b o n e => ke b o n e) (fun b q => ⟨.inr q, q ▸ hnt⟩) (fun b q o e => hBC o (q ▸ e)) hCL (fun x c hx hc q => by
    obtain ⟨ov, ⟨o, e, _⟩, _⟩ := X.cel x c hx hc
    rw [q, nC] at e; cases e) hCown (Nat.le_refl _) (fun b q => .inl q) (fun q hq => (X.tabs q hq).1) X.OL (fun p hp => (X.ownd p hp).1) (fun b q q' => absurd (q' ▸ q) nOC)
  exact k h₃ t₂ X₅
theorem x_comp {h₀ : Heap} {t₀ : Nat} {elt target iter : PySem.Expr} {ifs : List PySem.Expr} {scope : Scope} {pos spos py : Pos} {y : PySem.Str} {cl : List (PySem.Str × Addr)} {N : Nat} {P : Nat → D} {rest : List Stmt} {Q : Flow → Shared → Prop} {ρ₁ : Rho} (p : Nat → Bool) (d : Nat → D) (ρ₀ : Rho) (ρa : Nat → Rho) (X : St Z env O B own ρ { s with heap := h₀, toks := t₀ })
    (hi : It Z A env O B own ρ target iter N P) (hN : N ≤ sizeLine) (hclos : closureFor scope env = pure cl) (hcell : ∀ y ∈ scope.names, y.2 ≠ .cell) (hkind : scope.kind = .function) (hnames : ∀ y ∈ scope.names, y.2 = .local → scope.names.lookup y.1 = some .local)
    (h0 : ∀ C x d, get ρ₀ x = some d → (compEnvC scope cl C env).kindOf x ≠ some .local) (hcl : ∀ x c, cl.lookup x = some c → env.kindOf x ≠ some .local ∧ env.cells.lookup x = some c ∧ ∀ d, get ρ₀ x = some d → get ρ x = some d)
    (hsub : ∀ i, SubR (ρa i) ρ₀)
    (ha : ∀ i, i < N → ∀ C O' B' own', (∀ b, O b → O' b) → Asg Z A (compEnvC scope cl C env) O' B' own' ρ₀ (assign target (compEnvC scope cl C env)) (P i) (ρa i))
    (ht : ∀ i, i < N → ∀ C O' B' own', (∀ b, O b → O' b) → Tsts Z A (compEnvC scope cl C env) O' B' own' (ρa i) ifs (p i))
    (he : ∀ i, i < N → p i = true → ∀ C O' B' own', (∀ b, O b → O' b) → Ev Z A (compEnvC scope cl C env) O' B' own' (ρa i) elt (d i))
    (hasg : ∀ O' B', Asg Z A env O' B' own ρ (assign (.Name y py) env) (.lst (((List.range N).filter p).map d)) ρ₁)
    (k : ∀ h' tk, St Z env O B own ρ₁ { s with heap := h', toks := tk } → Xs Z A rest env Q E { s with heap := h', toks := tk })
    (hs : ∀ x, foldedSetIterable iter env x = pure x := by intro _; rfl)
    (hsw : swapsWith (.ListComp elt [⟨target, iter, ifs, 0⟩] scope pos) (some (.Name y py)) spos.line env = pure true := by rfl) :
    Xs Z A (.Assign [.Name y py] (.ListComp elt [⟨target, iter, ifs, 0⟩] scope pos) spos :: rest) env Q E { s with heap := h₀, toks := t₀ } := x_compz p d ρ₀ ρa X hi hN hclos hcell hkind hnames h0 hcl hsub ha ht he hasg k hs hsw
end
end Mine

open PySem PySem.W PyProof.Rows PySem.Calls
set_option Elab.async false
set_option linter.all false
set_option maxRecDepth 100000
namespace Mine
section
variable {Z : Zone} {A : Around} {env : Env} {O O' : Addr → Prop} {B : Addr → Obj → Prop} {own own' : List (Addr × List D)} {ρ ρ' : Rho} {s : Shared} {E : Value → Shared → Prop} {h' h₁ : Heap} {tk t₁ : Nat}
/-- enumerate(a list) -/
theorem it_enum {f e : PySem.Expr} {elts : List PySem.Expr} {tk0 : Nat} {tpos pos : Pos} {ds : List D} (hA : A.handled = none) (hf : Ev Z A env O B own ρ f (.val (.type "enumerate"))) (he : Ev Z A env O B own ρ e (.lst ds))
    (h1 : eval (.Call f [e] [] pos) env = (do callWith pos (← eval f env) [] (backTo pos (starEach [e] env)) (backToKw pos (keywordEach [] env))) := by rfl)
    (h2 : starEach [e] env = (false, eval e env) :: starEach [] env := by rfl) : It Z A env O B own ρ (.Tuple elts tk0 tpos) (.Call f [e] [] pos) ds.length (fun i => .tup [.int i, nth ds i]) := .mk fun s X Q E k => by
  refine callT_split X hf (evs_cons he evs_nil h2) (fun vs h₁ t₁ g₁ le₁ r => ?_) h1 h2 rfl
  simp only [Reps, Rep] at r
  obtain ⟨_, _, rfl, ⟨a, vs, rfl, no, hl, rs⟩, rfl⟩ := r
  refine call_enumerate_list hl fun h₂ hE hI hsz kp => ?_
  dsimp only at hE hI hsz kp
  obtain ⟨oa, ea, hoa⟩ := id hl
  have fr0 : h₁.get? h₁.objs.size = none := get_size _
  have fr1 : h₁.get? (h₁.objs.size + 1) = none := get_ge (Nat.le_succ _)
  have hlen : vs.length = ds.length := rs.length
  refine wpAny_pyIter_enum hE ?_
  have W := WalksT.enumerate (prog := Z.prog) (w := Z.w) hA (h₁.objs.size + 1) h₁.objs.size a (Nat.succ_ne_self _) (get_ne ea fr1) (get_ne ea fr0) vs.toArray
  rw [show vs.toArray.size = ds.length by simpa using hlen] at W
  refine It.fin (s := s) (Q := Q) (t₂ := t₁) (wr := [h₁.objs.size + 1, h₁.objs.size]) X g₁ le₁ kp (Nat.le_refl _) (fun b hb => ?_) (fun b hb => ?_) (fun O'' hwO hN => Turns.ofWalksT W (fun i h hS b hb => ?_) (fun i vals hi hv => ?_) hwO) ?_ k
  · simp only [List.mem_cons, List.not_mem_nil, or_false] at hb
    rcases hb with rfl | rfl
    · exact ⟨fr1, _, hE⟩
    · obtain ⟨o, e, _⟩ := hI; exact ⟨fr0, o, e⟩
  · simp only [List.mem_cons, List.not_mem_nil, or_false] at hb
    rcases hb with rfl | rfl | rfl
    · exact .inl (by simp)
    · exact .inl (by simp)
    · exact .inr ⟨no, _, kp _ _ ea⟩
  · obtain ⟨⟨old, e1⟩, ⟨o, e2, _⟩, _⟩ := hS
    simp only [List.mem_cons, List.not_mem_nil, or_false] at hb
    rcases hb with rfl | rfl
    · exact ⟨_, e1⟩
    · exact ⟨o, e2⟩
  · obtain ⟨t, x, hx, rfl⟩ := hv
    simp only [Reps, Rep]
    exact ⟨_, _, rfl, ⟨t, rfl⟩, x, [], rfl, (rs.nth (i := i) (v := x) (by simpa using hx)).fresh kp hN (Nat.le_refl _), rfl⟩
  · exact ⟨⟨_, hE⟩, hI, ⟨oa, kp _ _ ea, hoa⟩⟩
/-- zip of two lists -/
theorem it_zip {f e1 e2 : PySem.Expr} {elts : List PySem.Expr} {tk0 : Nat} {tpos pos : Pos} {ds1 ds2 : List D} (hA : A.handled = none) (hf : Ev Z A env O B own ρ f (.val (.type "zip"))) (he1 : Ev Z A env O B own ρ e1 (.lst ds1)) (he2 : Ev Z A env O B own ρ e2 (.lst ds2))
    (h1 : eval (.Call f [e1, e2] [] pos) env = (do callWith pos (← eval f env) [] (backTo pos (starEach [e1, e2] env)) (backToKw pos (keywordEach [] env))) := by rfl)
    (h2 : starEach [e1, e2] env = (false, eval e1 env) :: starEach [e2] env := by rfl) (h3 : starEach [e2] env = (false, eval e2 env) :: starEach [] env := by rfl) (hp : (backTo pos (starEach [e2] env)).any (·.1) = false := by rfl) : It Z A env O B own ρ (.Tuple elts tk0 tpos) (.Call f [e1, e2] [] pos) (min ds1.length ds2.length) (fun i => .tup [nth ds1 i, nth ds2 i]) := .mk fun s X Q E k => by
  refine callT_split X hf (evs_cons he1 (evs_cons he2 evs_nil h3) h2) (fun vs h₁ t₁ g₁ le₁ r => ?_) h1 h2 hp
  simp only [Reps, Rep] at r
  obtain ⟨_, _, rfl, ⟨a1, vs1, rfl, no1, hl1, rs1⟩, _, _, rfl, ⟨a2, vs2, rfl, no2, hl2, rs2⟩, rfl⟩ := r
  refine call_zip_2 hl1 hl2 fun h₂ hz hTI hTO hi1 hi2 hsz kp => ?_
  dsimp only at hz hTI hTO hi1 hi2 hsz kp
  obtain ⟨oa1, ea1, hoa1⟩ := id hl1
  obtain ⟨oa2, ea2, hoa2⟩ := id hl2
  have fr : ∀ j, h₁.get? (h₁.objs.size + j) = none := fun j => get_ge (Nat.le_add_right _ _)
  have ne1 : ∀ j, a1 ≠ h₁.objs.size + j := fun j => get_ne ea1 (fr j)
  have ne2 : ∀ j, a2 ≠ h₁.objs.size + j := fun j => get_ne ea2 (fr j)
  have X₁ := X.grow g₁ le₁
  have nO : ∀ j, ¬ O (h₁.objs.size + j) := fun j q => by
    obtain ⟨o, e⟩ := X₁.Oex _ q
    have := fr j
    rw [show h₁.get? _ = some o from e] at this; cases this
  refine wpAny_pyIter_zip hz ?_
  have ZA : ZipApart (h₁.objs.size + 4) (h₁.objs.size + 2) (h₁.objs.size + 3) h₁.objs.size (h₁.objs.size + 1) a1 a2 := by
    constructor <;> first | (show (_ : Nat) ≠ _; omega) | exact ne1 _ | exact ne2 _ | exact ne1 0 | exact ne2 0
  have W := WalksT.zip2 (prog := Z.prog) (w := Z.w) hA (h₁.objs.size + 4) (h₁.objs.size + 2) (h₁.objs.size + 3) h₁.objs.size (h₁.objs.size + 1) a1 a2 ZA vs1.toArray vs2.toArray
  rw [show vs1.toArray.size = ds1.length by simpa using rs1.length, show vs2.toArray.size = ds2.length by simpa using rs2.length] at W
  refine It.fin (s := s) (Q := Q) (t₂ := t₁) (wr := [h₁.objs.size + 4, h₁.objs.size + 3, h₁.objs.size, h₁.objs.size + 1]) X g₁ le₁ kp (Nat.le_refl _) (fun b hb => ?_) (fun b hb => ?_) (fun O'' hwO hN => Turns.ofWalksT W (fun i h hS b hb => ?_) (fun i vals hi hv => ?_) hwO) ?_ k
  · simp only [List.mem_cons, List.not_mem_nil, or_false] at hb
    rcases hb with rfl | rfl | rfl | rfl
    · exact ⟨fr 4, _, hz⟩
    · exact ⟨fr 3, _, hTO⟩
    · obtain ⟨o, e, _⟩ := hi1; exact ⟨fr 0, o, e⟩
    · obtain ⟨o, e, _⟩ := hi2; exact ⟨fr 1, o, e⟩
  · simp only [List.mem_cons, List.not_mem_nil, or_false] at hb
    rcases hb with rfl | rfl | rfl | rfl | rfl | rfl | rfl
    · exact .inl (by simp)
    · exact .inr ⟨nO 2, _, hTI⟩
    · exact .inl (by simp)
    · exact .inl (by simp)
    · exact .inl (by simp)
    · exact .inr ⟨no1, _, kp _ _ ea1⟩
    · exact .inr ⟨no2, _, kp _ _ ea2⟩
  · obtain ⟨e1, _, ⟨a', b', e2⟩, ⟨o1, e3, _⟩, ⟨o2, e4, _⟩, _⟩ := hS
    simp only [List.mem_cons, List.not_mem_nil, or_false] at hb
    rcases hb with rfl | rfl | rfl | rfl
    · exact ⟨_, e1⟩
    · exact ⟨_, e2⟩
    · exact ⟨o1, e3⟩
    · exact ⟨o2, e4⟩
  · obtain ⟨x, y, hx, hy, rfl⟩ := hv
    simp only [Reps]
    exact ⟨x, _, rfl, (rs1.nth (i := i) (v := x) (by simpa using hx)).fresh kp hN (Nat.le_refl _), y, [], rfl, (rs2.nth (i := i) (v := y) (by simpa using hy)).fresh kp hN (Nat.le_refl _), rfl⟩
  · exact ⟨hz, hTI, ⟨_, _, hTO⟩, hi1, hi2, ⟨oa1, kp _ _ ea1, hoa1⟩, ⟨oa2, kp _ _ ea2, hoa2⟩⟩

theorem it_range1 {target f e : PySem.Expr} {pos : Pos} {n : Int} (hA : A.handled = none) (hf : Ev Z A env O B own ρ f (.val (.type "range"))) (he : Ev Z A env O B own ρ e (.int n)) (h0 : 0 ≤ n) (hn : n < 2 ^ 62) (ht : ∀ it v, letOwnedTupleGo target it v = pure () := by intro _ _; rfl)
    (h1 : eval (.Call f [e] [] pos) env = (do callWith pos (← eval f env) [] (backTo pos (starEach [e] env)) (backToKw pos (keywordEach [] env))) := by rfl)
    (h2 : starEach [e] env = (false, eval e env) :: starEach [] env := by rfl) : It Z A env O B own ρ target (.Call f [e] [] pos) n.toNat (fun i => .int ((0 : Int) + (i : Int))) := .mk fun s X Q E k => by
  refine callT_split X hf (evs_cons he evs_nil h2) (fun vs h₁ t₁ g₁ le₁ r => ?_) h1 h2 rfl
  simp only [Reps, Rep] at r
  obtain ⟨_, _, rfl, ⟨u, rfl⟩, rfl⟩ := r
  refine call_range_1 ?_
  have hr := IsRange.new h₁ (0 : Int) n 1 t₁ u (t₁ + 1)
  have hN : Builtin.Range.rangeSize (0 : Int) n 1 = (n.toNat : Nat) := by
    rw [rangeSize_one]
    split <;> omega
  refine wpAny_pyIter_range hr (small_one (by omega) (by omega) (by omega) (by omega)) ?_
  dsimp only
  generalize hR : h₁.push ({ cls := .type "range", data := _ } : Obj) = h₂ at hr ⊢
  have fr : h₂.get? h₂.objs.size = none := get_size _
  have kp2 : ∀ b o, h₁.get? b = some o → h₂.get? b = some o := fun b o e => hR ▸ Heap.get?_push_of_some _ e
  have kp : ∀ b o, h₁.get? b = some o → (h₂.push { cls := .type "range_iterator", data := .fields #[rawInt (0 : Int), rawInt (Builtin.Range.rangeSize (0 : Int) n 1), rawInt 1] }).get? b = some o := fun b o e => Heap.get?_push_of_some _ (kp2 b o e)
  have W := Walks.range (prog := Z.prog) (w := Z.w) hA h₂.objs.size (0 : Int) 1 n.toNat
  refine It.fin (s := s) (Q := Q) (t₂ := t₁ + 2) (wr := [h₂.objs.size]) X g₁ le₁ kp (Nat.le_add_right _ _) (fun b hb => ?_) (fun b hb => ?_) (fun O'' hwO hN => Turns.ofWalks W ht (fun i h hS b hb => ?_) (fun i v hi hv => ?_) hwO) ?_ k
  · simp at hb; subst hb
    refine ⟨?_, _, Heap.get?_push_size _ rfl⟩
    cases e : h₁.get? h₂.objs.size with
    | none => rfl
    | some o => rw [kp2 _ o e] at fr; cases fr
  · exact .inl (by simpa using hb)
  · simp at hb; subst hb; exact ⟨_, hS⟩
  · obtain ⟨t, rfl⟩ := hv
    simp only [Rep]
    exact ⟨t, by rw [Int.mul_one]⟩
  · have e : PySem.IsRangeIter (h₂.push { cls := .type "range_iterator", data := .fields #[rawInt (0 : Int), rawInt (n.toNat : Nat), rawInt 1] }) h₂.objs.size _ _ _ := Heap.get?_push_size _ rfl
    rw [hN]
    simpa using e

theorem it_range2 {target f e e2 : PySem.Expr} {pos : Pos} {lo hi : Int} (hA : A.handled = none) (hf : Ev Z A env O B own ρ f (.val (.type "range"))) (he : Ev Z A env O B own ρ e (.int lo)) (he2 : Ev Z A env O B own ρ e2 (.int hi)) (ha : -(2 ^ 62) ≤ lo) (ha2 : lo < 2 ^ 62) (hb : -(2 ^ 62) ≤ hi) (hb2 : hi < 2 ^ 62) (ht : ∀ it v, letOwnedTupleGo target it v = pure () := by intro _ _; rfl)
    (h1 : eval (.Call f [e, e2] [] pos) env = (do callWith pos (← eval f env) [] (backTo pos (starEach [e, e2] env)) (backToKw pos (keywordEach [] env))) := by rfl)
    (h2 : starEach [e, e2] env = (false, eval e env) :: starEach [e2] env := by rfl) (h3 : starEach [e2] env = (false, eval e2 env) :: starEach [] env := by rfl) (hp : (backTo pos (starEach [e2] env)).any (·.1) = false := by rfl) : It Z A env O B own ρ target (.Call f [e, e2] [] pos) (hi - lo).toNat (fun i => .int (lo + (i : Int))) := .mk fun s X Q E k => by
  refine callT_split X hf (evs_cons he (evs_cons he2 evs_nil h3) h2) (fun vs h₁ t₁ g₁ le₁ r => ?_) h1 h2 hp
  simp only [Reps, Rep] at r
  obtain ⟨_, _, rfl, ⟨u, rfl⟩, _, _, rfl, ⟨v, rfl⟩, rfl⟩ := r
  refine call_range_2 ?_
  have hr := IsRange.new h₁ lo hi 1 u v t₁
  have hN : Builtin.Range.rangeSize lo hi 1 = ((hi - lo).toNat : Nat) := by
    rw [rangeSize_one]
    split <;> omega
  refine wpAny_pyIter_range hr (small_one (by omega) (by omega) (by omega) (by omega)) ?_
  dsimp only
  generalize hR : h₁.push ({ cls := .type "range", data := _ } : Obj) = h₂ at hr ⊢
  have fr : h₂.get? h₂.objs.size = none := get_size _
  have kp2 : ∀ b o, h₁.get? b = some o → h₂.get? b = some o := fun b o e => hR ▸ Heap.get?_push_of_some _ e
  have kp : ∀ b o, h₁.get? b = some o → (h₂.push { cls := .type "range_iterator", data := .fields #[rawInt lo, rawInt (Builtin.Range.rangeSize lo hi 1), rawInt 1] }).get? b = some o := fun b o e => Heap.get?_push_of_some _ (kp2 b o e)
  have W := Walks.range (prog := Z.prog) (w := Z.w) hA h₂.objs.size lo 1 (hi - lo).toNat
  refine It.fin (s := s) (Q := Q) (t₂ := t₁ + 1) (wr := [h₂.objs.size]) X g₁ le₁ kp (Nat.le_add_right _ _) (fun b hb => ?_) (fun b hb => ?_) (fun O'' hwO hN => Turns.ofWalks W ht (fun i h hS b hb => ?_) (fun i v hi hv => ?_) hwO) ?_ k
  · simp at hb; subst hb
    refine ⟨?_, _, Heap.get?_push_size _ rfl⟩
    cases e : h₁.get? h₂.objs.size with
    | none => rfl
    | some o => rw [kp2 _ o e] at fr; cases fr
  · exact .inl (by simpa using hb)
  · simp at hb; subst hb; exact ⟨_, hS⟩
  · obtain ⟨t, rfl⟩ := hv
    simp only [Rep]
    exact ⟨t, by rw [Int.mul_one]⟩
  · have e : PySem.IsRangeIter (h₂.push { cls := .type "range_iterator", data := .fields #[rawInt lo, rawInt ((hi - lo).toNat : Nat), rawInt 1] }) h₂.objs.size _ _ _ := Heap.get?_push_size _ rfl
    rw [hN]
    simpa using e
end
end Mine

open PySem PySem.W PyProof.Rows PySem.Calls
set_option Elab.async false
set_option linter.all false
set_option maxRecDepth 100000
namespace Mine
section
variable {Z : Zone} {A : Around} {env : Env} {O O' : Addr → Prop} {B : Addr → Obj → Prop} {own own' : List (Addr × List D)} {ρ ρ' : Rho} {s : Shared} {E : Value → Shared → Prop} {h' h₁ : Heap} {tk t₁ : Nat}
theorem op_iadd {a b : Int} : Op2 Z A O (inplaceOp .Add) (.int a) (.int b) (.int (a + b)) := op_ii fun _ _ _ _ _ k => PyProof.Rows.iadd_int k
theorem op_isub {a b : Int} : Op2 Z A O (inplaceOp .Sub) (.int a) (.int b) (.int (a - b)) := op_ii fun _ _ _ _ _ k => PyProof.Rows.isub_int k
theorem op_imul {a b : Int} (h : Builtin.Int.intBits a ≤ 64) : Op2 Z A O (inplaceOp .Mult) (.int a) (.int b) (.int (a * b)) := op_ii fun _ _ _ _ _ k => PyProof.Rows.imul_int k (IntMulOk.of_left h)
theorem Reps.take {h : Heap} {T : Nat} : ∀ {ds : List D} {vs : List Value} (n : Nat), Reps O h T ds vs → Reps O h T (ds.take n) (vs.take n)
  | [], _, n, r => by simp only [Reps] at r; subst r; simp [Reps]
  | d :: ds, _, 0, r => by simp [Reps]
  | d :: ds, _, n + 1, r => by
    simp only [Reps] at r
    obtain ⟨v, rs, rfl, r1, r2⟩ := r
    simp only [List.take_succ_cons, Reps]
    exact ⟨v, _, rfl, r1, Reps.take n r2⟩
theorem Reps.drop {h : Heap} {T : Nat} : ∀ {ds : List D} {vs : List Value} (n : Nat), Reps O h T ds vs → Reps O h T (ds.drop n) (vs.drop n)
  | _, _, 0, r => by simpa using r
  | [], _, n + 1, r => by simp only [Reps] at r; subst r; simp [Reps]
  | d :: ds, _, n + 1, r => by
    simp only [Reps] at r
    obtain ⟨v, rs, rfl, r1, r2⟩ := r
    exact Reps.drop n r2
/-- x[k:] and x[:k] of a list -/
theorem ev_from {e l : PySem.Expr} {p pos : Pos} {ds : List D} {n : Nat} (h1 : Ev Z A env O B own ρ e (.lst ds)) (h2 : Ev Z A env O B own ρ l (.int n)) (hz : ds.length ≤ sizeLine) (ht : ∀ o r, letTemporaryGo e o r = pure () := by intro _ _; rfl) :
    Ev Z A env O B own ρ (.Subscript e (.Slice (some l) none none p) pos) (.lst (ds.drop n)) := .mk fun s X Q E k =>
  wpAny_Subscript_list_slice (h1.run s X _ _ fun v h₁ t₁ g₁ le₁ r₁ => by
    rw [evalPart_some]
    refine h2.run _ (X.grow g₁ le₁) _ _ fun v2 h₂ t₂ g₂ le₂ r₂ => ?_
    rw [evalPart_none]
    have X₂ := (X.grow g₁ le₁).grow g₂ le₂
    have r₁' := r₁.grow g₂ le₂
    simp only [Rep] at r₁' r₂
    obtain ⟨a, vs, rfl, no, hl, rs⟩ := r₁'
    obtain ⟨u, rfl⟩ := r₂
    refine wpAny_pure ⟨a, vs.toArray, some n, none, rfl, hl, by simpa [rs.length] using hz, .int _ _, .none, ?_⟩
    rw [slicePick_from']
    dsimp only
    have g₃ := Grow.push (Z := Z) (O := O) X₂.tabs { cls := .type "slice", data := .fields #[.int n u, .none, .none] }
    have X₃ := X₂.grow g₃ (Nat.le_refl _)
    have g₄ := Grow.push (Z := Z) (O := O) X₃.tabs { cls := .type "list", data := .seq (vs.drop n).toArray }
    refine k (.ref (h₂.objs.size + 1)) _ t₂ (((g₁.trans g₂).trans g₃).trans g₄) (Nat.le_trans le₁ le₂) ?_
    simp only [Rep]
    refine ⟨_, vs.drop n, rfl, ?_, ⟨{ cls := .type "list", data := .seq (vs.drop n).toArray }, ?_, rfl, 0, rfl⟩, ((rs.drop n).grow g₃ (Nat.le_refl _)).grow g₄ (Nat.le_refl _)⟩
    · have := X₃.wd.fresh
      rwa [show ({ heap := h₂.push { cls := .type "slice", data := .fields #[.int n u, .none, .none] }, gens := s.gens, drawn := s.drawn, toks := t₂, os := s.os } : Shared).heap.objs.size = h₂.objs.size + 1 from Heap.size_push ..] at this
    · rw [show h₂.objs.size + 1 = (h₂.push { cls := .type "slice", data := .fields #[.int n u, .none, .none] }).objs.size from (Heap.size_push ..).symm]
      exact Heap.get?_push_size _ rfl) ht
theorem ev_upto {e l : PySem.Expr} {p pos : Pos} {ds : List D} {n : Nat} (h1 : Ev Z A env O B own ρ e (.lst ds)) (h2 : Ev Z A env O B own ρ l (.int n)) (hz : ds.length ≤ sizeLine) (ht : ∀ o r, letTemporaryGo e o r = pure () := by intro _ _; rfl) :
    Ev Z A env O B own ρ (.Subscript e (.Slice none (some l) none p) pos) (.lst (ds.take n)) := .mk fun s X Q E k =>
  wpAny_Subscript_list_slice (h1.run s X _ _ fun v h₁ t₁ g₁ le₁ r₁ => by
    rw [evalPart_none]
    refine wpAny_pure ?_
    rw [evalPart_some]
    refine h2.run _ (X.grow g₁ le₁) _ _ fun v2 h₂ t₂ g₂ le₂ r₂ => ?_
    have X₂ := (X.grow g₁ le₁).grow g₂ le₂
    have r₁' := r₁.grow g₂ le₂
    simp only [Rep] at r₁' r₂
    obtain ⟨a, vs, rfl, no, hl, rs⟩ := r₁'
    obtain ⟨u, rfl⟩ := r₂
    refine ⟨a, vs.toArray, none, some n, rfl, hl, by simpa [rs.length] using hz, .none, .int _ _, ?_⟩
    rw [slicePick_upto']
    dsimp only
    have g₃ := Grow.push (Z := Z) (O := O) X₂.tabs { cls := .type "slice", data := .fields #[.none, .int n u, .none] }
    have X₃ := X₂.grow g₃ (Nat.le_refl _)
    have g₄ := Grow.push (Z := Z) (O := O) X₃.tabs { cls := .type "list", data := .seq (vs.take n).toArray }
    refine k (.ref (h₂.objs.size + 1)) _ t₂ (((g₁.trans g₂).trans g₃).trans g₄) (Nat.le_trans le₁ le₂) ?_
    simp only [Rep]
    refine ⟨_, vs.take n, rfl, ?_, ⟨{ cls := .type "list", data := .seq (vs.take n).toArray }, ?_, rfl, 0, rfl⟩, ((rs.take n).grow g₃ (Nat.le_refl _)).grow g₄ (Nat.le_refl _)⟩
    · have := X₃.wd.fresh
      rwa [show ({ heap := h₂.push { cls := .type "slice", data := .fields #[.none, .int n u, .none] }, gens := s.gens, drawn := s.drawn, toks := t₂, os := s.os } : Shared).heap.objs.size = h₂.objs.size + 1 from Heap.size_push ..] at this
    · rw [show h₂.objs.size + 1 = (h₂.push { cls := .type "slice", data := .fields #[.none, .int n u, .none] }).objs.size from (Heap.size_push ..).symm]
      exact Heap.get?_push_size _ rfl) ht
/-- an item of an own list is turned with an operator: x[i] op= e -/
theorem x_augOz {o i value : PySem.Expr} {op : Operator} {p' pos : Pos} {own₁ own₂ : List (Addr × List D)} {a : Addr} {ds : List D} {k : Int} {d0 d1 d : D} {rest : List Stmt} {Q : Flow → Shared → Prop} (X : St Z env O B (own₁ ++ (a, ds) :: own₂) ρ s)
    (ho : Ev Z A env O B (own₁ ++ (a, ds) :: own₂) ρ o (.val (.ref a))) (hi : Ev Z A env O B (own₁ ++ (a, ds) :: own₂) ρ i (.int k)) (h0 : 0 ≤ k) (hfit : k < 2 ^ 63) (hd : ds[k.toNat]? = some d0)
    (hv : Ev Z A env O B (own₁ ++ (a, ds) :: own₂) ρ value d1) (hop : Op2 Z A O (inplaceOp op) d0 d1 d)
    (kk : ∀ h' tk, St Z env O B (own₁ ++ (a, ds.set k.toNat d) :: own₂) ρ { s with heap := h', toks := tk } → Xs Z A rest env Q E { s with heap := h', toks := tk })
    (hau : ∀ ov iv new, augStore i ov iv new = (do holding [new, ov, iv] (setItem ov iv new); release [new, ov, iv] []; pure .next)) : Xs Z A (.AugAssign (.Subscript o i p') op value pos :: rest) env Q E s :=
  Xs.cons (wpAny_AugAssign_SubscriptAny (ho.run s X _ _ fun ov h₁ t₁ g₁ le₁ r₁ => hi.run _ (X.grow g₁ le₁) _ _ fun iv h₂ t₂ g₂ le₂ r₂ => by
    have X₂ := (X.grow g₁ le₁).grow g₂ le₂
    simp only [Rep] at r₁ r₂
    subst r₁
    obtain ⟨u, rfl⟩ := r₂
    obtain ⟨_, vs, hl, rs⟩ := X₂.ownd (a, ds) (List.mem_append_right _ (.head _))
    obtain ⟨x, hx, rx⟩ := rs.at hd
    refine wpAny_getItem_list hl.isList h0 hfit (by simpa using hx) ?_
    refine hv.run _ X₂ _ _ fun v h₃ t₃ g₃ le₃ r₃ => ?_
    have X₃ := X₂.grow g₃ le₃
    refine wpAny_mono (hop.run _ x v X₃.wd (rx.grow g₃ le₃) r₃ (fun v' s' => wpAny (model Z.prog Z.w) A (setItem (.ref a) (.int k u) v') (fun _ => _) _ s') _ fun v' h₄ t₄ g₄ le₄ r₄ => ?_) (fun _ _ e => e) fun _ _ e => e
    have X₄ := X₃.grow g₄ le₄
    obtain ⟨_, ws, hl4, rs4⟩ := X₄.ownd (a, ds) (List.mem_append_right _ (.head _))
    have hlen := rs4.length
    have hk := (List.getElem?_eq_some_iff.mp hd).1
    obtain ⟨n, e⟩ := hl4
    refine ki_setAt (items := ws.toArray) (n := n) e h0 hfit (by simp only [List.size_toArray, hlen]; omega) ?_
    have hm : Obj.mapSeq (·.setIfInBounds k.toNat v') { cls := .type "list", data := .seq ws.toArray n } = { cls := .type "list", data := .seq (ws.set k.toNat v').toArray n } := by simp [Obj.mapSeq]
    have X₅ := X₄.own_upd (h' := h₄.update a (Obj.mapSeq (·.setIfInBounds k.toNat v'))) (ds' := ds.set k.toNat d) (tk := t₄) (vs' := ws.set k.toNat v') (Heap.SameBut.update ..) (Nat.le_refl _) ⟨n, by rw [Heap.get?_update_self _ e (by rw [hm]; rfl), hm]⟩ (Reps.set r₄ _ rs4)
    exact kk _ t₄ X₅) hau)
theorem x_augO {h₀ : Heap} {t₀ : Nat} {o i value : PySem.Expr} {op : Operator} {p' pos : Pos} {own₁ own₂ : List (Addr × List D)} {a : Addr} {ds : List D} {k : Int} {d0 d1 d : D} {rest : List Stmt} {Q : Flow → Shared → Prop} (X : St Z env O B (own₁ ++ (a, ds) :: own₂) ρ { s with heap := h₀, toks := t₀ })
    (ho : Ev Z A env O B (own₁ ++ (a, ds) :: own₂) ρ o (.val (.ref a))) (hi : Ev Z A env O B (own₁ ++ (a, ds) :: own₂) ρ i (.int k)) (h0 : 0 ≤ k) (hfit : k < 2 ^ 63) (hd : ds[k.toNat]? = some d0)
    (hv : Ev Z A env O B (own₁ ++ (a, ds) :: own₂) ρ value d1) (hop : Op2 Z A O (inplaceOp op) d0 d1 d)
    (kk : ∀ h' tk, St Z env O B (own₁ ++ (a, ds.set k.toNat d) :: own₂) ρ { s with heap := h', toks := tk } → Xs Z A rest env Q E { s with heap := h', toks := tk })
    (hau : ∀ ov iv new, augStore i ov iv new = (do holding [new, ov, iv] (setItem ov iv new); release [new, ov, iv] []; pure .next) := by intro _ _ _; rfl) : Xs Z A (.AugAssign (.Subscript o i p') op value pos :: rest) env Q E { s with heap := h₀, toks := t₀ } := x_augOz X ho hi h0 hfit hd hv hop kk hau
end
end Mine

open PySem PySem.W PyProof.Rows PySem.Calls
set_option Elab.async false
set_option linter.all false
set_option maxRecDepth 100000
namespace Mine
noncomputable def cells0 : List Int := [1185, 7, 1200, 3003, 18002, 4801, 20400, 3603]
noncomputable def cellsUp (xs : List Int) : Nat → List Int
  | 0 => cells0
  | i + 1 => (cellsUp xs i).set (i % 8) ((cellsUp xs i).getD (i % 8) 0 + (xs.getD i 0).fmod 1000000)
theorem cellsUp_len (xs : List Int) : ∀ i, (cellsUp xs i).length = 8
  | 0 => rfl
  | i + 1 => by simp [cellsUp, cellsUp_len xs i]
noncomputable def lawCells (xs : List Int) : List Int := cellsUp (xs.take 60) (xs.take 60).length
section
variable {Z : Zone}
theorem nth_map {xs : List Int} {i : Nat} (h : i < xs.length) : nth (xs.map D.int) i = .int (xs.getD i 0) := by
  unfold nth
  simp [List.getD_eq_getElem?_getD, h]
theorem fn_law_cells (G : ZL Z) {xs : List Int} (hx : xs.length ≤ sizeLine) : Fn Z 160 5 [.lst (xs.map .int)] (.lst ((lawCells xs).map .int)) := .mk <| by
  intro A O s vs hA hdep W r
  have r' := r
  simp only [Reps] at r'
  obtain ⟨v1, _, rfl, r1, rfl⟩ := r'
  refine fn_enterP (ns := ["script"]) G.toZoneOk W (dep0 hdep) (G.K 160 _ rfl) rfl (codeRec_of (Frag.In.keeps G.K W.zone) rfl) rfl rfl (by decide) (by decide) (by decide) rfl rfl rfl r (fun _ => rfl) ?_
  intro L h₁ t₁ X Q E k
  have ok := envOk_of X rfl rfl rfl
  refine x_ownL X rfl rfl (evn_lst (evs_cons ev_int (evs_cons ev_int (evs_cons ev_int (evs_cons ev_int (evs_cons ev_int (evs_cons ev_int (evs_cons ev_int (evs_cons ev_int evs_nil))))))))) rfl fun al h₂ t₂ hBa hOa X₂ => ?_
  have ok2 := envOk_of X₂ rfl rfl rfl
  let ρ0 : Rho := [("cells", .val (.ref al)), ("script", .lst (xs.map .int))]
  have hl : ((xs.map D.int).take 60).length = (xs.take 60).length := by simp
  refine x_for (N := ((xs.map D.int).take 60).length) (fun i => [(al, (cellsUp (xs.take 60) i).map .int)]) (fun i => ρ0) (fun i => ("x", nth ((xs.map D.int).take 60) i) :: ("k", .int i) :: ρ0) (fun i => rfl) X₂
    (it_enum hA (ev_b G.toZK ok2 rfl rfl) (ev_upto (n := 60) (ev_local rfl) ev_int (by simpa using hx))) (fun i hi O' B' => asg_tup hA (asgs_cons asg_name (asgs_cons asg_name asgs_nil))) (fun i hi O' B' hO' hB' s X Q E kk => ?_) fun h₆ t₆ X₈ => ?_
  · have hi' : i < (xs.take 60).length := by rw [← hl]; exact hi
    have hn : nth ((xs.map D.int).take 60) i = .int ((xs.take 60).getD i 0) := by rw [← List.map_take]; exact nth_map hi'
    rw [hn] at X
    have hlen := cellsUp_len (xs.take 60) i
    have hm : i % 8 < 8 := Nat.mod_lt _ (by decide)
    have hfm : (i : Int).fmod 8 = ((i % 8 : Nat) : Int) := by rw [Int.fmod_eq_emod_of_nonneg _ (by decide)]; omega
    refine x_augO (own₁ := []) (own₂ := []) (k := ((i % 8 : Nat) : Int)) (d0 := .int ((cellsUp (xs.take 60) i).getD (i % 8) 0)) X (ev_local rfl) (Ev.cast (ev_bin (ev_local rfl) ev_int (op_mod (by decide))) (by rw [hfm])) (Int.natCast_nonneg _) (by omega) (by
        simp only [Int.toNat_natCast, List.getElem?_map, List.getD_eq_getElem?_getD]
        rw [List.getElem?_eq_getElem (by omega)]
        rfl)
      (ev_bin (ev_local rfl) (ev_bin ev_int ev_int (op_pow (by decide) (by decide))) (op_mod (by decide))) op_iadd fun h₃ t₃ X₃ => x_nil (kk _ _ ?_)
    have e : ((cellsUp (xs.take 60) i).map D.int).set (Int.toNat ((i % 8 : Nat) : Int)) (.int ((cellsUp (xs.take 60) i).getD (i % 8) 0 + ((xs.take 60).getD i 0).fmod (10 ^ Int.toNat 6))) = (cellsUp (xs.take 60) (i + 1)).map .int := by
      simp only [cellsUp, List.map_set, Int.toNat_natCast]
      rfl
    rw [List.nil_append, e] at X₃
    exact X₃.sub ⟨rfl, rfl, trivial⟩
  · rw [hl] at X₈
    exact x_retO X₈ (ev_local rfl) (fun b => Iff.rfl) hOa X.OL (fun p hp => nomatch hp) (fun q hq => (X.tabs q hq).1) fun h' tk X' r' => k _ h' tk _ _ X' r'
end
end Mine

open PySem PySem.W PyProof.Rows PySem.Calls
set_option Elab.async false
set_option linter.all false
set_option maxRecDepth 100000
namespace Mine
mutual
noncomputable def toPy : D → PyData
  | .none => .none
  | .bool b => .bool b
  | .int n => .int n
  | .str x => .str x
  | .cst x => .str x
  | .tup ds => .tuple (toPys ds)
  | .lst ds => .list (toPys ds)
  | .bytes _ => .none
  | .val _ => .none
noncomputable def toPys : List D → List PyData
  | [] => []
  | d :: ds => toPy d :: toPys ds
end
mutual
noncomputable def D.py : D → Bool
  | .bytes _ | .val _ => false
  | .tup ds => D.pys ds
  | .lst ds => D.pys ds
  | _ => true
noncomputable def D.pys : List D → Bool
  | [] => true
  | d :: ds => d.py && D.pys ds
end
mutual
theorem Rep.reads {O : Addr → Prop} {h : Heap} {T : Nat} : ∀ (d : D) {v : Value}, d.py = true → Rep O h T d v → ∃ as, Reads h v (toPy d) as
  | .none, _, _, r => by simp only [Rep] at r; subst r; exact ⟨_, .none⟩
  | .bool b, _, _, r => by simp only [Rep] at r; subst r; exact ⟨_, .bool b⟩
  | .int n, _, _, r => by simp only [Rep] at r; obtain ⟨t, rfl⟩ := r; exact ⟨_, .int n t⟩
  | .str x, _, _, r => by simp only [Rep] at r; obtain ⟨t, rfl⟩ := r; exact ⟨_, .str x t⟩
  | .cst x, _, _, r => by simp only [Rep] at r; obtain ⟨t, rfl, _⟩ := r; exact ⟨_, .str x t⟩
  | .bytes _, _, hp, _ => by simp [D.py] at hp
  | .val _, _, hp, _ => by simp [D.py] at hp
  | .tup ds, _, hp, r => by
    simp only [Rep] at r
    obtain ⟨a, vs, rfl, _, ⟨o, e, hc, n, hd⟩, rs⟩ := r
    obtain ⟨as, q⟩ := Reps.reads ds (by simpa [D.py] using hp) rs
    exact ⟨as, .tuple e hc hd (by simpa using q)⟩
  | .lst ds, _, hp, r => by
    simp only [Rep] at r
    obtain ⟨a, vs, rfl, _, ⟨o, e, hc, n, hd⟩, rs⟩ := r
    obtain ⟨as, q⟩ := Reps.reads ds (by simpa [D.py] using hp) rs
    exact ⟨_, .list e hc hd (by simpa using q)⟩
theorem Reps.reads {O : Addr → Prop} {h : Heap} {T : Nat} : ∀ (ds : List D) {vs : List Value}, D.pys ds = true → Reps O h T ds vs → ∃ as, ReadsAll h vs (toPys ds) as
  | [], _, _, r => by simp only [Reps] at r; subst r; exact ⟨_, .nil⟩
  | d :: ds, _, hp, r => by
    simp only [Reps] at r
    obtain ⟨v, rs, rfl, r1, r2⟩ := r
    simp only [D.pys, Bool.and_eq_true] at hp
    obtain ⟨as, q1⟩ := Rep.reads d hp.1 r1
    obtain ⟨bs, q2⟩ := Reps.reads ds hp.2 r2
    exact ⟨_, .cons q1 q2⟩
end
section
variable {Z : Zone} {A : Around} {env : Env} {O O' : Addr → Prop} {B : Addr → Obj → Prop} {own own' : List (Addr × List D)} {ρ ρ' : Rho} {s : Shared} {E : Value → Shared → Prop} {h' h₁ : Heap} {tk t₁ : Nat}
theorem op_eqD {d1 d2 : D} (hu : A.units + 64 < cLine) (p1 : d1.py = true) (p2 : d2.py = true) (s1 : SeqAt.shaped (toPy d1) = true) (s2 : SeqAt.shaped (toPy d2) = true) : Op2 Z A O (compareOp .Eq) d1 d2 (.bool (PyData.eqv (toPy d1) (toPy d2))) := .mk fun s v1 v2 W r1 r2 Q E k => by
  obtain ⟨as, q1⟩ := r1.reads d1 p1
  obtain ⟨bs, q2⟩ := r2.reads d2 p2
  exact eq_dataH q1 q2 s1 s2 hu (k _ s.heap s.toks (Grow.refl W.tabs) (Nat.le_refl _) (by simp only [Rep]))
theorem op_neD {d1 d2 : D} (hu : A.units + 64 < cLine) (p1 : d1.py = true) (p2 : d2.py = true) (s1 : SeqAt.shaped (toPy d1) = true) (s2 : SeqAt.shaped (toPy d2) = true) : Op2 Z A O (compareOp .NotEq) d1 d2 (.bool (!PyData.eqv (toPy d1) (toPy d2))) := .mk fun s v1 v2 W r1 r2 Q E k => by
  obtain ⟨as, q1⟩ := r1.reads d1 p1
  obtain ⟨bs, q2⟩ := r2.reads d2 p2
  exact ne_dataH q1 q2 s1 s2 hu (k _ s.heap s.toks (Grow.refl W.tabs) (Nat.le_refl _) (by simp only [Rep]))
/-- a contract that asks for room -/
structure FnU (Z : Zone) (f : Addr) (k : Nat) (ds : List D) (d : D) : Prop where
  run : 
    ∀ A O s vs, A.handled = none → A.depth + k < recursionLimit → A.units + 3 * k < 9000 → Wd Z O s → Reps O s.heap s.toks ds vs → CpC Z A O (.call (.ref f) ⟨vs, []⟩) s d
theorem ev_fnU {fe e : PySem.Expr} {es : List PySem.Expr} {pos : Pos} {f : Addr} {o : Obj} {fd : FuncData} {k : Nat} {ds : List D} {d : D} (hZ : Z.H.get? f = some o) (hd : o.data = .func fd) (hF : FnU Z f k ds d) (hA : A.handled = none) (hdep : A.depth + k < recursionLimit) (hun : A.units + 3 * k < 9000) (hf : Ev Z A env O B own ρ fe (.val (.ref f))) (ha : Evs Z A env O B own ρ pos (e :: es) ds)
    (he : eval (.Call fe (e :: es) [] pos) env = (do callWith pos (← eval fe env) [] (backTo pos (starEach (e :: es) env)) (backToKw pos (keywordEach [] env))) := by rfl)
    (hs : starEach (e :: es) env = (false, eval e env) :: starEach es env := by rfl) : Ev Z A env O B own ρ (.Call fe (e :: es) [] pos) d := .mk fun s X Q E kk =>
  (ev_callF (X.zone _ _ hZ) hd hf ha (fun s' vs X' r' => Cp.call (hF.run A O s' vs hA hdep hun X'.wd r')) he hs).run s X Q E kk
end
end Mine

open PySem PySem.W PyProof.Rows PySem.Calls
set_option Elab.async false
set_option linter.all false
set_option maxRecDepth 100000
namespace Mine
/-- Euclid's steps: before, rest, often, lag -/
structure Eu where
  b : Int
  r : Int
  o : Int
  l : Int
noncomputable def Eu.step (e : Eu) : Eu := ⟨e.r, e.b.fmod e.r, e.l - e.b.fdiv e.r * e.o, e.o⟩
noncomputable def eu (e : Eu) : Nat → Eu
  | 0 => e
  | n + 1 => (eu e n).step
theorem fmod_abs {a b : Int} (hb : b ≠ 0) : (a.fmod b).natAbs < b.natAbs := by
  rcases Int.lt_or_gt_of_ne hb with h | h
  · have := Int.neg_fmod_neg a b
    have hb0 : 0 < -b := Int.neg_pos_of_neg h
    have h2 : (-a).fmod (-b) = (-a) % (-b) := Int.fmod_eq_emod_of_nonneg _ (Int.le_of_lt hb0)
    have h3 := Int.emod_nonneg (-a) (Int.ne_of_gt hb0)
    have h4 := Int.emod_lt_of_pos (-a) hb0
    rw [← h2, this] at h3 h4
    rw [← Int.natAbs_neg, ← Int.natAbs_neg b]
    exact Int.natAbs_lt_natAbs_of_nonneg_of_lt h3 h4
  · have h2 : a.fmod b = a % b := Int.fmod_eq_emod_of_nonneg _ (Int.le_of_lt h)
    have h3 := Int.emod_nonneg a hb
    have h4 := Int.emod_lt_of_pos a h
    rw [h2]
    exact Int.natAbs_lt_natAbs_of_nonneg_of_lt h3 h4
section
variable {Z : Zone} {A : Around} {env : Env} {O : Addr → Prop} {B : Addr → Obj → Prop} {own : List (Addr × List D)} {ρ ρ' : Rho} {s : Shared}
theorem ev_isint {f e1 e2 : PySem.Expr} {pos : Pos} {n : Int} (hf : Ev Z A env O B own ρ f (.val (.builtin "isinstance"))) (h1 : Ev Z A env O B own ρ e1 (.int n)) (h2 : Ev Z A env O B own ρ e2 (.val (.type "int")))
    (he : eval (.Call f [e1, e2] [] pos) env = (do callWith pos (← eval f env) [] (backTo pos (starEach [e1, e2] env)) (backToKw pos (keywordEach [] env))) := by rfl) (s1 : starEach [e1, e2] env = (false, eval e1 env) :: starEach [e2] env := by rfl) (s2 : starEach [e2] env = (false, eval e2 env) :: starEach [] env := by rfl) (hp : (backTo pos (starEach [e2] env)).any (·.1) = false := by rfl) :
    Ev Z A env O B own ρ (.Call f [e1, e2] [] pos) (.bool true) :=
  ev_call hf (evs_cons h1 (evs_cons h2 evs_nil s2) s1) (fun s vs W r Q E k => by
    simp only [Reps, Rep] at r
    obtain ⟨_, _, rfl, ⟨t1, rfl⟩, _, _, rfl, rfl, rfl⟩ := r
    exact IsiPair.int_int (k _ s.heap s.toks (Grow.refl W.tabs) (Nat.le_refl _) (by simp only [Rep]))) he s1 hp
theorem ev_isbool {f e1 e2 : PySem.Expr} {pos : Pos} {n : Int} (hf : Ev Z A env O B own ρ f (.val (.builtin "isinstance"))) (h1 : Ev Z A env O B own ρ e1 (.int n)) (h2 : Ev Z A env O B own ρ e2 (.val (.type "bool")))
    (he : eval (.Call f [e1, e2] [] pos) env = (do callWith pos (← eval f env) [] (backTo pos (starEach [e1, e2] env)) (backToKw pos (keywordEach [] env))) := by rfl) (s1 : starEach [e1, e2] env = (false, eval e1 env) :: starEach [e2] env := by rfl) (s2 : starEach [e2] env = (false, eval e2 env) :: starEach [] env := by rfl) (hp : (backTo pos (starEach [e2] env)).any (·.1) = false := by rfl) :
    Ev Z A env O B own ρ (.Call f [e1, e2] [] pos) (.bool false) :=
  ev_call hf (evs_cons h1 (evs_cons h2 evs_nil s2) s1) (fun s vs W r Q E k => by
    simp only [Reps, Rep] at r
    obtain ⟨_, _, rfl, ⟨t1, rfl⟩, _, _, rfl, rfl, rfl⟩ := r
    exact IsiPair.int_bool (k _ s.heap _ (Grow.refl W.tabs) (Nat.le_succ _) (by simp only [Rep]))) he s1 hp
end
section
variable {Z : Zone}
theorem fn_law_run (G : ZL Z) {e : Eu} {most : Int} {N : Nat} (hl : e.l = 0) (h1 : ∀ n, n < N → most < (eu e n).r.natAbs) (h2 : (eu e N).r.natAbs ≤ most) (h0 : 0 ≤ most) (hb : e.b.natAbs < 2 ^ 63) (hr : e.r.natAbs < 2 ^ 63) :
    FnU Z 179 130 [.int e.b, .int e.r, .int e.o, .int most] (.tup [.int (eu e N).b, .int (eu e N).r, .int (eu e N).o, .bool true]) := .mk <| by
  intro A O s vs hA hdep hun W r
  have r' := r
  simp only [Reps] at r'
  obtain ⟨v1, _, rfl, r1, v2, _, rfl, r2, v3, _, rfl, r3, v4, _, rfl, r4, rfl⟩ := r'
  refine fn_enterP (ns := ["before", "rest", "often", "most"]) G.toZoneOk W (dep0 hdep) (G.K 179 _ rfl) rfl (codeRec_of (Frag.In.keeps G.K W.zone) rfl) rfl rfl (by decide) (by decide) (by decide) rfl rfl rfl r (fun _ => rfl) ?_
  intro L h₁ t₁ X Q E k
  have ok := envOk_of X rfl rfl rfl
  have hbd : ∀ n, n ≤ N → (eu e n).b.natAbs < 2 ^ 63 ∧ (eu e n).r.natAbs < 2 ^ 63 := by
    intro n
    induction n with
    | zero => exact fun _ => ⟨hb, hr⟩
    | succ n ih =>
      intro hn
      have i := ih (Nat.le_of_succ_le hn)
      exact ⟨i.2, Nat.lt_trans (fmod_abs (ne_of_big h0 (h1 n hn))) i.2⟩
  let ρf : Nat → Rho := fun n => [("before", .int (eu e n).b), ("rest", .int (eu e n).r), ("often", .int (eu e n).o), ("lag", .int (eu e n).l), ("right", .bool true), ("most", .int most)]
  refine x_tup X (ev_tup (evs_cons ev_int (evs_cons ev_bool evs_nil))) (asg_tup hA (asgs_cons asg_name (asgs_cons asg_name asgs_nil))) fun h₂ t₂ X₂ => ?_
  have X₃ := X₂.sub (ρ' := ρf 0) ⟨rfl, rfl, rfl, by show some (D.int 0) = some (D.int e.l); rw [hl], rfl, rfl, trivial⟩
  refine x_while N (fun _ => []) ρf X₃ (fun n hn => ?_) ?_ (fun n hn s X Q E kk => ?_) fun h₄ t₄ X₄ => ?_
  · have h := h1 n hn
    exact Tst.cast (tst_and (tst_cmp (ev_abs (ev_b G.toZK ok rfl rfl) (ev_local rfl)) (ev_local rfl) op_gt) fun _ => tst_bool (ev_local rfl)) (by
      simp only [Bool.and_true, decide_eq_true_eq]
      exact abs_gt h)
  · refine Tst.cast (tst_and (y := true) (tst_cmp (ev_abs (ev_b G.toZK ok rfl rfl) (ev_local rfl)) (ev_local rfl) op_gt) fun _ => tst_bool (ev_local rfl)) (by
      simp only [Bool.and_true, decide_eq_false_iff_not]
      exact abs_ng h2)
  · have h := h1 n hn
    have hbn := hbd n (Nat.le_of_lt hn)
    have hr0 : (eu e n).r ≠ 0 := ne_of_big h0 h
    have hq : ((eu e n).b.fdiv (eu e n).r).natAbs ≤ (eu e n).b.natAbs := by
      exact Int.natAbs_fdiv_le_natAbs _ _
    refine x_assign X (ev_fn (G.K 73 _ rfl) rfl (fn_int_divmod G (na_lo hbn.1) (na_up hbn.1) (na_lo hbn.2) (na_up hbn.2) hr0) hA (dep (a := A.depth) (m := 130) (n := 121) hdep) (ev_g G.toZK ok rfl) (evs_cons (ev_local rfl) (evs_cons (ev_local rfl) evs_nil))) asg_store fun h₂ t₂ X₂ => ?_
    refine x_comp (fun _ => true) (fun _ => .bool true) [] (fun i => [("part", nth [.int ((eu e n).b.fdiv (eu e n).r), .int ((eu e n).b.fmod (eu e n).r)] i)]) X₂ (it_tuple hA (ev_local rfl)) (by simp [sizeLine]) rfl (by decide) rfl (by decide) (fun C x d hg => by cases hg) (fun x c h => by cases h) (fun i => trivial)
      (fun i hi C O' B' own' hO => asg_name) (fun i hi C O' B' own' hO => tsts_nil) (fun i hi _ C O' B' own' hO => ?_) (fun O' B' => asg_name) fun h₃ t₃ X₃ => ?_
    · obtain ⟨z, hz⟩ : ∃ z, nth [.int ((eu e n).b.fdiv (eu e n).r), .int ((eu e n).b.fmod (eu e n).r)] i = .int z := by
        simp only [List.length_cons, List.length_nil] at hi
        rcases i with _ | _ | i
        · exact ⟨_, rfl⟩
        · exact ⟨_, rfl⟩
        · exact absurd hi (Nat.not_lt_of_le (Nat.le_add_left _ _))
      rw [hz]
      exact ev_and2 (ev_isint (ev_b G.toZK ⟨rfl, rfl, rfl⟩ rfl rfl) (ev_local rfl) (ev_b G.toZK ⟨rfl, rfl, rfl⟩ rfl rfl)) fun _ => ev_un (ev_isbool (ev_b G.toZK ⟨rfl, rfl, rfl⟩ rfl rfl) (ev_local rfl) (ev_b G.toZK ⟨rfl, rfl, rfl⟩ rfl rfl)) op_not
    have hpl : ((List.range [D.int ((eu e n).b.fdiv (eu e n).r), .int ((eu e n).b.fmod (eu e n).r)].length).filter (fun _ => true)).map (fun _ => D.bool true) = [.bool true, .bool true] := by simp [List.range_succ]
    rw [hpl] at X₃
    refine x_assign (d := .bool true) X₃ (Ev.cast (ev_and2 (ev_cmp (ev_local rfl) (ev_divmod (ev_b G.toZK ok rfl rfl) (ev_local rfl) (ev_local rfl) hr0 (na_lt hbn.2)) (op_eqD (Nat.lt_trans (dep (a := A.units) (n := 67) hun) (by decide)) rfl rfl rfl rfl)) fun _ => ev_cmp (ev_local rfl) (ev_lst (evs_cons ev_bool (evs_cons ev_bool evs_nil))) (op_eqD (Nat.lt_trans (dep (a := A.units) (n := 67) hun) (by decide)) rfl rfl rfl rfl)) (by
        simp [toPy, toPys, PyData.eqv, PyData.eqvAll])) asg_store fun h₅ t₅ X₅ => ?_
    have hqb : Builtin.Int.intBits ((eu e n).b.fdiv (eu e n).r) ≤ 64 := intBits_le_64 (na_lo (Nat.lt_of_le_of_lt hq hbn.1)) (na_up (Nat.lt_of_le_of_lt hq hbn.1))
    refine x_tup X₅ (ev_tup (evs_cons (ev_local rfl) (evs_cons (ev_itemT (ev_local rfl) ev_int (by decide) (by decide) rfl) (evs_cons (ev_local rfl) (evs_cons (ev_bin (ev_local rfl) (ev_bin (ev_itemT (ev_local rfl) ev_int (by decide) (by decide) rfl) (ev_local rfl) (op_mul hqb)) op_sub) evs_nil)))))
      (asg_tup hA (asgs_cons asg_name (asgs_cons asg_name (asgs_cons asg_name (asgs_cons asg_name asgs_nil))))) fun h₆ t₆ X₆ => x_nil (kk _ _ ?_)
    exact X₆.sub ⟨rfl, rfl, rfl, rfl, rfl, rfl, trivial⟩
  · exact x_ret X₄ (ev_tup (evs_cons (ev_local rfl) (evs_cons (ev_local rfl) (evs_cons (ev_local rfl) (evs_cons (ev_local rfl) evs_nil))))) fun v h' tk X' r' => k v h' tk _ _ X' r'
end
end Mine

set_option Elab.async false
set_option linter.all false
namespace Mine
/-- Euclid's rows for M and near, all signs put right -/
structure Rows (M near sg : Int) (e : Eu) (ep : Int) : Prop where
  r0 : 0 ≤ sg * e.r
  rb : sg * e.r < sg * e.b
  det : (sg * e.b) * (sg * e.o) - (sg * e.r) * (sg * e.l) = ep * M
  os : 0 < ep * (sg * e.o)
  ls : ep * (sg * e.l) ≤ 0
  lr : M ∣ sg * e.r - sg * e.o * near
  lb : M ∣ sg * e.b - sg * e.l * near
  e1 : ep = 1 ∨ ep = -1
theorem sg_div {sg p r : Int} (hs : sg = 1 ∨ sg = -1) : (sg * p).fdiv (sg * r) = p.fdiv r ∧ (sg * p).fmod (sg * r) = sg * p.fmod r := by
  rcases hs with rfl | rfl
  · simp
  · rw [show (-1 : Int) * p = -p by omega, show (-1 : Int) * r = -r by omega, Int.neg_fdiv_neg, Int.neg_fmod_neg]
    omega
theorem sg_sq {sg x : Int} (hs : sg = 1 ∨ sg = -1) : sg * (sg * x) = x := by
  rcases hs with rfl | rfl <;> omega
theorem Rows.start {M near sg : Int} (hs : sg = 1 ∨ sg = -1) (h0 : 0 ≤ near) (h1 : near < M) : Rows M near sg ⟨sg * M, sg * near, sg, 0⟩ 1 := by
  have e1 : sg * sg = 1 := by rcases hs with rfl | rfl <;> rfl
  refine ⟨?_, ?_, ?_, ?_, ?_, ?_, ?_, .inl rfl⟩ <;> simp only [sg_sq hs, e1, Int.mul_zero, Int.mul_one, Int.one_mul, Int.sub_zero, Int.zero_mul]
  · exact h0
  · exact h1
  · decide
  · decide
  · simp
  · exact Int.dvd_refl M
theorem Rows.next {M near sg ep : Int} {e : Eu} (hs : sg = 1 ∨ sg = -1) (h : Rows M near sg e ep) (hr : e.r ≠ 0) : Rows M near sg e.step (-ep) := by
  obtain ⟨r0, rb, det, os, ls, lr, lb, e1⟩ := h
  have hb : e.b = sg * (sg * e.b) := (sg_sq hs).symm
  have hr' : e.r = sg * (sg * e.r) := (sg_sq hs).symm
  have hq : e.b.fdiv e.r = (sg * e.b).fdiv (sg * e.r) := (sg_div hs).1.symm
  have hm : sg * e.b.fmod e.r = (sg * e.b).fmod (sg * e.r) := (sg_div hs).2.symm
  have rpos : 0 < sg * e.r := by
    rcases hs with rfl | rfl <;> omega
  simp only [Eu.step]
  generalize hp : sg * e.b = p at *
  generalize hR : sg * e.r = r at *
  generalize ho : sg * e.o = o at *
  generalize hl : sg * e.l = l at *
  have hfd : p.fdiv r = p / r := Int.fdiv_eq_ediv_of_nonneg _ (Int.le_of_lt rpos)
  have hfm : p.fmod r = p % r := Int.fmod_eq_emod_of_nonneg _ (Int.le_of_lt rpos)
  have hq1 : 1 ≤ p / r := by
    rw [Int.le_ediv_iff_mul_le rpos]; omega
  have hpm := Int.emod_add_mul_ediv p r
  have hm0 := Int.emod_nonneg p (Int.ne_of_gt rpos)
  have hm1 := Int.emod_lt_of_pos p rpos
  have hnew : sg * (e.l - e.b.fdiv e.r * e.o) = l - (p / r) * o := by
    rw [hq, hfd, Int.mul_sub, hl, ← Int.mul_assoc, Int.mul_comm sg, Int.mul_assoc, ho]
  rw [hfd] at hq
  rw [hfm] at hm
  generalize hqq : p / r = q at *
  generalize hmm : p % r = m at *
  have hp' : p = m + r * q := hpm.symm
  refine ⟨?_, ?_, ?_, ?_, ?_, ?_, ?_, ?_⟩ <;> (try simp only [hm, hnew, hR, ho])
  · exact hm0
  · exact hm1
  · have : r * (l - q * o) - m * o = r * l - (m + r * q) * o := by
      rw [Int.mul_sub, Int.add_mul, Int.mul_assoc r q o]; omega
    rw [this, ← hp', Int.neg_mul]
    omega
  · have : -ep * (l - q * o) = -(ep * l) + q * (ep * o) := by
      rw [Int.mul_sub, Int.neg_mul, Int.neg_mul, ← Int.mul_assoc ep, Int.mul_comm ep q, Int.mul_assoc q ep o]; omega
    rw [this]
    have : ep * o ≤ q * (ep * o) := by
      have := Int.mul_le_mul_of_nonneg_right hq1 (Int.le_of_lt os)
      omega
    omega
  · rw [Int.neg_mul]; omega
  · obtain ⟨x, hx⟩ := lr
    obtain ⟨y, hy⟩ := lb
    refine ⟨y - q * x, ?_⟩
    have e3 : r = o * near + M * x := by omega
    have e4 : m + r * q = l * near + M * y := by omega
    have : m = l * near + M * y - r * q := by omega
    rw [this, e3, Int.add_mul, Int.mul_sub, Int.sub_mul]
    have a1 : o * near * q = q * o * near := by rw [Int.mul_comm (o * near) q, Int.mul_assoc]
    have a2 : M * x * q = M * (q * x) := by rw [Int.mul_assoc, Int.mul_comm x q]
    omega
  · exact lr
  · rcases e1 with rfl | rfl
    · exact .inr rfl
    · exact .inl rfl
end Mine

set_option Elab.async false
set_option linter.all false
namespace Mine
theorem recon {M near sg most K T Tb ep : Int} {e : Eu} (h : Rows M near sg e ep) (h1 : sg * e.r ≤ most) (h2 : most < sg * e.b) (hK1 : -most ≤ K) (hK2 : K ≤ most) (hT0 : 0 < T) (hT : T ≤ Tb) (hM : 2 * (most * Tb) < M) (hlat : M ∣ K - T * near) :
    ∃ b : Int, K = b * (sg * e.r) ∧ T = b * (sg * e.o) := by
  obtain ⟨r0, rb, det, os, ls, lr, lb, e1⟩ := h
  generalize hp : sg * e.b = p at *
  generalize hR : sg * e.r = r at *
  generalize ho : sg * e.o = o at *
  generalize hl : sg * e.l = l at *
  obtain ⟨k, hk⟩ := hlat
  obtain ⟨x, hx⟩ := lr
  obtain ⟨y, hy⟩ := lb
  have hmost : 0 ≤ most := by omega
  have hMpos : 0 < M := by
    have : 0 ≤ most * Tb := Int.mul_nonneg hmost (by omega)
    omega
  have c1 : K * o - T * r = M * (k * o - T * x) := by
    have e2 : K = T * near + M * k := by omega
    have e3 : r = o * near + M * x := by omega
    rw [e2, e3, Int.add_mul, Int.mul_add, Int.mul_sub, Int.mul_assoc M k o]
    have a1 : T * near * o = T * (o * near) := by rw [Int.mul_assoc, Int.mul_comm near o]
    have a2 : T * (M * x) = M * (T * x) := by rw [← Int.mul_assoc, Int.mul_comm T M, Int.mul_assoc]
    omega
  have c2 : p * T - l * K = M * (y * T - l * k) := by
    have e2 : K = T * near + M * k := by omega
    have e3 : p = l * near + M * y := by omega
    rw [e2, e3, Int.add_mul, Int.mul_add, Int.mul_sub, Int.mul_assoc M y T]
    have a1 : l * near * T = l * (T * near) := by rw [Int.mul_assoc, Int.mul_comm near T]
    have a2 : l * (M * k) = M * (l * k) := by rw [← Int.mul_assoc, Int.mul_comm l M, Int.mul_assoc]
    omega
  generalize hc1 : k * o - T * x = q1 at c1
  generalize hc2 : y * T - l * k = q2 at c2
  have i1 : ep * K = p * q1 + r * q2 := by
    have : M * (ep * K) = M * (p * q1 + r * q2) := by
      have a : M * (ep * K) = (p * o - r * l) * K := by rw [det]; rw [← Int.mul_assoc, Int.mul_comm M ep]
      have b1 : M * (p * q1 + r * q2) = p * (M * q1) + r * (M * q2) := by
        rw [Int.mul_add, ← Int.mul_assoc, Int.mul_comm M p, Int.mul_assoc, ← Int.mul_assoc M r, Int.mul_comm M r, Int.mul_assoc r]
      rw [a, b1, ← c1, ← c2, Int.sub_mul, Int.mul_sub, Int.mul_sub]
      have d1 : p * (K * o) = p * o * K := by rw [Int.mul_comm K o, Int.mul_assoc]
      have d2 : p * (T * r) = r * (p * T) := by rw [← Int.mul_assoc, Int.mul_comm (p * T) r]
      have d3 : r * (l * K) = r * l * K := by rw [Int.mul_assoc]
      omega
    exact Int.eq_of_mul_eq_mul_left (Int.ne_of_gt hMpos) this
  have i2 : ep * T = l * q1 + o * q2 := by
    have : M * (ep * T) = M * (l * q1 + o * q2) := by
      have a : M * (ep * T) = (p * o - r * l) * T := by rw [det]; rw [← Int.mul_assoc, Int.mul_comm M ep]
      have b1 : M * (l * q1 + o * q2) = l * (M * q1) + o * (M * q2) := by
        rw [Int.mul_add, ← Int.mul_assoc, Int.mul_comm M l, Int.mul_assoc, ← Int.mul_assoc M o, Int.mul_comm M o, Int.mul_assoc o]
      rw [a, b1, ← c1, ← c2, Int.sub_mul, Int.mul_sub, Int.mul_sub]
      have d1 : l * (K * o) = o * (l * K) := by rw [← Int.mul_assoc, Int.mul_comm (l * K) o]
      have d2 : l * (T * r) = r * l * T := by rw [Int.mul_comm T r, ← Int.mul_assoc, Int.mul_comm l r]
      have d3 : o * (p * T) = p * o * T := by rw [← Int.mul_assoc, Int.mul_comm o p]
      omega
    exact Int.eq_of_mul_eq_mul_left (Int.ne_of_gt hMpos) this
  have ep2 : ep * ep = 1 := by rcases e1 with rfl | rfl <;> rfl
  have sq : ∀ z : Int, ep * (ep * z) = z := fun z => by rw [← Int.mul_assoc, ep2, Int.one_mul]
  have hT' : T = (ep * l) * q1 + (ep * o) * q2 := by
    have := sq T
    rw [i2, Int.mul_add, ← Int.mul_assoc, ← Int.mul_assoc] at this
    exact this.symm
  have hKe1 : -most ≤ ep * K := by rcases e1 with rfl | rfl <;> omega
  have hKe2 : ep * K ≤ most := by rcases e1 with rfl | rfl <;> omega
  have ppos : 0 < p := by omega
  have q0 : q1 = 0 := by
    rcases Int.lt_trichotomy q1 0 with hq | hq | hq
    · exfalso
      have a1 : p * q1 ≤ p * (-1) := Int.mul_le_mul_of_nonneg_left (by omega) (Int.le_of_lt ppos)
      have a2 : 0 < r * q2 := by omega
      have a3 : 1 ≤ q2 := by
        rcases Int.lt_or_le 0 q2 with h | h
        · exact h
        · have := Int.mul_nonneg r0 (show 0 ≤ -q2 by omega)
          rw [Int.mul_neg] at this
          omega
      have a4 : 0 ≤ (ep * l) * q1 := Int.mul_nonneg_of_nonpos_of_nonpos ls (Int.le_of_lt hq)
      have a5 : (ep * o) * 1 ≤ (ep * o) * q2 := Int.mul_le_mul_of_nonneg_left a3 (Int.le_of_lt os)
      have a6 : ep * o ≤ Tb := by omega
      have a7 : K * o = (ep * K) * (ep * o) := by
        rw [Int.mul_comm ep K, Int.mul_assoc, sq]
      have a8 : (-most) * (ep * o) ≤ (ep * K) * (ep * o) := Int.mul_le_mul_of_nonneg_right hKe1 (Int.le_of_lt os)
      have a9 : most * (ep * o) ≤ most * Tb := Int.mul_le_mul_of_nonneg_left a6 hmost
      have b1 : T * r ≤ Tb * most := Int.mul_le_mul hT h1 r0 (by omega)
      have b2 : Tb * most = most * Tb := Int.mul_comm ..
      have b3 : M * q1 ≤ M * (-1) := Int.mul_le_mul_of_nonneg_left (by omega) (Int.le_of_lt hMpos)
      rw [Int.neg_mul] at a8
      omega
    · exact hq
    · exfalso
      have a1 : p * 1 ≤ p * q1 := Int.mul_le_mul_of_nonneg_left (by omega) (Int.le_of_lt ppos)
      have a2 : r * q2 < 0 := by omega
      have a3 : q2 ≤ -1 := by
        rcases Int.lt_or_le q2 0 with h | h
        · omega
        · have := Int.mul_nonneg r0 h
          omega
      have a4 : (ep * l) * q1 ≤ 0 := Int.mul_nonpos_of_nonpos_of_nonneg ls (Int.le_of_lt hq)
      have a5 : (ep * o) * q2 ≤ (ep * o) * (-1) := Int.mul_le_mul_of_nonneg_left a3 (Int.le_of_lt os)
      omega
  subst q0
  refine ⟨ep * q2, ?_, ?_⟩
  · have : K = ep * (ep * K) := (sq K).symm
    rw [this, i1, Int.mul_zero, Int.zero_add, Int.mul_comm r q2, Int.mul_assoc]
  · have : T = ep * (ep * T) := (sq T).symm
    rw [this, i2, Int.mul_zero, Int.zero_add, Int.mul_comm o q2, Int.mul_assoc]
end Mine

set_option Elab.async false
set_option linter.all false
namespace Mine
/-- Euclid comes to an end -/
theorem eu_add (e : Eu) (m : Nat) : ∀ n, eu e (n + m) = eu (eu e m) n
  | 0 => by rw [Nat.zero_add]; rfl
  | n + 1 => by rw [show n + 1 + m = (n + m) + 1 by omega]; simp only [eu]; rw [eu_add e m n]
theorem eu_one (e : Eu) (n : Nat) : eu e (n + 1) = eu e.step n := eu_add e 1 n
theorem eu_ends {most : Int} (h0 : 0 ≤ most) : ∀ (k : Nat) (e : Eu), e.r.natAbs ≤ k → ∃ N, (∀ n, n < N → most < (eu e n).r.natAbs) ∧ ((eu e N).r.natAbs : Int) ≤ most
  | 0, e, hk => ⟨0, fun n hn => absurd hn (Nat.not_lt_zero _), by show (e.r.natAbs : Int) ≤ most; omega⟩
  | k + 1, e, hk => by
    by_cases h : (e.r.natAbs : Int) ≤ most
    · exact ⟨0, fun n hn => absurd hn (Nat.not_lt_zero _), h⟩
    · have hr : e.r ≠ 0 := by omega
      have hlt : e.step.r.natAbs < e.r.natAbs := fmod_abs hr
      obtain ⟨N, h1, h2⟩ := eu_ends h0 k e.step (by omega)
      refine ⟨N + 1, fun n hn => ?_, ?_⟩
      · cases n with
        | zero => show most < (e.r.natAbs : Int); omega
        | succ n => rw [eu_one]; exact h1 n (by omega)
      · rw [eu_one]; exact h2
theorem eu_gcd (e : Eu) (hr : e.r ≠ 0) : Int.gcd e.step.b e.step.r = Int.gcd e.b e.r := by
  simp only [Eu.step]
  have h := Int.fmod_add_mul_fdiv e.b e.r
  rw [Int.gcd_comm e.b e.r]
  conv => rhs; rw [← h]
  rw [Int.gcd_add_mul_left_right]
theorem eu_gcds (e : Eu) : ∀ N, (∀ n, n < N → (eu e n).r ≠ 0) → Int.gcd (eu e N).b (eu e N).r = Int.gcd e.b e.r
  | 0, _ => rfl
  | N + 1, h => by
    rw [show eu e (N + 1) = (eu e N).step from rfl, eu_gcd _ (h N (Nat.lt_succ_self _)), eu_gcds e N fun n hn => h n (by omega)]
theorem eu_rows {M near sg : Int} (hs : sg = 1 ∨ sg = -1) (h0 : 0 ≤ near) (h1 : near < M) : ∀ N, (∀ n, n < N → (eu ⟨sg * M, sg * near, sg, 0⟩ n).r ≠ 0) → ∃ ep, Rows M near sg (eu ⟨sg * M, sg * near, sg, 0⟩ N) ep
  | 0, _ => ⟨1, Rows.start hs h0 h1⟩
  | N + 1, h => by
    obtain ⟨ep, r⟩ := eu_rows hs h0 h1 N fun n hn => h n (by omega)
    exact ⟨-ep, r.next hs (h N (Nat.lt_succ_self _))⟩
/-- the last row is the hidden pair times the liars, up to a sign -/
theorem recon_end {M near sg most L u l Tb ep : Int} {e : Eu} (h : Rows M near sg e ep) (h1 : sg * e.r ≤ most) (h2 : most < sg * e.b) (hK1 : -most ≤ L * u) (hK2 : L * u ≤ most) (hL0 : 0 < L) (hl0 : 0 < l) (hT : L * l ≤ Tb) (hM : 2 * (most * Tb) < M) (hlat : M ∣ L * u - L * l * near)
    (hco : ∃ x y : Int, u * x + l * y = 1) (hLm : ∀ m : Int, M ∣ m * (u - l * near) → L ∣ m) :
    ∃ δ : Int, (δ = 1 ∨ δ = -1) ∧ sg * e.r = δ * (L * u) ∧ sg * e.o = δ * (L * l) := by
  have hT0 : 0 < L * l := Int.mul_pos hL0 hl0
  obtain ⟨b, e1, e2⟩ := recon h h1 h2 hK1 hK2 hT0 hT hM hlat
  obtain ⟨_, _, _, _, _, lr, _, _⟩ := h
  generalize hR : sg * e.r = r at *
  generalize ho : sg * e.o = o at *
  obtain ⟨x, y, hxy⟩ := hco
  have hb0 : b ≠ 0 := fun z => by rw [z, Int.zero_mul] at e2; omega
  have hbL : L = b * (r * x + o * y) := by
    have : L = L * u * x + L * l * y := by rw [Int.mul_assoc, Int.mul_assoc, ← Int.mul_add, hxy, Int.mul_one]
    rw [this, e1, e2, Int.mul_add, Int.mul_assoc, Int.mul_assoc]
  generalize hm : r * x + o * y = m at hbL
  have hr : r = m * u := by
    have : b * r = b * (m * u) := by rw [← e1, hbL, Int.mul_assoc]
    exact Int.eq_of_mul_eq_mul_left hb0 this
  have hoo : o = m * l := by
    have : b * o = b * (m * l) := by rw [← e2, hbL, Int.mul_assoc]
    exact Int.eq_of_mul_eq_mul_left hb0 this
  have hdiv : M ∣ m * (u - l * near) := by
    rw [Int.mul_sub, ← hr, ← Int.mul_assoc, ← hoo]; exact lr
  obtain ⟨k, hk⟩ := hLm m hdiv
  have hbk : b * k = 1 := by
    have : L * (b * k) = L * 1 := by
      rw [Int.mul_one]
      have a : L * (b * k) = b * (L * k) := by rw [← Int.mul_assoc, Int.mul_comm L b, Int.mul_assoc]
      rw [a, ← hk, ← hbL]
    exact Int.eq_of_mul_eq_mul_left (Int.ne_of_gt hL0) this
  have hbn : b.natAbs * k.natAbs = 1 := by rw [← Int.natAbs_mul, hbk]; rfl
  have hb2 : b.natAbs = 1 := Nat.dvd_one.mp ⟨k.natAbs, hbn.symm⟩
  have hb1 : b = 1 ∨ b = -1 := by omega
  refine ⟨b, hb1, ?_, ?_⟩
  · rw [e1, ← Int.mul_assoc]; rcases hb1 with rfl | rfl <;> omega
  · rw [e2, ← Int.mul_assoc]; rcases hb1 with rfl | rfl <;> omega
end Mine

set_option Elab.async false
set_option linter.all false
set_option maxRecDepth 100000
namespace Mine
/-! the finite facts on the primes -/
noncomputable def P11 : List Nat := [101, 103, 107, 109, 113, 127, 131, 137, 139, 149, 151]
noncomputable def szs (c : Nat) : List Nat := (List.range 6).map fun k => P11.getD ((c + 5 * k) % 11) 0
noncomputable def dig3 (m : Nat) : List Nat := (List.range 6).map fun k => m / 3 ^ k % 3
noncomputable def ins (x : Nat) : List Nat → List Nat
  | [] => [x]
  | y :: l => if x ≤ y then x :: y :: l else y :: ins x l
noncomputable def isort : List Nat → List Nat
  | [] => []
  | x :: l => ins x (isort l)
noncomputable def prodN : List Nat → Nat
  | [] => 1
  | x :: l => x * prodN l
noncomputable def pick (p : Nat → Bool) (ss ks : List Nat) : List Nat := ((ss.zip ks).filter fun q => p q.2).map (·.1)
noncomputable def topOf (rs : List Nat) : Nat := prodN ((isort rs).drop (rs.length - rs.length / 2 + 1))
noncomputable def okMask (ks : List Nat) : Bool := decide ((ks.filter (· == 0)).length + 2 * (ks.filter (· == 2)).length ≤ 4)
noncomputable def factOf (c m : Nat) : Bool :=
  let ks := dig3 m
  let rs := pick (· != 0) (szs c) ks
  !okMask ks || (decide (prodN (pick (· == 2) (szs c) ks) ≤ topOf rs) && decide (5340 * (topOf rs * topOf rs) < prodN rs) && decide (prodN rs < 2 ^ 50))
/-! one start a lemma, so that no single step is big -/
theorem facts_a : ((List.range 729).all fun m => factOf 0 m) = true := by decide +kernel
theorem facts_b : ((List.range 729).all fun m => factOf 1 m) = true := by decide +kernel
theorem facts_c : ((List.range 729).all fun m => factOf 2 m) = true := by decide +kernel
theorem facts_d : ((List.range 729).all fun m => factOf 3 m) = true := by decide +kernel
theorem facts_e : ((List.range 729).all fun m => factOf 4 m) = true := by decide +kernel
theorem facts_f : ((List.range 729).all fun m => factOf 5 m) = true := by decide +kernel
theorem facts_g : ((List.range 729).all fun m => factOf 6 m) = true := by decide +kernel
theorem facts_h : ((List.range 729).all fun m => factOf 7 m) = true := by decide +kernel
theorem facts_i : ((List.range 729).all fun m => factOf 8 m) = true := by decide +kernel
theorem facts_j : ((List.range 729).all fun m => factOf 9 m) = true := by decide +kernel
theorem facts_k : ((List.range 729).all fun m => factOf 10 m) = true := by decide +kernel
theorem facts_ok : ((List.range 11).all fun c => (List.range 729).all fun m => factOf c m) = true := by
  rw [show List.range 11 = [0, 1, 2, 3, 4, 5, 6, 7, 8, 9, 10] from rfl]
  rw [List.all_cons, facts_a, List.all_cons, facts_b, List.all_cons, facts_c, List.all_cons, facts_d, List.all_cons, facts_e, List.all_cons, facts_f, List.all_cons, facts_g, List.all_cons, facts_h, List.all_cons, facts_i, List.all_cons, facts_j, List.all_cons, facts_k]
  rfl
end Mine

set_option Elab.async false
set_option linter.all false
set_option maxRecDepth 100000
namespace Mine
theorem bezout (a b : Nat) : ∃ x y : Int, (a : Int) * x + (b : Int) * y = (Nat.gcd a b : Nat) := by
  induction a, b using Nat.gcd.induction with
  | H0 n => exact ⟨0, 1, by simp⟩
  | H1 m n hm ih =>
    obtain ⟨x, y, h⟩ := ih
    have e : Nat.gcd m n = Nat.gcd (n % m) m := Nat.gcd_rec m n
    refine ⟨y - (n / m : Nat) * x, x, ?_⟩
    rw [e, ← h]
    have hd : (n : Int) = ((n % m : Nat) : Int) + (m : Int) * ((n / m : Nat) : Int) := by exact_mod_cast (Nat.mod_add_div n m).symm
    rw [Int.mul_sub]
    conv => lhs; rw [hd]
    rw [Int.add_mul, ← Int.mul_assoc]
    omega
/-- a multiple of a, put to t, that n divides -/
theorem reach {n : Nat} (hn : 0 < n) {a : Int} (hc : Nat.gcd n a.natAbs = 1) (t : Int) : ∃ k : Nat, k < n ∧ (n : Int) ∣ t + k * a := by
  obtain ⟨x, y, h⟩ := bezout n a.natAbs
  rw [hc] at h
  have ha : ∃ z : Int, (a.natAbs : Int) = z * a ∧ (z = 1 ∨ z = -1) := by
    rcases Int.natAbs_eq a with h | h
    · exact ⟨1, by omega, .inl rfl⟩
    · exact ⟨-1, by omega, .inr rfl⟩
  obtain ⟨z, hz, _⟩ := ha
  let w : Int := -(t * y * z)
  refine ⟨(w % n).toNat, ?_, ?_⟩
  · have h1 := Int.emod_nonneg w (show (n : Int) ≠ 0 from Int.ne_of_gt (Int.ofNat_lt.mpr hn))
    have h2 := Int.emod_lt_of_pos w (show (0 : Int) < n from Int.ofNat_lt.mpr hn)
    exact (Int.toNat_lt h1).mpr h2
  · have h1 := Int.emod_nonneg w (show (n : Int) ≠ 0 from Int.ne_of_gt (Int.ofNat_lt.mpr hn))
    have e0 : ((w % n).toNat : Int) = w % n := Int.toNat_of_nonneg h1
    rw [e0]
    have hd := Int.emod_add_mul_ediv w n
    have e1 : w % n = w - n * (w / n) := Int.emod_def w n
    refine ⟨t * x - (w / n) * a, ?_⟩
    rw [e1, Int.sub_mul]
    have hw : w * a = -(t * (y * (z * a))) := by
      simp only [w]
      rw [Int.neg_mul, Int.mul_assoc, Int.mul_assoc]
    rw [hw, ← hz]
    have h5 : t * ((n : Int) * x + (a.natAbs : Int) * y) = t := by rw [h]; simp
    rw [Int.mul_add] at h5
    have h6 : t * ((a.natAbs : Int) * y) = t * (y * (a.natAbs : Int)) := by rw [Int.mul_comm y]
    have h7 : t * ((n : Int) * x) = n * (t * x) := by rw [← Int.mul_assoc, Int.mul_comm t, Int.mul_assoc]
    rw [Int.mul_sub, Int.mul_assoc (n : Int) (w / n) a]
    omega
theorem prime_small : (P11.all fun p => (List.range p).all fun r => r == 0 || Nat.gcd p r == 1) = true := by decide +kernel
theorem prime_cop {p : Nat} (hp : p ∈ P11) {z : Int} (hz : ¬ (p : Int) ∣ z) : Nat.gcd p z.natAbs = 1 := by
  have h := List.all_eq_true.mp (List.all_eq_true.mp prime_small p hp)
  have hp0 : 0 < p := by
    have : (P11.all fun p => decide (0 < p)) = true := by decide
    exact of_decide_eq_true (List.all_eq_true.mp this p hp)
  have h1 := h (z.natAbs % p) (List.mem_range.mpr (Nat.mod_lt _ hp0))
  rw [Bool.or_eq_true] at h1
  have h2 : Nat.gcd p z.natAbs = Nat.gcd p (z.natAbs % p) := by
    rw [Nat.gcd_rec p z.natAbs, Nat.gcd_comm]
  rw [h2]
  rcases h1 with h1 | h1
  · exfalso
    have h3 : z.natAbs % p = 0 := by simpa using h1
    exact hz (Int.ofNat_dvd_left.mpr (Nat.dvd_of_mod_eq_zero h3))
  · simpa using h1
/-- a prime that divides a product and not the second part -/
theorem prime_left {p : Nat} (hp : p ∈ P11) {m z : Int} (hz : ¬ (p : Int) ∣ z) (h : (p : Int) ∣ m * z) : (p : Int) ∣ m := by
  have hc : Nat.Coprime p z.natAbs := prime_cop hp hz
  rw [Int.ofNat_dvd_left] at h ⊢
  rw [Int.natAbs_mul] at h
  exact hc.dvd_of_dvd_mul_right h
theorem prime_pair : (P11.all fun p => P11.all fun q => p == q || Nat.gcd p q == 1) = true := by decide +kernel
theorem prod_cop {p : Nat} (hp : p ∈ P11) : ∀ {l : List Nat}, (∀ q ∈ l, q ∈ P11) → p ∉ l → Nat.Coprime p (prodN l)
  | [], _, _ => by simp [prodN]
  | q :: l, h, hn => by
    have h1 := List.all_eq_true.mp (List.all_eq_true.mp prime_pair p hp) q (h q (.head _))
    have hne : p ≠ q := fun e => hn (e ▸ .head _)
    have h2 : Nat.gcd p q = 1 := by simpa [hne] using h1
    exact Nat.Coprime.mul_right h2 (prod_cop hp (fun x hx => h x (.tail _ hx)) fun hx => hn (.tail _ hx))
theorem prod_dvd : ∀ {l : List Nat} {m : Int}, (∀ q ∈ l, q ∈ P11) → l.Nodup → (∀ q ∈ l, (q : Int) ∣ m) → ((prodN l : Nat) : Int) ∣ m
  | [], m, _, _, _ => by simp [prodN]
  | q :: l, m, h, hn, hd => by
    have h1 := prod_dvd (fun x hx => h x (.tail _ hx)) (List.nodup_cons.mp hn).2 fun x hx => hd x (.tail _ hx)
    have hc := prod_cop (h q (.head _)) (fun x hx => h x (.tail _ hx)) (List.nodup_cons.mp hn).1
    rw [Int.ofNat_dvd_left] at h1 ⊢
    have h2 := Int.ofNat_dvd_left.mp (hd q (.head _))
    exact Nat.Coprime.mul_dvd_of_dvd_of_dvd hc h2 h1
theorem dvd_prod : ∀ {l : List Nat} {q : Nat}, q ∈ l → q ∣ prodN l
  | x :: l, q, h => by
    rcases List.mem_cons.mp h with rfl | h
    · exact Nat.dvd_mul_right _ _
    · exact Nat.dvd_trans (dvd_prod h) (Nat.dvd_mul_left _ _)
end Mine

set_option Elab.async false
set_option linter.all false
set_option maxRecDepth 100000
namespace Mine
theorem bezoutZ (a b : Int) : ∃ x y : Int, a * x + b * y = (Int.gcd a b : Nat) := by
  obtain ⟨x, y, h⟩ := bezout a.natAbs b.natAbs
  have f : ∀ c : Int, ∃ z : Int, (c.natAbs : Int) = c * z := fun c => by
    rcases Int.natAbs_eq c with h | h
    · exact ⟨1, by omega⟩
    · exact ⟨-1, by omega⟩
  obtain ⟨z, hz⟩ := f a
  obtain ⟨w, hw⟩ := f b
  refine ⟨z * x, w * y, ?_⟩
  rw [← Int.mul_assoc, ← Int.mul_assoc, ← hz, ← hw]
  exact h
/-- the greatest common divisor taken out -/
theorem shared_ok {up lo : Int} (h : 0 < lo) : let g : Int := (Int.gcd up lo : Nat)
    0 < g ∧ up = up / g * g ∧ lo = lo / g * g ∧ 0 < lo / g ∧ ∃ x y : Int, up / g * x + lo / g * y = 1 := by
  intro g
  have g0 : 0 < g := by
    have : 0 < Int.gcd up lo := Int.gcd_pos_of_ne_zero_right _ (Int.ne_of_gt h)
    show (0 : Int) < (Int.gcd up lo : Nat); omega
  have d1 : g ∣ up := Int.gcd_dvd_left ..
  have d2 : g ∣ lo := Int.gcd_dvd_right ..
  have e1 := Int.ediv_mul_cancel d1
  have e2 := Int.ediv_mul_cancel d2
  refine ⟨g0, e1.symm, e2.symm, ?_, ?_⟩
  · exact Int.ediv_pos_of_pos_of_dvd h (Int.le_of_lt g0) d2
  · obtain ⟨x, y, hxy⟩ := bezoutZ up lo
    refine ⟨x, y, ?_⟩
    have : g * (up / g * x + lo / g * y) = g * 1 := by
      rw [Int.mul_add, ← Int.mul_assoc, ← Int.mul_assoc, Int.mul_comm g, Int.mul_comm g, e1, e2, Int.mul_one]
      exact hxy
    exact Int.eq_of_mul_eq_mul_left (Int.ne_of_gt g0) this
theorem shared_max {up lo d : Int} (h : 0 < lo) (hd0 : 0 < d) (h1 : d ∣ up) (h2 : d ∣ lo) : d ≤ (Int.gcd up lo : Nat) := by
  have hg : 0 < Int.gcd up lo := Int.gcd_pos_of_ne_zero_right _ (Int.ne_of_gt h)
  have : d ∣ ((Int.gcd up lo : Nat) : Int) := Int.dvd_coe_gcd h1 h2
  exact Int.le_of_dvd (by omega) this
end Mine

set_option Elab.async false
set_option linter.all false
set_option maxRecDepth 100000
namespace Mine
/-- how many turns the port's loop takes, and the residue it comes to -/
theorem first_nat (p : Nat → Bool) {k : Nat} (h : p k = true) : ∃ m, m ≤ k ∧ p m = true ∧ ∀ i, i < m → p i = false := by
  induction k using Nat.strongRecOn with
  | _ k ih =>
    by_cases hx : ∃ j, j < k ∧ p j = true
    · obtain ⟨j, hj, hp⟩ := hx
      obtain ⟨m, h1, h2, h3⟩ := ih j hj hp
      exact ⟨m, by omega, h2, h3⟩
    · refine ⟨k, Nat.le_refl _, h, fun i hi => ?_⟩
      cases e : p i with
      | false => rfl
      | true => exact absurd ⟨i, hi, e⟩ hx
/-- the loop `while port % lower: port += size` ends, and what it ends with is the residue -/
theorem residue {p : Nat} (hp : p ∈ P11) {u l : Int} (hl0 : 0 < l) (hl : l < 101) : ∃ k : Nat, (∀ i : Nat, i < k → (u + i * p) % l ≠ 0) ∧ (u + k * p) % l = 0 ∧ (k : Int) < l ∧
    (p : Int) ∣ u - l * ((u + k * p) / l % p) := by
  have hp1 : 101 ≤ p := by
    have : (P11.all fun q => decide (101 ≤ q)) = true := by decide
    exact of_decide_eq_true (List.all_eq_true.mp this p hp)
  have hnd : ¬ (p : Int) ∣ l := fun h => by
    exact absurd (Int.lt_of_le_of_lt (Int.le_of_dvd hl0 h) hl) (Int.not_lt_of_ge (Int.ofNat_le.mpr hp1))
  have hc : Nat.gcd l.toNat (p : Int).natAbs = 1 := by
    have := prime_cop hp hnd
    rw [Nat.gcd_comm]
    simpa [show l.natAbs = l.toNat by rw [← Int.toNat_natCast l.natAbs, Int.natAbs_of_nonneg (Int.le_of_lt hl0)]] using this
  obtain ⟨k0, hk0, hd0⟩ := reach (n := l.toNat) (Int.lt_toNat.mpr hl0) (a := (p : Int)) hc u
  rw [Int.toNat_of_nonneg (Int.le_of_lt hl0)] at hd0
  obtain ⟨k, h1, h2, h3⟩ := first_nat (fun k => decide ((u + k * p) % l = 0)) (k := k0) (by simpa using Int.emod_eq_zero_of_dvd hd0)
  have h2' : (u + k * p) % l = 0 := by simpa using h2
  refine ⟨k, fun i hi => by simpa using h3 i hi, h2', by omega, ?_⟩
  have hd : l * ((u + k * p) / l) = u + k * p := Int.mul_ediv_cancel' (Int.dvd_of_emod_eq_zero h2')
  have hm := Int.emod_add_mul_ediv ((u + k * p) / l) p
  generalize (u + k * p) / l = q at hd hm
  refine ⟨l * (q / p) - k, ?_⟩
  have e1 : q % p = q - p * (q / p) := Int.emod_def q p
  rw [e1, Int.mul_sub, hd, Int.mul_sub]
  have a1 : l * ((p : Int) * (q / p)) = p * (l * (q / p)) := by rw [← Int.mul_assoc, Int.mul_comm l, Int.mul_assoc]
  have a2 : (p : Int) * k = k * p := Int.mul_comm ..
  omega
end Mine

set_option Elab.async false
set_option linter.all false
set_option maxRecDepth 100000
namespace Mine
theorem crt_step {p : Nat} (hp : p ∈ P11) {W : Nat} (hc : Nat.Coprime p W) (near port : Int) : ∃ k : Nat, (∀ i : Nat, i < k → (near + i * W - port) % p ≠ 0) ∧ (near + k * W - port) % p = 0 ∧ k < p := by
  have hp0 : 0 < p := by
    have : (P11.all fun q => decide (0 < q)) = true := by decide
    exact of_decide_eq_true (List.all_eq_true.mp this p hp)
  obtain ⟨k0, hk0, hd0⟩ := reach hp0 (a := (W : Int)) (by simpa using hc) (near - port)
  obtain ⟨k, h1, h2, h3⟩ := first_nat (fun k => decide ((near + k * W - port) % p = 0)) (k := k0) (by
    have : near + k0 * W - port = near - port + k0 * W := by omega
    rw [this]
    simpa using Int.emod_eq_zero_of_dvd hd0)
  exact ⟨k, fun i hi => by simpa using h3 i hi, by simpa using h2, by omega⟩
/-- the state of the remainders' loop -/
structure Crt (W : Nat) (near : Int) (done : List (Nat × Int)) : Prop where
  w : W = prodN (done.map (·.1))
  lo : 0 ≤ near
  hi : near < W
  all : ∀ q ∈ done, (q.1 : Int) ∣ near - q.2
theorem prodN_append : ∀ (l r : List Nat), prodN (l ++ r) = prodN l * prodN r
  | [], r => by simp [prodN]
  | x :: l, r => by simp [prodN, prodN_append l r, Nat.mul_assoc]
theorem Crt.next {W : Nat} {near port : Int} {done : List (Nat × Int)} {p k : Nat} (h : Crt W near done) (hk : k < p) (hd : (near + k * W - port) % p = 0) : Crt (W * p) (near + k * W) (done ++ [(p, port)]) := by
  have hW : (0 : Int) < W := by have := h.lo; have := h.hi; omega
  refine ⟨?_, ?_, ?_, fun q hq => ?_⟩
  · rw [List.map_append, prodN_append, ← h.w]; simp [prodN]
  · have := Int.mul_nonneg (Int.natCast_nonneg k) (Int.le_of_lt hW)
    have := h.lo
    omega
  · have h1 : ((k : Int) + 1) * W ≤ p * W := Int.mul_le_mul_of_nonneg_right (by omega) (Int.le_of_lt hW)
    rw [Int.add_mul, Int.one_mul] at h1
    have h2 : ((W * p : Nat) : Int) = p * W := by rw [Int.natCast_mul, Int.mul_comm]
    have := h.hi
    omega
  · rcases List.mem_append.mp hq with hq | hq
    · have h1 := h.all q hq
      have h2 : (q.1 : Int) ∣ (W : Int) := by
        have := dvd_prod (List.mem_map_of_mem (f := (·.1)) hq)
        rw [← h.w] at this
        exact Int.natCast_dvd_natCast.mpr this
      have e : near + k * W - q.2 = (near - q.2) + k * W := by omega
      rw [e]
      exact Int.dvd_add h1 (Int.dvd_trans h2 (Int.dvd_mul_left _ _))
    · simp only [List.mem_cons, List.not_mem_nil, or_false] at hq
      subst hq
      exact Int.dvd_of_emod_eq_zero hd
end Mine

set_option Elab.async false
set_option linter.all false
set_option maxRecDepth 100000
namespace Mine
theorem Crt.part {W : Nat} {near u l : Int} {done : List (Nat × Int)} (h : Crt W near done) {q : Nat × Int} (hq : q ∈ done) : (q.1 : Int) ∣ u - l * near ↔ (q.1 : Int) ∣ u - l * q.2 := by
  have h1 : (q.1 : Int) ∣ l * (near - q.2) := Int.dvd_trans (h.all q hq) (Int.dvd_mul_left _ _)
  rw [Int.mul_sub] at h1
  have e1 : u - l * q.2 = (u - l * near) + (l * near - l * q.2) := by omega
  have e2 : u - l * near = (u - l * q.2) - (l * near - l * q.2) := by omega
  exact ⟨fun z => e1 ▸ Int.dvd_add z h1, fun z => e2 ▸ Int.dvd_sub z h1⟩
theorem lat {W : Nat} {near u l : Int} {done : List (Nat × Int)} (h : Crt W near done) (hP : ∀ q ∈ done, q.1 ∈ P11) (hn : (done.map (·.1)).Nodup) {lies : List Nat} (hln : lies.Nodup) (hl : ∀ p ∈ lies, ∃ q ∈ done, q.1 = p ∧ ¬ (p : Int) ∣ u - l * q.2) (ht : ∀ q ∈ done, q.1 ∉ lies → (q.1 : Int) ∣ u - l * q.2) :
    (W : Int) ∣ prodN lies * u - prodN lies * l * near ∧ ∀ m : Int, (W : Int) ∣ m * (u - l * near) → (prodN lies : Int) ∣ m := by
  have hPm : ∀ p ∈ done.map (·.1), p ∈ P11 := fun p hp => by
    obtain ⟨q, hq, rfl⟩ := List.mem_map.mp hp
    exact hP q hq
  constructor
  · have e : (prodN lies : Int) * u - prodN lies * l * near = prodN lies * (u - l * near) := by rw [Int.mul_sub, Int.mul_assoc]
    rw [e, h.w]
    refine prod_dvd hPm hn fun p hp => ?_
    obtain ⟨q, hq, rfl⟩ := List.mem_map.mp hp
    by_cases hm : q.1 ∈ lies
    · exact Int.dvd_trans (Int.natCast_dvd_natCast.mpr (dvd_prod hm)) (Int.dvd_mul_right _ _)
    · exact Int.dvd_trans ((h.part hq).mpr (ht q hq hm)) (Int.dvd_mul_left _ _)
  · intro m hm
    refine prod_dvd (fun p hp => ?_) hln fun p hp => ?_
    · obtain ⟨q, hq, rfl, _⟩ := hl p hp
      exact hP q hq
    · obtain ⟨q, hq, rfl, hnd⟩ := hl p hp
      have h1 : (q.1 : Int) ∣ (W : Int) := by
        rw [h.w]
        exact Int.natCast_dvd_natCast.mpr (dvd_prod (List.mem_map_of_mem (f := (·.1)) hq))
      exact prime_left (hP q hq) (fun z => hnd ((h.part hq).mp z)) (Int.dvd_trans h1 hm)
end Mine

set_option Elab.async false
set_option linter.all false
set_option maxRecDepth 100000
namespace Mine
theorem law_numbers {sg : Int} (hs : sg = 1 ∨ sg = -1) {W B : Nat} {near u l : Int} {done : List (Nat × Int)} (h : Crt W near done) (hP : ∀ q ∈ done, q.1 ∈ P11) (hn : (done.map (·.1)).Nodup) {lies : List Nat} (hln : lies.Nodup) (hl : ∀ p ∈ lies, ∃ q ∈ done, q.1 = p ∧ ¬ (p : Int) ∣ u - l * q.2) (ht : ∀ q ∈ done, q.1 ∉ lies → (q.1 : Int) ∣ u - l * q.2)
    (hLB : prodN lies ≤ B) (hL0 : 0 < prodN lies) (hBW : 5340 * (B * B) < W) (hu1 : -89 ≤ u) (hu2 : u ≤ 89) (hl0 : 0 < l) (hl30 : l ≤ 30) (hco : ∃ x y : Int, u * x + l * y = 1) :
    ∃ N δ, (∀ n, n < N → (89 * B : Int) < (eu ⟨sg * W, sg * near, sg, 0⟩ n).r.natAbs) ∧ ((eu ⟨sg * W, sg * near, sg, 0⟩ N).r.natAbs : Int) ≤ 89 * B ∧ (δ = 1 ∨ δ = -1) ∧
      (eu ⟨sg * W, sg * near, sg, 0⟩ N).r = δ * (prodN lies * u) ∧ (eu ⟨sg * W, sg * near, sg, 0⟩ N).o = δ * (prodN lies * l) := by
  obtain ⟨N, h1, h2⟩ := eu_ends (most := 89 * B) (by omega) _ ⟨sg * W, sg * near, sg, 0⟩ (Nat.le_refl _)
  obtain ⟨ep, R⟩ := eu_rows hs h.lo h.hi N fun n hn z => by
    have := h1 n hn
    rw [z] at this
    simp at this
    omega
  obtain ⟨hlat, hLm⟩ := lat h hP hn hln hl ht
  generalize hLL : prodN lies = L at *
  have hB0 : 0 < B := by omega
  have habs : ∀ x : Int, 0 ≤ sg * x → sg * x = x.natAbs := fun x hx => by rcases hs with rfl | rfl <;> omega
  have hBB : B ≤ B * B := Nat.le_mul_of_pos_left _ hB0
  have hmost : 2 * ((89 * (B : Int)) * (30 * B)) < W := by
    have : ((5340 * (B * B) : Nat) : Int) < W := by exact_mod_cast hBW
    have e : (2 : Int) * (89 * B * (30 * B)) = ((5340 * (B * B) : Nat) : Int) := by
      push_cast
      rw [show (89 * (B : Int)) * (30 * B) = 89 * 30 * (B * B) by rw [Int.mul_assoc, Int.mul_assoc, ← Int.mul_assoc (B : Int) 30, Int.mul_comm (B : Int) 30, Int.mul_assoc]]
      omega
    omega
  have hprev : (89 * B : Int) < sg * (eu ⟨sg * W, sg * near, sg, 0⟩ N).b := by
    cases N with
    | zero =>
      show (89 * B : Int) < sg * (sg * W)
      rw [sg_sq hs]
      have : ((5340 * (B * B) : Nat) : Int) < W := by exact_mod_cast hBW
      omega
    | succ n =>
      obtain ⟨ep', R'⟩ := eu_rows hs h.lo h.hi n fun k hk z => by
        have := h1 k (by omega)
        rw [z] at this
        simp at this
        omega
      have := h1 n (Nat.lt_succ_self _)
      show (89 * B : Int) < sg * (eu ⟨sg * W, sg * near, sg, 0⟩ n).r
      rw [habs _ R'.r0]
      exact this
  have hLi : (0 : Int) < (L : Int) := by omega
  have k1 : (L : Int) * u ≤ 89 * B := by
    have : (L : Int) * u ≤ L * 89 := Int.mul_le_mul_of_nonneg_left hu2 (Int.le_of_lt hLi)
    omega
  have k2 : -(89 * B : Int) ≤ (L : Int) * u := by
    have : (L : Int) * (-89) ≤ L * u := Int.mul_le_mul_of_nonneg_left hu1 (Int.le_of_lt hLi)
    omega
  have k3 : (L : Int) * l ≤ 30 * B := by
    have : (L : Int) * l ≤ L * 30 := Int.mul_le_mul_of_nonneg_left hl30 (Int.le_of_lt hLi)
    omega
  obtain ⟨δ, d1, d2, d3⟩ := recon_end R (by rw [habs _ R.r0]; exact h2) hprev k2 k1 hLi hl0 k3 hmost hlat hco hLm
  refine ⟨N, sg * δ, h1, h2, ?_, ?_, ?_⟩
  · rcases hs with rfl | rfl <;> rcases d1 with rfl | rfl <;> decide
  · rw [Int.mul_assoc, ← d2, sg_sq hs]
  · rw [Int.mul_assoc, ← d3, sg_sq hs]
end Mine

set_option Elab.async false
set_option linter.all false
set_option maxRecDepth 100000
namespace Mine
theorem law_gcd {L : Nat} {u l δ R T o0 : Int} (hL : 0 < L) (hδ : δ = 1 ∨ δ = -1) (hR : R = δ * (L * u)) (hT : T = δ * (L * l)) (hco : ∃ x y : Int, u * x + l * y = 1) :
    ∃ N γ, (∀ n, n < N → (0 : Int) < (eu ⟨T, R, o0, 0⟩ n).r.natAbs) ∧ ((eu ⟨T, R, o0, 0⟩ N).r.natAbs : Int) ≤ 0 ∧ (γ = 1 ∨ γ = -1) ∧ (eu ⟨T, R, o0, 0⟩ N).b = γ * L ∧ (eu ⟨T, R, o0, 0⟩ N).r = 0 := by
  obtain ⟨N, h1, h2⟩ := eu_ends (most := 0) (Int.le_refl _) _ ⟨T, R, o0, 0⟩ (Nat.le_refl _)
  have hr0 : (eu ⟨T, R, o0, 0⟩ N).r = 0 := Int.natAbs_eq_zero.mp (Nat.le_zero.mp (Int.ofNat_le.mp h2))
  have hg := eu_gcds ⟨T, R, o0, 0⟩ N fun n hn z => by
    have := h1 n hn
    rw [z] at this
    simp at this
  rw [hr0, Int.gcd_zero_right] at hg
  have hul : Int.gcd u l = 1 := by
    obtain ⟨x, y, h⟩ := hco
    have d1 : ((Int.gcd u l : Nat) : Int) ∣ u := Int.gcd_dvd_left ..
    have d2 : ((Int.gcd u l : Nat) : Int) ∣ l := Int.gcd_dvd_right ..
    have d3 : ((Int.gcd u l : Nat) : Int) ∣ 1 := h ▸ Int.dvd_add (Int.dvd_trans d1 (Int.dvd_mul_right _ _)) (Int.dvd_trans d2 (Int.dvd_mul_right _ _))
    have : Int.gcd u l ∣ 1 := Int.natCast_dvd_natCast.mp (by simpa using d3)
    exact Nat.dvd_one.mp this
  have hTR : Int.gcd T R = L := by
    have e1 : T.natAbs = L * l.natAbs := by rw [hT, Int.natAbs_mul, Int.natAbs_mul]; rcases hδ with rfl | rfl <;> simp
    have e2 : R.natAbs = L * u.natAbs := by rw [hR, Int.natAbs_mul, Int.natAbs_mul]; rcases hδ with rfl | rfl <;> simp
    show Nat.gcd T.natAbs R.natAbs = L
    rw [e1, e2, Nat.gcd_mul_left, Nat.gcd_comm]
    have : Nat.gcd u.natAbs l.natAbs = 1 := hul
    rw [this, Nat.mul_one]
  have hb : (eu ⟨T, R, o0, 0⟩ N).b.natAbs = L := hg.trans hTR
  rcases Int.natAbs_eq (eu ⟨T, R, o0, 0⟩ N).b with h | h
  · exact ⟨N, 1, h1, h2, .inl rfl, h.trans (by rw [hb, Int.one_mul]), hr0⟩
  · exact ⟨N, -1, h1, h2, .inr rfl, h.trans (by rw [hb, Int.neg_mul, Int.one_mul]), hr0⟩
/-- the three divisions at the end -/
theorem law_found {L : Nat} {u l δ γ R T c : Int} (hL : 0 < L) (hδ : δ = 1 ∨ δ = -1) (hγ : γ = 1 ∨ γ = -1) (hR : R = δ * (L * u)) (hT : T = δ * (L * l)) (hc : c = γ * L) :
    R.fdiv c = δ * γ * u ∧ R.fmod c = 0 ∧ T.fdiv c = δ * γ * l ∧ T.fmod c = 0 ∧ c.fdiv L = γ ∧ c.fmod L = 0 ∧ c ≠ 0 := by
  have hLi : (0 : Int) < (L : Int) := by omega
  have hg2 : γ * γ = 1 := by rcases hγ with rfl | rfl <;> rfl
  have hc0 : c ≠ 0 := by rcases hγ with rfl | rfl <;> omega
  have e : ∀ z : Int, δ * (L * z) = c * (δ * γ * z) := fun z => by
    rw [hc]
    rcases hδ with rfl | rfl <;> rcases hγ with rfl | rfl <;> simp [Int.neg_mul, Int.mul_neg]
  refine ⟨?_, ?_, ?_, ?_, ?_, ?_, hc0⟩
  · rw [hR, e, Int.mul_fdiv_cancel_left _ hc0]
  · rw [hR, e, Int.mul_fmod_right]
  · rw [hT, e, Int.mul_fdiv_cancel_left _ hc0]
  · rw [hT, e, Int.mul_fmod_right]
  · rw [hc, Int.mul_fdiv_cancel _ (Int.ne_of_gt hLi)]
  · rw [hc, Int.mul_fmod_left]
end Mine

open PySem PySem.W PyProof.Rows PySem.Calls
set_option Elab.async false
set_option linter.all false
set_option maxRecDepth 100000
namespace Mine
section
variable {Z : Zone} {A : Around} {env : Env} {O O' : Addr → Prop} {B : Addr → Obj → Prop} {own own' : List (Addr × List D)} {ρ ρ' : Rho} {s : Shared} {E : Value → Shared → Prop} {h' h₁ : Heap} {tk t₁ : Nat}
theorem Rep.strs {h : Heap} {T : Nat} {x : PySem.Str} {v : Value} (r : Rep O h T (.str x) v) : ∃ t, v = .str x t := by simpa only [Rep] using r
/-- slices of a string -/
theorem slice_fin {x : PySem.Str} {t : Tok} {l u : Option (Int × Tok)} {ob : Obj} {h₂ : Heap} {t₀ t₂ : Nat} {Q : Value → Shared → Prop} (W : Wd Z O { s with heap := h₂, toks := t₂ }) (hz : x.length ≤ sizeLine)
    (k : ∀ v h' tk, Grow Z O h₂ h' → t₀ ≤ tk → Rep O h' tk (.str (Txt.slice x (l.map (·.1)) (u.map (·.1)))) v → Q v { s with heap := h', toks := tk }) :
    (sliceMade x t l u none).post (fun v s' => t₀ ≤ s'.toks → Q v s') { s with heap := h₂.push ob, toks := t₂ } := by
  refine post_val_or_str (s := { s with heap := h₂.push ob, toks := t₂ }) ⟨Nat.le_trans (Txt.slice_le x _ _) hz, fun t' kk le => ?_⟩
  exact k _ _ _ (Grow.push W.tabs ob) le (by simp only [Rep]; exact ⟨t', rfl⟩)
theorem ev_sfrom {e l : PySem.Expr} {p pos : Pos} {x : PySem.Str} {i : Int} (h1 : Ev Z A env O B own ρ e (.str x)) (h2 : Ev Z A env O B own ρ l (.int i)) (hz : x.length ≤ sizeLine) (ht : ∀ o r, letTemporaryGo e o r = pure () := by intro _ _; rfl) :
    Ev Z A env O B own ρ (.Subscript e (.Slice (some l) none none p) pos) (.str (Txt.slice x (some i) none)) := .mk fun s X Q E k =>
  wpAny_with_toks (Nat.le_refl _) (wpAny_Subscript_str_slice (h1.run s X _ _ fun v h₁ t₁ g₁ le₁ r₁ => by
    rw [evalPart_some]
    refine h2.run _ (X.grow g₁ le₁) _ _ fun v2 h₂ t₂ g₂ le₂ r₂ => ?_
    rw [evalPart_none]
    have X₂ := (X.grow g₁ le₁).grow g₂ le₂
    simp only [Rep] at r₁ r₂
    obtain ⟨t, rfl⟩ := r₁
    obtain ⟨u, rfl⟩ := r₂
    refine wpAny_pure ⟨x, t, some (i, u), none, rfl, rfl, rfl, ?_⟩
    exact slice_fin X₂.wd hz fun v h' tk g le r => k v h' tk ((g₁.trans g₂).trans g) le r) ht)
theorem ev_supto {e l : PySem.Expr} {p pos : Pos} {x : PySem.Str} {i : Int} (h1 : Ev Z A env O B own ρ e (.str x)) (h2 : Ev Z A env O B own ρ l (.int i)) (hz : x.length ≤ sizeLine) (ht : ∀ o r, letTemporaryGo e o r = pure () := by intro _ _; rfl) :
    Ev Z A env O B own ρ (.Subscript e (.Slice none (some l) none p) pos) (.str (Txt.slice x none (some i))) := .mk fun s X Q E k =>
  wpAny_with_toks (Nat.le_refl _) (wpAny_Subscript_str_slice (h1.run s X _ _ fun v h₁ t₁ g₁ le₁ r₁ => by
    rw [evalPart_none]
    refine wpAny_pure ?_
    rw [evalPart_some]
    refine h2.run _ (X.grow g₁ le₁) _ _ fun v2 h₂ t₂ g₂ le₂ r₂ => ?_
    have X₂ := (X.grow g₁ le₁).grow g₂ le₂
    simp only [Rep] at r₁ r₂
    obtain ⟨t, rfl⟩ := r₁
    obtain ⟨u, rfl⟩ := r₂
    refine ⟨x, t, none, some (i, u), rfl, rfl, rfl, ?_⟩
    exact slice_fin X₂.wd hz fun v h' tk g le r => k v h' tk ((g₁.trans g₂).trans g) le r) ht)
theorem ev_smid {e l m : PySem.Expr} {p pos : Pos} {x : PySem.Str} {i j : Int} (h1 : Ev Z A env O B own ρ e (.str x)) (h2 : Ev Z A env O B own ρ l (.int i)) (h3 : Ev Z A env O B own ρ m (.int j)) (hz : x.length ≤ sizeLine) (ht : ∀ o r, letTemporaryGo e o r = pure () := by intro _ _; rfl) :
    Ev Z A env O B own ρ (.Subscript e (.Slice (some l) (some m) none p) pos) (.str (Txt.slice x (some i) (some j))) := .mk fun s X Q E k =>
  wpAny_with_toks (Nat.le_refl _) (wpAny_Subscript_str_slice (h1.run s X _ _ fun v h₁ t₁ g₁ le₁ r₁ => by
    rw [evalPart_some]
    refine h2.run _ (X.grow g₁ le₁) _ _ fun v2 h₂ t₂ g₂ le₂ r₂ => ?_
    rw [evalPart_some]
    refine h3.run _ ((X.grow g₁ le₁).grow g₂ le₂) _ _ fun v3 h₃ t₃ g₃ le₃ r₃ => ?_
    have X₃ := ((X.grow g₁ le₁).grow g₂ le₂).grow g₃ le₃
    simp only [Rep] at r₁ r₂ r₃
    obtain ⟨t, rfl⟩ := r₁
    obtain ⟨u, rfl⟩ := r₂
    obtain ⟨w, rfl⟩ := r₃
    refine ⟨x, t, some (i, u), some (j, w), rfl, rfl, rfl, ?_⟩
    exact slice_fin X₃.wd hz fun v h' tk g le r => k v h' tk (((g₁.trans g₂).trans g₃).trans g) le r) ht)
/-- one sign of a string -/
theorem ev_sitem {e i : PySem.Expr} {pos : Pos} {x : PySem.Str} {k : Int} (h1 : Ev Z A env O B own ρ e (.str x)) (h2 : Ev Z A env O B own ρ i (.int k)) (hf : fitsSsize k = true) (hl : -(x.length : Int) ≤ k) (hh : k < x.length)
    (hs : ∀ t u, subscripted i false (.str x t) (.int k u) = operate [.str x t, .int k u] (getItem (.str x t) (.int k u)) := by intro a u; rfl) (ht : ∀ o r, letTemporaryGo e o r = pure () := by intro _ _; rfl) : Ev Z A env O B own ρ (.Subscript e i pos) (.str (Txt.item x k)) :=
  ev_sub h1 h2 fun s v w X r1 r2 Q E kk => by
    simp only [Rep] at r1 r2
    obtain ⟨t, rfl⟩ := r1
    obtain ⟨u, rfl⟩ := r2
    exact item_str hf hl hh (fun _ => kk _ s.heap _ (Grow.refl X.tabs) (Nat.le_succ _) (by simp only [Rep]; exact ⟨_, rfl⟩)) (hs t u) (ht _)
/-- find -/
theorem ev_find {o e : PySem.Expr} {apos pos : Pos} {pl : Sem Bool} {x y : PySem.Str} (ho : Ev Z A env O B own ρ o (.str x)) (h1 : Ev Z A env O B own ρ e (.str y))
    (he : eval (.Call (.Attribute o (Str.ofString "find") apos) [e] [] pos) env = (do
      let ov ← eval o env
      standAt apos.atName
      let (f, first) ← holding [ov] (getMethod ov (Str.ofString "find") pl)
      callWith pos f first (backTo pos (starEach [e] env)) []) := by rfl)
    (hs : starEach [e] env = (false, eval e env) :: starEach [] env := by rfl) : Ev Z A env O B own ρ (.Call (.Attribute o (Str.ofString "find") apos) [e] [] pos) (.int (Txt.find x y)) :=
  ev_meth (id := "str.find") ho (evs_cons h1 evs_nil hs) (fun s v W r Q E k => by
    obtain ⟨t, rfl⟩ := r.strs
    exact GM.find k) (fun s v vs W r rs Q E k => by
    obtain ⟨t, rfl⟩ := r.strs
    simp only [Reps, Rep] at rs
    obtain ⟨_, _, rfl, ⟨u, rfl⟩, rfl⟩ := rs
    exact SC.find (k _ s.heap _ (Grow.refl W.tabs) (Nat.le_succ _) (by simp only [Rep]; exact ⟨_, rfl⟩))) he hs rfl
theorem ev_find3 {o e e2 : PySem.Expr} {apos pos : Pos} {pl : Sem Bool} {x y : PySem.Str} {i : Int} (ho : Ev Z A env O B own ρ o (.str x)) (h1 : Ev Z A env O B own ρ e (.str y)) (h2 : Ev Z A env O B own ρ e2 (.int i))
    (he : eval (.Call (.Attribute o (Str.ofString "find") apos) [e, e2] [] pos) env = (do
      let ov ← eval o env
      standAt apos.atName
      let (f, first) ← holding [ov] (getMethod ov (Str.ofString "find") pl)
      callWith pos f first (backTo pos (starEach [e, e2] env)) []) := by rfl)
    (hs : starEach [e, e2] env = (false, eval e env) :: starEach [e2] env := by rfl) (hs2 : starEach [e2] env = (false, eval e2 env) :: starEach [] env := by rfl) (hp : (backTo pos (starEach [e2] env)).any (·.1) = false := by rfl) : Ev Z A env O B own ρ (.Call (.Attribute o (Str.ofString "find") apos) [e, e2] [] pos) (.int (Txt.find3 x y i)) :=
  ev_meth (id := "str.find") ho (evs_cons h1 (evs_cons h2 evs_nil hs2) hs) (fun s v W r Q E k => by
    obtain ⟨t, rfl⟩ := r.strs
    exact GM.find k) (fun s v vs W r rs Q E k => by
    obtain ⟨t, rfl⟩ := r.strs
    simp only [Reps, Rep] at rs
    obtain ⟨_, _, rfl, ⟨u, rfl⟩, _, _, rfl, ⟨w, rfl⟩, rfl⟩ := rs
    exact SC.find3 (k _ s.heap _ (Grow.refl W.tabs) (Nat.le_succ _) (by simp only [Rep]; exact ⟨_, rfl⟩))) he hs hp
end
end Mine

open PySem PySem.W PyProof.Rows PySem.Calls
set_option Elab.async false
set_option linter.all false
set_option maxRecDepth 100000
namespace Mine
section
variable {Z : Zone} {A : Around} {env : Env} {O O' : Addr → Prop} {B : Addr → Obj → Prop} {own own' : List (Addr × List D)} {ρ ρ' : Rho} {s : Shared} {E : Value → Shared → Prop} {h' h₁ : Heap} {tk t₁ : Nat}
theorem reps_strs {h : Heap} {T : Nat} : ∀ (l : List (PySem.Str × Tok)), Reps O h T (l.map fun p => D.str p.1) (strValues l)
  | [] => by simp [Reps, strValues]
  | p :: l => by simp only [List.map_cons, strValues, Reps, Rep]; exact ⟨_, _, rfl, ⟨p.2, rfl⟩, reps_strs l⟩
/-- a new list of strings -/
theorem newStrs {l : List (PySem.Str × Tok)} {parts : List PySem.Str} {k : Nat} {Q : Value → Shared → Prop} (W : Wd Z O s) (he : l.map (·.1) = parts) (hk : s.toks ≤ k)
    (q : ∀ v h' tk, Grow Z O s.heap h' → s.toks ≤ tk → Rep O h' tk (.lst (parts.map .str)) v → Q v { s with heap := h', toks := tk }) :
    Q (.ref s.heap.objs.size) { s with heap := s.heap.push { cls := .type "list", data := .seq (strValues l).toArray }, toks := k } := by
  refine q _ _ k (Grow.push W.tabs _) hk ?_
  simp only [Rep]
  refine ⟨_, strValues l, rfl, W.fresh, ⟨_, Heap.get?_push_size _ rfl, rfl, 0, rfl⟩, ?_⟩
  have := reps_strs (O := O) (h := s.heap.push { cls := .type "list", data := .seq (strValues l).toArray }) (T := k) l
  rw [← he]
  simpa [List.map_map, Function.comp_def] using this
theorem cp_split {x y : PySem.Str} {t u : Tok} (W : Wd Z O s) (hy : (y.length == 0) = false) (hz : x.length + 2 ≤ sizeLine) : Cp Z A O (call (.builtin "str.split") [.str x t, .str y u]) s (.lst ((Txt.split x y).map .str)) := fun Q E k => by
  open Builtin.Str in
  cases h1 : (decide (x.length < y.length) || decide (strKind x < strKind y))
  · cases hf : (occurrences x y 0 x.length (x.length + 1)).isEmpty
    · have hsp : Txt.split x y = partsBetween x (occurrences x y 0 x.length (x.length + 1)) y.length := (if_neg (by rw [h1]; decide)).trans (if_neg (by rw [hf]; decide))
      refine call_meets F.slot_str_split (typeIs_str _ _ _) F.entry_str_split (F.args_str_split_2 _ _) (meets_str_split_sep x y t u h1 hy hf (by omega) (by
        have := (fact_split x y).2
        rw [hsp] at this
        omega)) ?_
      show wants Q E _ { s with toks := _, heap := s.heap.push { cls := .type "list", data := .seq (strsFrom s.toks (partsBetween x (occurrences x y 0 x.length (x.length + 1)) y.length)).toArray } }
      rw [strsFrom_eq]
      exact newStrs W ((numbered_texts _ _).trans hsp.symm) (Nat.le_add_right _ _) k
    · exact call_meets F.slot_str_split (typeIs_str _ _ _) F.entry_str_split (F.args_str_split_2 _ _) (meets_str_split_not_found x y t u h1 hy hf)
        (newStrs (l := [(x, t)]) W ((if_neg (by rw [h1]; decide)).trans (if_pos hf)).symm (Nat.le_refl _) k)
  · exact call_meets F.slot_str_split (typeIs_str _ _ _) F.entry_str_split (F.args_str_split_2 _ _) (meets_str_split_cannot_occur x y t u h1)
      (newStrs (l := [(x, t)]) W (if_pos h1).symm (Nat.le_refl _) k)
theorem ev_split {o e : PySem.Expr} {apos pos : Pos} {pl : Sem Bool} {x y : PySem.Str} (ho : Ev Z A env O B own ρ o (.str x)) (h1 : Ev Z A env O B own ρ e (.str y)) (hy : (y.length == 0) = false) (hz : x.length + 2 ≤ sizeLine)
    (he : eval (.Call (.Attribute o (Str.ofString "split") apos) [e] [] pos) env = (do
      let ov ← eval o env
      standAt apos.atName
      let (f, first) ← holding [ov] (getMethod ov (Str.ofString "split") pl)
      callWith pos f first (backTo pos (starEach [e] env)) []) := by rfl)
    (hs : starEach [e] env = (false, eval e env) :: starEach [] env := by rfl) : Ev Z A env O B own ρ (.Call (.Attribute o (Str.ofString "split") apos) [e] [] pos) (.lst ((Txt.split x y).map .str)) :=
  ev_meth (id := "str.split") ho (evs_cons h1 evs_nil hs) (fun s v W r Q E k => by
    obtain ⟨t, rfl⟩ := r.strs
    exact GM.split k) (fun s v vs W r rs => by
    obtain ⟨t, rfl⟩ := r.strs
    simp only [Reps, Rep] at rs
    obtain ⟨_, _, rfl, ⟨u, rfl⟩, rfl⟩ := rs
    exact cp_split W hy hz) he hs rfl
/-- str(an int) -/
theorem ev_strint {f e : PySem.Expr} {pos : Pos} {n : Int} (hf : Ev Z A env O B own ρ f (.val (.type "str"))) (h1 : Ev Z A env O B own ρ e (.int n)) (hn : n.natAbs < 2 ^ 64)
    (he : eval (.Call f [e] [] pos) env = (do callWith pos (← eval f env) [] (backTo pos (starEach [e] env)) (backToKw pos (keywordEach [] env))) := by rfl) (s1 : starEach [e] env = (false, eval e env) :: starEach [] env := by rfl) :
    Ev Z A env O B own ρ (.Call f [e] [] pos) (.str (toString n)) :=
  ev_callT hf (evs_cons h1 evs_nil s1) (fun s vs W r Q E k => by
    simp only [Reps, Rep] at r
    obtain ⟨_, _, rfl, ⟨t, rfl⟩, rfl⟩ := r
    have hlog : n.natAbs.log2 < 1920 := by
      by_cases h0 : n.natAbs = 0
      · rw [h0]; decide
      · exact Nat.lt_trans ((Nat.log2_lt h0).mpr hn) (by decide)
    exact PySem.P.str_of_int hlog (k _ s.heap _ (Grow.refl W.tabs) (Nat.le_succ _) (by simp only [Rep]; exact ⟨_, rfl⟩))) he s1 rfl
/-- a string in a string -/
theorem op_ins {x y : PySem.Str} : Op2 Z A O (compareOp .In) (.str y) (.str x) (.bool (!(Builtin.Str.occurrences x y 0 x.length 1).isEmpty)) := .mk fun s v1 v2 W r1 r2 Q E k => by
  obtain ⟨t, rfl⟩ := r1.strs
  obtain ⟨u, rfl⟩ := r2.strs
  exact PyProof.Rows.in_str (k _ s.heap s.toks (Grow.refl W.tabs) (Nat.le_refl _) (by simp only [Rep]))
theorem op_nins {x y : PySem.Str} : Op2 Z A O (compareOp .NotIn) (.str y) (.str x) (.bool (!(!(Builtin.Str.occurrences x y 0 x.length 1).isEmpty))) := .mk fun s v1 v2 W r1 r2 Q E k => by
  obtain ⟨t, rfl⟩ := r1.strs
  obtain ⟨u, rfl⟩ := r2.strs
  exact PyProof.Rows.notIn_str (k _ s.heap s.toks (Grow.refl W.tabs) (Nat.le_refl _) (by simp only [Rep]))
end
end Mine

open PySem PySem.W PyProof.Rows PySem.Calls
set_option Elab.async false
set_option linter.all false
set_option maxRecDepth 100000
namespace Mine
section
variable {Z : Zone} {A : Around} {env : Env} {O O' : Addr → Prop} {B : Addr → Obj → Prop} {own own' : List (Addr × List D)} {ρ ρ' : Rho} {s : Shared} {E : Value → Shared → Prop} {h' h₁ : Heap} {tk t₁ : Nat}
/-- two strings of two tokens, as arguments -/
structure Args2 (Z : Zone) (A : Around) (env : Env) (O : Addr → Prop) (B : Addr → Obj → Prop) (own : List (Addr × List D)) (ρ : Rho) (pos : Pos) (e1 e2 : PySem.Expr) (y z : PySem.Str) : Prop where
  run : 
    ∀ s, St Z env O B own ρ s → ∀ (Q : List Value → Shared → Prop) (E : Value → Shared → Prop), (∀ u v h' tk, Grow Z O s.heap h' → s.toks ≤ tk → u ≠ 0 → v ≠ 0 → u ≠ v → Q [.str y u, .str z v] { s with heap := h', toks := tk }) →
      wpAny (model Z.prog Z.w) A (spliced (backTo pos (starEach [e1, e2] env))) Q E s
theorem a2_const {y z : PySem.Str} {k1 k2 : Nat} {p1 p2 pos : Pos} : Args2 Z A env O B own ρ pos (.Constant (.str y) k1 p1) (.Constant (.str z) k2 p2) y z := .mk fun s X Q E k =>
  wpAny_items_cons (Constant_str (wpAny_items_cons (Constant_str (wpAny_items_nil (k s.toks (s.toks + 1) s.heap (s.toks + 1 + 1) (Grow.refl X.tabs) (by omega) (Nat.ne_of_gt X.pos) (Nat.succ_ne_zero _) (Nat.ne_of_lt (Nat.lt_succ_self _))))) rfl)) rfl
theorem a2_strint {y : PySem.Str} {k1 : Nat} {p1 pos cpos : Pos} {f e : PySem.Expr} {n : Int} (hf : Ev Z A env O B own ρ f (.val (.type "str"))) (h1 : Ev Z A env O B own ρ e (.int n)) (hn : n.natAbs < 2 ^ 64)
    (he : eval (.Call f [e] [] cpos) env = (do callWith cpos (← eval f env) [] (backTo cpos (starEach [e] env)) (backToKw cpos (keywordEach [] env))) := by rfl) (s1 : starEach [e] env = (false, eval e env) :: starEach [] env := by rfl)
    (s2 : starEach [.Constant (.str y) k1 p1, .Call f [e] [] cpos] env = (false, eval (.Constant (.str y) k1 p1) env) :: starEach [.Call f [e] [] cpos] env := by rfl) (s3 : starEach [.Call f [e] [] cpos] env = (false, eval (.Call f [e] [] cpos) env) :: starEach [] env := by rfl) :
    Args2 Z A env O B own ρ pos (.Constant (.str y) k1 p1) (.Call f [e] [] cpos) y (toString n) := .mk fun s X Q E k => by
  have X₁ : St Z env O B own ρ { s with toks := s.toks + 1 } := X.grow (Grow.refl X.tabs) (Nat.le_succ _)
  refine wpAny_items_cons (Constant_str (wpAny_items_cons (callT_split X₁ hf (evs_cons h1 evs_nil s1) (fun vs h₂ t₂ g₂ le₂ r => ?_) he s1 rfl) s3)) s2
  simp only [Reps, Rep] at r
  obtain ⟨_, _, rfl, ⟨t, rfl⟩, rfl⟩ := r
  have hlog : n.natAbs.log2 < 1920 := by
    by_cases h0 : n.natAbs = 0
    · rw [h0]; decide
    · exact Nat.lt_trans ((Nat.log2_lt h0).mpr hn) (by decide)
  have le : s.toks + 1 ≤ t₂ := le₂
  have hp := X.pos
  exact PySem.P.str_of_int hlog (wpAny_items_nil (k s.toks t₂ h₂ (t₂ + 1) g₂ (Nat.le_trans (Nat.le_trans (Nat.le_succ _) le) (Nat.le_succ _)) (Nat.ne_of_gt hp) (Nat.ne_of_gt (Nat.lt_of_lt_of_le (Nat.succ_pos _) le)) (Nat.ne_of_lt le)))
theorem a2_item {y z x : PySem.Str} {k1 : Nat} {p1 px p2 pos : Pos} {i : PySem.Expr} {ds : List D} {k : Int} (hg : get ρ x = some (.lst ds)) (hi : Ev Z A env O B own ρ i (.int k)) (h0 : 0 ≤ k) (hfit : k < 2 ^ 63) (hd : ds[k.toNat]? = some (.cst z))
    (hk : env.scope.kind = .function := by rfl) (hl : env.kindOf x = some .local := by rfl) (hdb : (x == ("__debug__" : PySem.Str)) = false := by decide)
    (hs : ∀ a u, subscripted i false (.ref a) (.int k u) = operate [.ref a, .int k u] (getItem (.ref a) (.int k u)) := by intro a u; rfl)
    (s2 : starEach [.Constant (.str y) k1 p1, .Subscript (.Name x px) i p2] env = (false, eval (.Constant (.str y) k1 p1) env) :: starEach [.Subscript (.Name x px) i p2] env := by rfl) (s3 : starEach [.Subscript (.Name x px) i p2] env = (false, eval (.Subscript (.Name x px) i p2) env) :: starEach [] env := by rfl) :
    Args2 Z A env O B own ρ pos (.Constant (.str y) k1 p1) (.Subscript (.Name x px) i p2) y z := .mk fun s X Q E kk => by
  have X₁ : St Z env O B own ρ { s with toks := s.toks + 1 } := X.grow (Grow.refl X.tabs) (Nat.le_succ _)
  obtain ⟨m, hn, r⟩ := X.loc
  obtain ⟨v, hv, rv⟩ := r x _ hl hg
  have rv' := rv
  simp only [Rep] at rv'
  obtain ⟨a, vs, rfl, no, ⟨oa, ea, hoa⟩, rs⟩ := rv'
  obtain ⟨w, hw, rw_⟩ := rs.at hd
  simp only [Rep] at rw_
  obtain ⟨tv, rfl, hp1, hp2⟩ := rw_
  refine wpAny_items_cons (Constant_str (wpAny_items_cons (PyProof.Rows.Subscript_ (wpAny_Name (wpAny_loadName_local hk hl hn hv ?_) hdb)) s3)) s2
  refine hi.run _ X₁ _ _ fun vi h₂ t₂ g₂ le₂ r₂ => ?_
  simp only [Rep] at r₂
  obtain ⟨u, rfl⟩ := r₂
  have X₂ := X₁.grow g₂ le₂
  have hl2 : h₂.IsList a vs.toArray := ⟨oa, g₂.1 a oa (fun q => no (X.tabs.isO q)) ea, hoa⟩
  have le : s.toks + 1 ≤ t₂ := le₂
  have hp := X.pos
  exact tail_any (s := { s with heap := h₂, toks := t₂ }) hl2.typeIs slot_lg (wpAny_getItem_list hl2 h0 hfit (by simpa using hw) (wpAny_items_nil (kk s.toks tv h₂ t₂ g₂ (Nat.le_trans (Nat.le_succ _) le) (Nat.ne_of_gt hp) (Nat.ne_of_gt hp1) (Nat.ne_of_gt hp2)))) (hs a u)
theorem ev_repl {o e1 e2 : PySem.Expr} {apos pos : Pos} {pl : Sem Bool} {x y z : PySem.Str} (ho : Ev Z A env O B own ρ o (.str x)) (ha : Args2 Z A env O B own ρ pos e1 e2 y z) (hyz : (y == z) = false) (hb : x.length + (x.length + 1) * z.length ≤ 16777216)
    (he : eval (.Call (.Attribute o (Str.ofString "replace") apos) [e1, e2] [] pos) env = (do
      let ov ← eval o env
      standAt apos.atName
      let (f, first) ← holding [ov] (getMethod ov (Str.ofString "replace") pl)
      callWith pos f first (backTo pos (starEach [e1, e2] env)) []) := by rfl)
    (hs : starEach [e1, e2] env = (false, eval e1 env) :: starEach [e2] env := by rfl) (hp : (backTo pos (starEach [e2] env)).any (·.1) = false := by rfl) : Ev Z A env O B own ρ (.Call (.Attribute o (Str.ofString "replace") apos) [e1, e2] [] pos) (.str (Txt.replace x y z)) := .mk fun s X Q E k => by
  refine MethodCall_ (pl := pl) (ho.run s X _ _ fun v h₁ t₁ g₁ le₁ r₁ => ?_) he
  obtain ⟨t, rfl⟩ := r₁.strs
  refine GM.replace ?_
  have ha2 := ha.run _ (X.grow g₁ le₁)
  rw [hs] at ha2 ⊢
  refine callWith_builtin (by show ((false || (backTo pos (starEach [e2] env)).any (·.1)) = false); rw [hp]; rfl) ?_
  refine evalArgs_plain (x := eval e1 env) (rest := backTo pos (starEach [e2] env)) ?_
  refine ha2 _ _ fun u v h₂ t₂ g₂ le₂ hu hv huv => ?_
  refine wpAny_with_toks (n := s.toks) (Nat.le_trans le₁ le₂) (SC.replace hu hv huv hyz hb fun t' tk' => fun le => ?_)
  exact k _ h₂ tk' (g₁.trans g₂) le (by simp only [Rep]; exact ⟨_, rfl⟩)
end
end Mine

set_option Elab.async false
set_option linter.all false
set_option maxRecDepth 100000
namespace Mine
/-- every end of a line made CRLF -/
noncomputable def fixE : List Nat → List Nat
  | 13 :: 10 :: r => 13 :: 10 :: fixE r
  | 10 :: r => 13 :: 10 :: fixE r
  | 13 :: r => 13 :: 10 :: fixE r
  | c :: r => c :: fixE r
  | [] => []
/-- a dot at a line's start made two -/
noncomputable def dots : Bool → List Nat → List Nat
  | true, 46 :: r => 46 :: 46 :: dots false r
  | _, 10 :: r => 10 :: dots true r
  | _, c :: r => c :: dots false r
  | _, [] => []
theorem fixE_free : ∀ {l : List Nat} (r : List Nat), (∀ c ∈ l, c ≠ 10 ∧ c ≠ 13) → fixE (l ++ r) = l ++ fixE r
  | [], r, _ => rfl
  | c :: l, r, h => by
    have hc := h c (.head _)
    rw [List.cons_append, List.cons_append, ← fixE_free r fun x hx => h x (.tail _ hx)]
    rw [fixE]
    all_goals (intros; first | exact hc.2 ‹_› | exact hc.1 ‹_›)
theorem dots_free : ∀ {l : List Nat} (b : Bool) (r : List Nat), l ≠ [] → (∀ c ∈ l, c ≠ 10 ∧ c ≠ 46) → dots b (l ++ r) = l ++ dots false r
  | [], b, r, h, _ => absurd rfl h
  | [c], b, r, _, h => by
    have hc := h c (.head _)
    cases b <;> simp [dots, hc]
  | c :: d :: l, b, r, _, h => by
    have hc := h c (.head _)
    have ih := dots_free (l := d :: l) false r (by simp) fun x hx => h x (.tail _ hx)
    rw [show (c :: d :: l) ++ r = c :: ((d :: l) ++ r) from rfl, show (c :: d :: l) ++ dots false r = c :: ((d :: l) ++ dots false r) from rfl, ← ih]
    cases b <;> simp [dots, hc]
end Mine

open PySem
set_option Elab.async false
set_option linter.all false
set_option maxRecDepth 100000
namespace Mine
/-- every c made z -/
noncomputable def rep (c : Nat) (z : List Nat) (l : List Nat) : List Nat := l.flatMap fun k => if k = c then z else [k]
theorem rep_append (c : Nat) (z a b : List Nat) : rep c z (a ++ b) = rep c z a ++ rep c z b := by simp [rep]
theorem rep_free {c : Nat} {z : List Nat} : ∀ {l : List Nat}, c ∉ l → rep c z l = l
  | [], _ => rfl
  | k :: l, h => by
    have h1 : k ≠ c := fun e => h (e ▸ .head _)
    have := rep_free (z := z) (l := l) fun hm => h (.tail _ hm)
    simp only [rep, List.flatMap_cons, h1, if_false] at this ⊢
    rw [this]; rfl
theorem rep_one (c : Nat) (z : List Nat) : rep c z [c] = z := by simp [rep]
theorem cps_app (a b : PySem.Str) : (a ++ b).cps.toList = a.cps.toList ++ b.cps.toList := by
  show (a.cps ++ b.cps).toList = _
  simp
theorem rep_join (c : Nat) (z : PySem.Str) : ∀ parts : List PySem.Str, (∀ p ∈ parts, c ∉ p.cps.toList) → (Str.join z parts).cps.toList = rep c z.cps.toList (Str.join ⟨#[c]⟩ parts).cps.toList
  | [], _ => rfl
  | [x], h => (rep_free (h x (.head _))).symm
  | x :: y :: r, h => by
    have ih := rep_join c z (y :: r) fun p hp => h p (.tail _ hp)
    show (x ++ z ++ Str.join z (y :: r)).cps.toList = rep c z.cps.toList (x ++ ⟨#[c]⟩ ++ Str.join ⟨#[c]⟩ (y :: r)).cps.toList
    rw [cps_app, cps_app, cps_app, cps_app, rep_append, rep_append, rep_free (h x (.head _)), ← ih]
    rw [show rep c z.cps.toList ({ cps := #[c] } : PySem.Str).cps.toList = z.cps.toList from rep_one c _]
theorem replace_rep (x z : PySem.Str) (c : Nat) : (Txt.replace x ⟨#[c]⟩ z).cps.toList = rep c z.cps.toList x.cps.toList := by
  rw [StrLaws.replace_one, rep_join c z _ (StrLaws.split_free x c), StrLaws.join_split]
end Mine

open PySem
set_option Elab.async false
set_option linter.all false
set_option maxRecDepth 100000
namespace Mine
open StrLaws Builtin.Str
/-- every pair a, b made z -/
noncomputable def rep2 (a b : Nat) (z : List Nat) : List Nat → List Nat
  | x :: y :: r => if x = a ∧ y = b then z ++ rep2 a b z r else x :: rep2 a b z (y :: r)
  | l => l
theorem at_two (x : PySem.Str) (a b k : Nat) : At x ⟨#[a, b]⟩ x.length k ↔ x.cps.toList[k]? = some a ∧ x.cps.toList[k + 1]? = some b := by
  have hn : x.cps.toList.length = x.length := by simp [Str.length]
  unfold At
  rw [subAt_eq]
  rw [show (⟨#[a, b]⟩ : PySem.Str).length = 2 from rfl, show (⟨#[a, b]⟩ : PySem.Str).cps.toList = [a, b] from rfl, beq_iff_eq]
  generalize x.cps.toList = L at *
  constructor
  · rintro ⟨h1, h2⟩
    have e0 : ((L.drop k).take 2)[0]? = some a := by rw [h2]; rfl
    have e1 : ((L.drop k).take 2)[1]? = some b := by rw [h2]; rfl
    rw [List.getElem?_take_of_lt (by omega), List.getElem?_drop] at e0 e1
    exact ⟨by simpa using e0, e1⟩
  · rintro ⟨h1, h2⟩
    have hlt : k + 1 < L.length := (List.getElem?_eq_some_iff.mp h2).1
    refine ⟨by omega, ?_⟩
    rw [List.drop_eq_getElem_cons (by omega), List.drop_eq_getElem_cons (by omega)]
    rw [List.getElem?_eq_getElem (by omega)] at h1 h2
    cases h1; cases h2
    rfl
theorem rep2_skip {a b : Nat} {z : List Nat} {L : List Nat} : ∀ (m i : Nat), i + m ≤ L.length → (∀ k, i ≤ k → k < i + m → ¬ (L[k]? = some a ∧ L[k + 1]? = some b)) → rep2 a b z (L.drop i) = (L.drop i).take m ++ rep2 a b z (L.drop (i + m))
  | 0, i, _, _ => by simp
  | m + 1, i, h, hn => by
    have h0 : i < L.length := Nat.lt_of_lt_of_le (Nat.lt_add_of_pos_right (Nat.succ_pos m)) h
    have ih := rep2_skip (z := z) m (i + 1) (by rw [Nat.add_right_comm]; exact h) fun k h1 h2 => hn k (Nat.le_of_succ_le h1) (by rw [Nat.add_right_comm] at h2; exact h2)
    rw [List.drop_eq_getElem_cons h0]
    by_cases h1 : i + 1 < L.length
    · rw [List.drop_eq_getElem_cons h1] at ih ⊢
      have := hn i (Nat.le_refl _) (Nat.lt_add_of_pos_right (Nat.succ_pos m))
      rw [List.getElem?_eq_getElem h0, List.getElem?_eq_getElem h1] at this
      simp only [Option.some.injEq] at this
      rw [rep2, if_neg this, ih]
      simp only [List.take_succ_cons, List.cons_append]
      rw [show i + 1 + m = i + (m + 1) from Nat.add_right_comm i 1 m]
    · have e : L.drop (i + 1) = [] := List.drop_of_length_le (Nat.le_of_not_lt h1)
      have e2 : L.drop (i + (m + 1)) = [] := List.drop_of_length_le (Nat.le_trans (Nat.le_of_not_lt h1) (Nat.add_le_add_left (Nat.succ_le_succ (Nat.zero_le m)) i))
      rw [e, e2]
      simp [rep2]
theorem join_parts (x z : PySem.Str) (a b : Nat) : ∀ (cuts : List Nat) (i f : Nat), ChainG x ⟨#[a, b]⟩ x.length i cuts f → i ≤ x.length → (∀ k, f ≤ k → ¬ At x ⟨#[a, b]⟩ x.length k) →
    (Str.join z (partsFrom x 2 i cuts)).cps.toList = rep2 a b z.cps.toList (x.cps.toList.drop i)
  | [], i, f, h, hi, hn => by
    have e : f = i := h
    subst e
    have hl : x.cps.toList.length = x.length := by simp [Str.length]
    show (strSub x f x.length).cps.toList = _
    have e0 : rep2 a b z.cps.toList [] = [] := rfl
    rw [strSub_toList, rep2_skip (L := x.cps.toList) (x.length - f) f (by rw [Nat.add_sub_cancel' hi, hl]; exact Nat.le_refl _) fun k h1 _ => fun h2 => hn k h1 ((at_two x a b k).mpr h2), Nat.add_sub_cancel' hi,
      List.drop_of_length_le (l := x.cps.toList) (i := x.length) (Nat.le_of_eq hl), e0, List.append_nil]
  | c :: r, i, f, h, hi, hn => by
    have hl : x.cps.toList.length = x.length := by simp [Str.length]
    obtain ⟨h1, h2, h3, h4⟩ := h
    have hc2 : c + 2 ≤ x.length := h2.1
    have ih := join_parts x z a b r (c + 2) f h4 hc2 hn
    obtain ⟨p, q, e⟩ := partsFrom_ne x 2 (c + 2) r
    show (Str.join z (strSub x i c :: partsFrom x 2 (c + 2) r)).cps.toList = _
    rw [e] at ih ⊢
    show (strSub x i c ++ z ++ Str.join z (p :: q)).cps.toList = _
    rw [cps_app, cps_app, ih, strSub_toList, rep2_skip (L := x.cps.toList) (c - i) i (by rw [Nat.add_sub_cancel' h1, hl]; exact Nat.le_trans (Nat.le_add_right c 2) hc2) fun k g1 g2 => fun g3 => h3 k g1 (Nat.add_sub_cancel' h1 ▸ g2) ((at_two x a b k).mpr g3), Nat.add_sub_cancel' h1]
    obtain ⟨g1, g2⟩ := (at_two x a b c).mp h2
    have e3 : x.cps.toList.drop c = a :: b :: x.cps.toList.drop (c + 2) := by
      rw [List.drop_eq_getElem_cons (show c < x.cps.toList.length from hl ▸ Nat.lt_of_lt_of_le (Nat.lt_add_of_pos_right (by decide)) hc2), List.drop_eq_getElem_cons (show c + 1 < x.cps.toList.length from hl ▸ hc2)]
      rw [List.getElem?_eq_getElem (by omega)] at g1 g2
      rw [Option.some.inj g1, Option.some.inj g2]
    rw [e3, rep2, if_pos ⟨rfl, rfl⟩, List.append_assoc]
theorem replace_two (x z : PySem.Str) (a b : Nat) : (Txt.replace x ⟨#[a, b]⟩ z).cps.toList = rep2 a b z.cps.toList x.cps.toList := by
  obtain ⟨f, h, hn⟩ := occ_tight x ⟨#[a, b]⟩ (show 1 ≤ 2 by decide)
  unfold Txt.replace
  rw [show ((⟨#[a, b]⟩ : PySem.Str).length == 0) = false from rfl, Bool.false_and, Bool.or_false]
  have key := join_parts x z a b _ 0 f h (Nat.zero_le _) hn
  rw [List.drop_zero] at key
  split
  · rename_i he
    have e : occurrences x ⟨#[a, b]⟩ 0 x.length (x.length + 1) = [] := by simpa using he
    rw [e] at key
    rw [← key]
    show x.cps.toList = (strSub x 0 x.length).cps.toList
    rw [sub_whole]
  · rw [glued_eq_join, partsBetween_eq]
    exact key
end Mine

open PySem
set_option Elab.async false
set_option linter.all false
set_option maxRecDepth 100000
namespace Mine
/-- fixE, from left to right: the flag tells that a CR came just before -/
noncomputable def fx : Bool → List Nat → List Nat
  | _, [] => []
  | p, c :: r => if c = 10 then (if p then fx false r else 13 :: 10 :: fx false r) else if c = 13 then 13 :: 10 :: fx true r else c :: fx false r
theorem fx_both : ∀ (n : Nat) (l : List Nat), l.length ≤ n → fixE l = fx false l
  | 0, [], _ => rfl
  | n + 1, [], _ => rfl
  | n + 1, c :: r, h => by
    have ih := fx_both n
    by_cases h13 : c = 13
    · subst h13
      cases r with
      | nil => rfl
      | cons d r =>
        by_cases h10 : d = 10
        · subst h10
          show 13 :: 10 :: fixE r = 13 :: 10 :: fx true (10 :: r)
          rw [ih r (by simp at h; omega)]
          rfl
        · have e : fixE (13 :: d :: r) = 13 :: 10 :: fixE (d :: r) := by rw [fixE]; intro x; simp [h10]
          rw [e, ih (d :: r) (by simpa using h)]
          show 13 :: 10 :: fx false (d :: r) = 13 :: 10 :: fx true (d :: r)
          simp [fx, h10]
    · by_cases h10 : c = 10
      · subst h10
        show 13 :: 10 :: fixE r = 13 :: 10 :: fx false r
        rw [ih r (by simpa using h)]
      · have e : fixE (c :: r) = c :: fixE r := by
          rw [fixE]
          · intro x; simp [h13]
          · exact h10
          · exact h13
        rw [e, ih r (by simpa using h)]
        simp [fx, h10, h13]
theorem fixE_fx (l : List Nat) : fixE l = fx false l := fx_both _ l (Nat.le_refl _)
/-- line ends and dots in one -/
noncomputable def both (p b : Bool) (l : List Nat) : List Nat := dots b (fx p l)
theorem dots_ord {c : Nat} (b : Bool) (x : List Nat) (h1 : c ≠ 10) (h2 : c ≠ 46) : dots b (c :: x) = c :: dots false x := by cases b <;> simp [dots, h1, h2]
theorem dots_nl (b : Bool) (x : List Nat) : dots b (13 :: 10 :: x) = 13 :: 10 :: dots true x := by rw [dots_ord _ _ (by decide) (by decide)]; rfl
theorem both_ord {c : Nat} (p b : Bool) (r : List Nat) (h1 : c ≠ 10) (h2 : c ≠ 13) (h3 : c ≠ 46) : both p b (c :: r) = c :: both false false r := by
  unfold both
  rw [fx, if_neg h1, if_neg h2, dots_ord _ _ h1 h3]
theorem both_dot (p b : Bool) (r : List Nat) : both p b (46 :: r) = (if b then [46, 46] else [46]) ++ both false false r := by
  unfold both
  rw [fx, if_neg (by decide), if_neg (by decide)]
  cases b <;> rfl
theorem both_lf (b : Bool) (r : List Nat) : both false b (10 :: r) = [13, 10] ++ both false true r := by
  unfold both
  rw [fx, if_pos rfl, if_neg (by decide), dots_nl]; rfl
theorem both_cr (p b : Bool) (r : List Nat) : both p b (13 :: r) = [13, 10] ++ both true true r := by
  unfold both
  rw [fx, if_neg (by decide), if_pos rfl, dots_nl]; rfl
theorem both_crlf (p b : Bool) (r : List Nat) : both p b (13 :: 10 :: r) = [13, 10] ++ both false true r := by
  rw [both_cr]
  unfold both
  rw [fx, if_pos rfl, if_pos rfl]
noncomputable def Plain3 (l : List Nat) : Prop := l ≠ [] ∧ ∀ c ∈ l, c ≠ 10 ∧ c ≠ 13 ∧ c ≠ 46
theorem both_run : ∀ {l : List Nat} (p b : Bool) (r : List Nat), Plain3 l → both p b (l ++ r) = l ++ both false false r
  | [], _, _, _, h => absurd rfl h.1
  | [c], p, b, r, h => both_ord p b r (h.2 c (.head _)).1 (h.2 c (.head _)).2.1 (h.2 c (.head _)).2.2
  | c :: d :: l, p, b, r, h => by
    have hc := h.2 c (.head _)
    show both p b (c :: ((d :: l) ++ r)) = _
    rw [both_ord p b _ hc.1 hc.2.1 hc.2.2, both_run (l := d :: l) false false r ⟨by simp, fun x hx => h.2 x (.tail _ hx)⟩]
    rfl
noncomputable def endL (k : Nat) : List Nat := if k = 0 then [10] else if k = 1 then [13] else [13, 10]
noncomputable def sub4 (dP dM E1 E2 : List Nat) (c : Nat) : List Nat := if c = 80 then dP else if c = 77 then dM else if c = 64 then E1 else if c = 35 then E2 else [c]
noncomputable def sub2 (dP dM : List Nat) (c : Nat) : List Nat := if c = 80 then dP else if c = 77 then dM else [c]
/-- what the sending makes of a row, on its mould -/
noncomputable def sym (e : Nat) : Bool → Bool → List Nat → Option (List Nat)
  | p, b, [] => if p || b then none else some []
  | p, b, c :: T =>
    if c = 64 then (if e = 0 ∧ p = true then none else (sym e (e == 1) true T).map ([13, 10] ++ ·))
    else if c = 35 then (if (e + 1) % 3 = 0 ∧ p = true then none else (sym e ((e + 1) % 3 == 1) true T).map ([13, 10] ++ ·))
    else if c = 46 then (sym e false false T).map ((if b then [46, 46] else [46]) ++ ·)
    else if c = 10 ∨ c = 13 then none
    else (sym e false false T).map (c :: ·)
theorem both_end (k : Nat) (p b : Bool) (r : List Nat) (h : ¬ (k = 0 ∧ p = true)) : both p b (endL k ++ r) = [13, 10] ++ both (k == 1) true r := by
  unfold endL
  by_cases h0 : k = 0
  · subst h0
    have : p = false := by cases p <;> simp_all
    subst this
    exact both_lf b r
  · rw [if_neg h0]
    by_cases h1 : k = 1
    · subst h1; exact both_cr p b r
    · rw [if_neg h1, show (k == 1) = false by simpa using h1]
      exact both_crlf p b r
theorem sym_ok {dP dM : List Nat} (hP : Plain3 dP) (hM : Plain3 dM) (e : Nat) (r : List Nat) : ∀ (T : List Nat) (p b : Bool) (S : List Nat), sym e p b T = some S →
    both p b (T.flatMap (sub4 dP dM (endL e) (endL ((e + 1) % 3))) ++ r) = S.flatMap (sub2 dP dM) ++ both false false r
  | [], p, b, S, h => by
    unfold sym at h
    cases p <;> cases b <;> simp at h
    subst h; rfl
  | c :: T, p, b, S, h => by
    have ih := sym_ok hP hM e r T
    rw [sym] at h
    rw [List.flatMap_cons, List.append_assoc]
    by_cases c64 : c = 64
    · subst c64
      rw [if_pos rfl] at h
      split at h
      · cases h
      · rename_i hk
        obtain ⟨S', hS, rfl⟩ := Option.map_eq_some_iff.mp h
        rw [show sub4 dP dM (endL e) (endL ((e + 1) % 3)) 64 = endL e from rfl, both_end e p b _ hk, ih _ _ S' hS]
        rfl
    rw [if_neg c64] at h
    by_cases c35 : c = 35
    · subst c35
      rw [if_pos rfl] at h
      split at h
      · cases h
      · rename_i hk
        obtain ⟨S', hS, rfl⟩ := Option.map_eq_some_iff.mp h
        rw [show sub4 dP dM (endL e) (endL ((e + 1) % 3)) 35 = endL ((e + 1) % 3) from rfl, both_end _ p b _ hk, ih _ _ S' hS]
        rfl
    rw [if_neg c35] at h
    by_cases c46 : c = 46
    · subst c46
      rw [if_pos rfl] at h
      obtain ⟨S', hS, rfl⟩ := Option.map_eq_some_iff.mp h
      rw [show sub4 dP dM (endL e) (endL ((e + 1) % 3)) 46 = [46] from rfl, show [46] ++ (T.flatMap (sub4 dP dM (endL e) (endL ((e + 1) % 3))) ++ r) = 46 :: (T.flatMap (sub4 dP dM (endL e) (endL ((e + 1) % 3))) ++ r) from rfl, both_dot, ih _ _ S' hS]
      cases b <;> rfl
    rw [if_neg c46] at h
    split at h
    · cases h
    · rename_i hk
      obtain ⟨S', hS, rfl⟩ := Option.map_eq_some_iff.mp h
      by_cases c80 : c = 80
      · subst c80
        rw [show sub4 dP dM (endL e) (endL ((e + 1) % 3)) 80 = dP from rfl, both_run p b _ hP, ih _ _ S' hS, List.flatMap_cons, show sub2 dP dM 80 = dP from rfl, List.append_assoc]
      by_cases c77 : c = 77
      · subst c77
        rw [show sub4 dP dM (endL e) (endL ((e + 1) % 3)) 77 = dM from rfl, both_run p b _ hM, ih _ _ S' hS, List.flatMap_cons, show sub2 dP dM 77 = dM from rfl, List.append_assoc]
      have e4 : sub4 dP dM (endL e) (endL ((e + 1) % 3)) c = [c] := by simp [sub4, c80, c77, c64, c35]
      have e2 : sub2 dP dM c = [c] := by simp [sub2, c80, c77]
      rw [e4, List.flatMap_cons, e2]
      show both p b (c :: (_ ++ r)) = c :: (_ ++ _)
      rw [both_ord p b _ (fun q => hk (.inl q)) (fun q => hk (.inr q)) c46, ih _ _ S' hS]
      rfl
end Mine

open PySem
set_option Elab.async false
set_option linter.all false
set_option maxRecDepth 100000
namespace Mine
/-- a text cut at every c -/
noncomputable def splL (c : Nat) : List Nat → List (List Nat)
  | [] => [[]]
  | k :: l => if k = c then [] :: splL c l else match splL c l with
    | h :: t => (k :: h) :: t
    | [] => [[k]]
theorem splL_free {c : Nat} : ∀ {l : List Nat}, c ∉ l → splL c l = [l]
  | [], _ => rfl
  | k :: l, h => by
    have h1 : k ≠ c := fun e => h (e ▸ .head _)
    rw [splL, if_neg h1, splL_free fun hm => h (.tail _ hm)]
theorem splL_cut {c : Nat} : ∀ {l : List Nat} (r : List Nat), c ∉ l → splL c (l ++ c :: r) = l :: splL c r
  | [], r, _ => by simp [splL]
  | k :: l, r, h => by
    have h1 : k ≠ c := fun e => h (e ▸ .head _)
    rw [List.cons_append, splL, if_neg h1, splL_cut r fun hm => h (.tail _ hm)]
theorem splL_join (c : Nat) : ∀ parts : List PySem.Str, parts ≠ [] → (∀ p ∈ parts, c ∉ p.cps.toList) → splL c (Str.join ⟨#[c]⟩ parts).cps.toList = parts.map (·.cps.toList)
  | [], h, _ => absurd rfl h
  | [x], _, h => by rw [show Str.join ⟨#[c]⟩ [x] = x from rfl, splL_free (h x (.head _))]; rfl
  | x :: y :: r, _, h => by
    have ih := splL_join c (y :: r) (by simp) fun p hp => h p (.tail _ hp)
    show splL c (x ++ ⟨#[c]⟩ ++ Str.join ⟨#[c]⟩ (y :: r)).cps.toList = _
    rw [cps_app, cps_app, List.append_assoc]
    rw [show ({ cps := #[c] } : PySem.Str).cps.toList ++ (Str.join ⟨#[c]⟩ (y :: r)).cps.toList = c :: (Str.join ⟨#[c]⟩ (y :: r)).cps.toList from rfl, splL_cut _ (h x (.head _)), ih]
    rfl
theorem split_spl (x : PySem.Str) (c : Nat) : (Txt.split x ⟨#[c]⟩).map (·.cps.toList) = splL c x.cps.toList := by
  have h := splL_join c (Txt.split x ⟨#[c]⟩) (fun e => by
    have := PyProof.Rows.split_pos x ⟨#[c]⟩
    rw [e] at this; simp at this) (StrLaws.split_free x c)
  rw [StrLaws.join_split] at h
  exact h.symm
end Mine

open PySem
set_option Elab.async false
set_option linter.all false
set_option maxRecDepth 100000
namespace Mine
theorem getD_list (x : PySem.Str) (v : Nat) : x.cps.getD v 0 = x.cps.toList.getD v 0 := by
  rw [List.getD_eq_getElem?_getD, Array.getElem?_toList, Array.getD_eq_getD_getElem?]
theorem fromIndex_nat (n i : Nat) : fromIndex n (i : Int) = i := by
  unfold fromIndex
  rw [if_neg (Int.not_lt_of_ge (Int.natCast_nonneg i)), Int.max_eq_right (Int.natCast_nonneg i), Int.toNat_natCast]
/-- find of one char, the char's place known -/
theorem find3_at {x : PySem.Str} {c : Nat} {a b : List Nat} {i : Nat} (h : x.cps.toList = a ++ c :: b) (hi : i ≤ a.length) (hf : ∀ v, i ≤ v → v < a.length → a.getD v 0 ≠ c) : Txt.find3 x ⟨#[c]⟩ (i : Int) = a.length := by
  have hlen : x.length = a.length + (b.length + 1) := by
    show x.cps.size = _
    rw [← Array.length_toList, h]; simp
  have hat : x.cps.getD a.length 0 = c := by rw [getD_list, h]; simp [List.getD_eq_getElem?_getD]
  rcases StrLaws.find3_spec x c i with ⟨_, h2⟩ | ⟨k, h1, h2, h3, h4, h5⟩
  · rw [fromIndex_nat] at h2
    exact absurd hat (h2 a.length hi (by omega))
  · rw [fromIndex_nat] at h2 h5
    rw [h1]
    have : k = a.length := by
      rcases Nat.lt_trichotomy k a.length with hk | hk | hk
      · exfalso
        have := hf k h2 hk
        rw [getD_list, h, List.getD_eq_getElem?_getD, List.getElem?_append_left hk] at h4
        rw [List.getD_eq_getElem?_getD] at this
        exact this h4
      · exact hk
      · exact absurd hat (h5 a.length hi hk)
    rw [this]
theorem find3_none {x : PySem.Str} {c : Nat} {i : Nat} (hf : ∀ v, i ≤ v → v < x.cps.toList.length → x.cps.toList.getD v 0 ≠ c) : Txt.find3 x ⟨#[c]⟩ (i : Int) = -1 := by
  rcases StrLaws.find3_spec x c i with ⟨h1, _⟩ | ⟨k, h1, h2, h3, h4, h5⟩
  · exact h1
  · rw [fromIndex_nat] at h2
    rw [getD_list] at h4
    exact absurd h4 (hf k h2 (by rw [Array.length_toList]; exact h3))
end Mine

open PySem
set_option Elab.async false
set_option linter.all false
set_option maxRecDepth 100000
namespace Mine
theorem slice_of {x : PySem.Str} {l u : Option Int} {r : List Nat} (h : (Builtin.Str.strSliceIndices l u 1 x.length).filterMap (x.cps[·]?) = r) (hl : (Builtin.Str.strSliceIndices l u 1 x.length).length = x.length → r = x.cps.toList) : (Txt.slice x l u).cps.toList = r := by
  unfold Txt.slice
  split
  · rename_i hc
    rw [hl (by simpa using hc)]
  · show (List.toArray _).toList = r
    rw [← h]
theorem slice_mid {x : PySem.Str} {a b : Nat} (hab : a ≤ b) (hb : b ≤ x.length) : (Txt.slice x (some (a : Int)) (some (b : Int))).cps.toList = (x.cps.toList.drop a).take (b - a) := by
  have hn : x.cps.toList.length = x.length := Array.length_toList
  refine slice_of (StrLaws.sliced_plain x hab hb) fun h => ?_
  rw [StrLaws.strSliceIndices_plain hab hb] at h
  simp at h
  have ha : a = 0 := by omega
  subst ha
  rw [List.drop_zero, List.take_of_length_le (by omega)]
theorem slice_from {x : PySem.Str} {a : Nat} (ha : a ≤ x.length) : (Txt.slice x (some (a : Int)) none).cps.toList = x.cps.toList.drop a := by
  have hn : x.cps.toList.length = x.length := Array.length_toList
  have h := slice_mid (x := x) (a := a) (b := x.length) ha (Nat.le_refl _)
  have e : Txt.slice x (some (a : Int)) none = Txt.slice x (some (a : Int)) (some (x.length : Int)) := by
    unfold Txt.slice
    rw [StrLaws.sliceIdx_none_hi]
  rw [e, h, List.take_of_length_le (by rw [List.length_drop]; omega)]
theorem slice_upto {x : PySem.Str} {b : Nat} (hb : b ≤ x.length) : (Txt.slice x none (some (b : Int))).cps.toList = x.cps.toList.take b := by
  have h := slice_mid (x := x) (a := 0) (b := b) (Nat.zero_le _) hb
  have e : Txt.slice x none (some (b : Int)) = Txt.slice x (some ((0 : Nat) : Int)) (some (b : Int)) := by
    unfold Txt.slice
    rw [StrLaws.sliceIdx_none_lo]
    rfl
  rw [e, h]; simp
end Mine

open PySem
set_option Elab.async false
set_option linter.all false
set_option maxRecDepth 100000
namespace Mine
/-- the signs of a number's text -/
noncomputable def dg (n : Int) : List Nat := (Str.ofString (toString n)).cps.toList
theorem dg_free (c : Nat) (h : c ≠ 45 ∧ (c < 48 ∨ 57 < c)) (n : Int) : c ∉ dg n := PyProof.Rows.int_text_free' c h n
theorem dg_sign {n : Int} {c : Nat} (h : c ∈ dg n) : c = 45 ∨ (48 ≤ c ∧ c ≤ 57) := by
  by_cases hc : c ≠ 45 ∧ (c < 48 ∨ 57 < c)
  · exact absurd h (dg_free c hc n)
  · omega
end Mine

open PySem
set_option Elab.async false
set_option linter.all false
set_option maxRecDepth 100000
namespace Mine
inductive PRes where
  | ok (n : Int)
  | reply
  | proto
  | value
noncomputable def cutAt (c : Nat) : List Nat → Option (List Nat × List Nat)
  | [] => none
  | k :: r => if k = c then some ([], r) else (cutAt c r).map fun p => (k :: p.1, p.2)
theorem cutAt_some {c : Nat} : ∀ {l a b : List Nat}, cutAt c l = some (a, b) → l = a ++ c :: b ∧ c ∉ a
  | [], a, b, h => by cases h
  | k :: r, a, b, h => by
    unfold cutAt at h
    by_cases hk : k = c
    · rw [if_pos hk] at h; cases h; subst hk; exact ⟨rfl, by simp⟩
    · rw [if_neg hk] at h
      cases hr : cutAt c r with
      | none => rw [hr] at h; cases h
      | some p =>
        rw [hr] at h
        obtain ⟨p1, p2⟩ := p
        cases h
        obtain ⟨h1, h2⟩ := cutAt_some hr
        exact ⟨by rw [h1]; rfl, fun hm => by
          rcases List.mem_cons.mp hm with e | hm
          · exact hk e.symm
          · exact h2 hm⟩
theorem cutAt_none {c : Nat} : ∀ {l : List Nat}, cutAt c l = none → c ∉ l
  | [], _ => by simp
  | k :: r, h => by
    unfold cutAt at h
    by_cases hk : k = c
    · rw [if_pos hk] at h; cases h
    · rw [if_neg hk] at h
      cases hr : cutAt c r with
      | none =>
        intro hm
        rcases List.mem_cons.mp hm with e | hm
        · exact hk e.symm
        · exact cutAt_none hr hm
      | some p => rw [hr] at h; cases h
theorem cutAt_eq {c : Nat} : ∀ {a : List Nat} (b : List Nat), c ∉ a → cutAt c (a ++ c :: b) = some (a, b)
  | [], b, _ => by simp [cutAt]
  | k :: a, b, h => by
    have h1 : k ≠ c := fun e => h (e ▸ .head _)
    rw [List.cons_append, cutAt, if_neg h1, cutAt_eq b fun hm => h (.tail _ hm)]
    rfl
noncomputable def parseL (L : List Nat) : PRes :=
  if L.take 3 ≠ [50, 50, 57] then .reply else
  match cutAt 40 L with
  | none => .proto
  | some (_, B) => match cutAt 41 B with
    | none => .proto
    | some (C, _) => match C with
      | [] => .proto
      | c :: r => if c ≠ (c :: r).getLastD 0 then .proto else
        if (splL c (c :: r)).length ≠ 5 then .proto else
        match PySem.intText? ⟨((splL c (c :: r)).getD 3 []).toArray⟩ with
        | some n => .ok n
        | none => .value
end Mine
namespace Mine
theorem slice_take (x : PySem.Str) (b : Nat) : (Txt.slice x none (some (b : Int))).cps.toList = x.cps.toList.take b := by
  have hn : x.cps.toList.length = x.length := Array.length_toList
  by_cases h : b ≤ x.length
  · exact slice_upto h
  · have e : Txt.slice x none (some (b : Int)) = Txt.slice x none (some ((x.length : Nat) : Int)) := by
      unfold Txt.slice
      have e1 : Builtin.Str.strSliceIndices none (some (b : Int)) 1 x.length = Builtin.Str.strSliceIndices none (some ((x.length : Nat) : Int)) 1 x.length := by
        have a1 : ¬ ((b : Int) < 0) := Int.not_lt_of_ge (Int.natCast_nonneg _)
        have a2 : ¬ ((x.length : Int) < 0) := Int.not_lt_of_ge (Int.natCast_nonneg _)
        have a3 : max (0 : Int) (min (b : Int) (x.length : Int)) = x.length := by rw [Int.min_eq_right (Int.ofNat_le.mpr (Nat.le_of_not_le h)), Int.max_eq_right (Int.natCast_nonneg _)]
        have a4 : max (0 : Int) (min (x.length : Int) (x.length : Int)) = x.length := by rw [Int.min_self, Int.max_eq_right (Int.natCast_nonneg _)]
        simp only [Builtin.Str.strSliceIndices, a1, a2, if_false, a3, a4, show ((1 : Int) > 0) = True from by simp, if_true]
      rw [e1]
    rw [e, slice_upto (Nat.le_refl _), List.take_of_length_le (Nat.le_of_eq hn), List.take_of_length_le (Nat.le_trans (Nat.le_of_eq hn) (Nat.le_of_not_le h))]
theorem str_eq {a b : PySem.Str} (h : a.cps.toList = b.cps.toList) : a = b := by
  obtain ⟨a⟩ := a
  obtain ⟨b⟩ := b
  congr
  exact Array.ext' h
theorem find_is (x y : PySem.Str) : Txt.find x y = Txt.find3 x y ((0 : Nat) : Int) := by
  unfold Txt.find Txt.find3
  rw [fromIndex_nat]
  cases Builtin.Str.occurrences x y 0 x.length 1 <;> rfl
theorem find_at {x : PySem.Str} {c : Nat} {a b : List Nat} (h : x.cps.toList = a ++ c :: b) (hf : c ∉ a) : Txt.find x ⟨#[c]⟩ = a.length := by
  rw [find_is]
  refine find3_at h (Nat.zero_le _) fun v _ hv e => hf ?_
  rw [List.getD_eq_getElem?_getD, List.getElem?_eq_getElem hv] at e
  exact e ▸ List.getElem_mem _
theorem find_no {x : PySem.Str} {c : Nat} (h : c ∉ x.cps.toList) : Txt.find x ⟨#[c]⟩ = -1 := by
  rw [find_is]
  refine find3_none fun v _ hv e => h ?_
  rw [List.getD_eq_getElem?_getD, List.getElem?_eq_getElem hv] at e
  exact e ▸ List.getElem_mem _
end Mine
namespace Mine
theorem item_list {x : PySem.Str} {i : Nat} (h : i < x.cps.toList.length) : Txt.item x (i : Int) = ⟨#[x.cps.toList.getD i 0]⟩ := by
  have e : x.cps[i]? = some (x.cps.toList.getD i 0) := by
    rw [← Array.getElem?_toList, List.getElem?_eq_getElem h, List.getD_eq_getElem?_getD, List.getElem?_eq_getElem h]; rfl
  exact PyProof.Rows.item_meets (Int.natCast_nonneg i) (by simpa using e)
theorem getD_mid {a b : List Nat} {c : Nat} : (a ++ c :: b).getD a.length 0 = c := by simp [List.getD_eq_getElem?_getD]
theorem mem_getD {l : List Nat} {i : Nat} (h : i < l.length) : l.getD i 0 ∈ l := by
  rw [List.getD_eq_getElem?_getD, List.getElem?_eq_getElem h]; exact List.getElem_mem _
theorem getD_right {a b : List Nat} {v : Nat} (h : a.length ≤ v) : (a ++ b).getD v 0 = b.getD (v - a.length) 0 := by
  rw [List.getD_eq_getElem?_getD, List.getD_eq_getElem?_getD, List.getElem?_append_right h]
theorem getD_left {a b : List Nat} {v : Nat} (h : v < a.length) : (a ++ b).getD v 0 = a.getD v 0 := by
  rw [List.getD_eq_getElem?_getD, List.getD_eq_getElem?_getD, List.getElem?_append_left h]
/-- the second bracket, looked for behind the first -/
theorem close_none {x : PySem.Str} {a b : List Nat} (h : x.cps.toList = a ++ 40 :: b) (hb : 41 ∉ b) : Txt.find3 x ⟨#[41]⟩ ((a.length : Int) + 1) = -1 := by
  have := find3_none (x := x) (c := 41) (i := a.length + 1) fun v hv hl e => by
    rw [h] at hl e
    rw [show a ++ 40 :: b = (a ++ [40]) ++ b by simp, getD_right (by simp; omega)] at e
    exact hb (e ▸ mem_getD (by simp at hl ⊢; omega))
  simpa using this
theorem close_at {x : PySem.Str} {a c d : List Nat} (h : x.cps.toList = a ++ 40 :: (c ++ 41 :: d)) (hc : 41 ∉ c) : Txt.find3 x ⟨#[41]⟩ ((a.length : Int) + 1) = ((a.length + 1 + c.length : Nat) : Int) := by
  have := find3_at (x := x) (c := 41) (a := a ++ 40 :: c) (b := d) (i := a.length + 1) (by rw [h]; simp) (by simp) fun v hv hl e => by
    rw [show a ++ 40 :: c = (a ++ [40]) ++ c by simp, getD_right (by simp; omega)] at e
    exact hc (e ▸ mem_getD (by simp at hl ⊢; omega))
  simp only [List.length_append, List.length_cons] at this
  rw [show ((a.length : Int) + 1) = ((a.length + 1 : Nat) : Int) from rfl, this]
  omega
theorem first_in {a c d : List Nat} {k : Nat} : (a ++ 40 :: (k :: c ++ 41 :: d)).getD (a.length + 1) 0 = k := by
  rw [getD_right (Nat.le_add_right a.length 1), Nat.add_sub_cancel_left]; simp [List.getD_eq_getElem?_getD]
theorem last_in {a c d : List Nat} {k : Nat} : (a ++ 40 :: (k :: c ++ 41 :: d)).getD (a.length + 1 + c.length) 0 = (k :: c).getLastD 0 := by
  rw [show a ++ 40 :: (k :: c ++ 41 :: d) = (a ++ [40]) ++ ((k :: c) ++ 41 :: d) by simp, getD_right (by simp), getD_left (by simp)]
  rw [List.getLastD_eq_getLast?, List.getLast?_eq_getElem?, List.getD_eq_getElem?_getD]
  simp
theorem ends_empty {a d : List Nat} : (a ++ 40 :: ([] ++ 41 :: d)).getD (a.length + 1) 0 = 41 ∧ (a ++ 40 :: ([] ++ 41 :: d)).getD a.length 0 = 40 := by
  refine ⟨?_, getD_mid⟩
  rw [getD_right (Nat.le_add_right a.length 1), Nat.add_sub_cancel_left]; simp [List.getD_eq_getElem?_getD]
end Mine
namespace Mine
theorem splL_len (c : Nat) : ∀ l : List Nat, (splL c l).length ≤ l.length + 1
  | [] => by simp [splL]
  | k :: l => by
    have ih := splL_len c l
    unfold splL
    split
    · simp; omega
    · split
      · rename_i h t e
        rw [e] at ih
        simp at ih ⊢; omega
      · simp
end Mine
namespace Mine
theorem splL_part {c : Nat} : ∀ {l p : List Nat}, p ∈ splL c l → p.length ≤ l.length
  | [], p, h => by simp [splL] at h; subst h; simp
  | k :: l, p, h => by
    have ih := @splL_part c l
    unfold splL at h
    split at h
    · rcases List.mem_cons.mp h with rfl | h
      · simp
      · have := ih h; simp; omega
    · split at h
      · rename_i hd tl e
        rcases List.mem_cons.mp h with rfl | h
        · have := @ih hd (by rw [e]; simp); simp; omega
        · have := @ih p (by rw [e]; simp [h]); simp; omega
      · simp at h; subst h; simp
theorem splL_mem {c : Nat} : ∀ {l p : List Nat}, p ∈ splL c l → ∀ {k : Nat}, k ∈ p → k ∈ l
  | [], p, h, k, hk => by simp [splL] at h; subst h; exact hk
  | a :: l, p, h, k, hk => by
    have ih := @splL_mem c l
    unfold splL at h
    split at h
    · rcases List.mem_cons.mp h with rfl | h
      · cases hk
      · exact .tail _ (ih h hk)
    · split at h
      · rename_i hd tl e
        rcases List.mem_cons.mp h with rfl | h
        · rcases List.mem_cons.mp hk with rfl | hk
          · exact .head _
          · exact .tail _ (@ih hd (by rw [e]; simp) k hk)
        · exact .tail _ (@ih p (by rw [e]; simp [h]) k hk)
      · simp at h; subst h; rw [List.mem_singleton] at hk; subst hk; exact .head _
end Mine

open PySem PySem.W PyProof.Rows PySem.Calls
set_option Elab.async false
set_option linter.all false
set_option maxRecDepth 100000
namespace Mine
noncomputable def goods : List PySem.Str := ["229 ready (|||P|)", "229 (!!!P!) not (|||7|)", "229 (.@.P.)", "229(xaxbxPx)", "229 (|||@# 00P@|)", "229 ((((P()", "229 (   +P )", "229 (,,,0_P,)", "229 (|||-M|)", "229-any (;;;P;)"]
noncomputable def bads : List PySem.Str := ["r227 (|||P|)", "r22", "r", "r 229 (|||P|)", "r@229 (|||P|)", "r329 (|||P|)", "r219 (|||P|)", "p229 (.@..P.)", "p229 |||P|", "p229 2P2)", "p229 (|||P|", "p229 (", "p229 ()", "p229 (|)", "p229 )|||P|(", "p229 (@@@P@)", "p229 (|||P|!)", "p229 (||P|)", "p229 (|||P||)", "v229 (|||Px|)", "v229 (||||)", "v229 (|||P P|)", "v229 (|||P.0|)"]
noncomputable def badAt (cell : Int) : Nat := (cell / 600 % 23).toNat
noncomputable def goodAt (cell : Int) : Nat := (cell / 600 % 10).toNat
noncomputable def dressOf (cell : Int) (spoiled : Bool) : PySem.Str := if spoiled then bads.getD (badAt cell) Str.empty else Str.ofString "g" ++ goods.getD (goodAt cell) Str.empty
theorem badAt_lt (c : Int) : badAt c < 23 := (Int.toNat_lt (Int.emod_nonneg _ (by decide))).mpr (Int.emod_lt_of_pos _ (by decide))
theorem goodAt_lt (c : Int) : goodAt c < 10 := (Int.toNat_lt (Int.emod_nonneg _ (by decide))).mpr (Int.emod_lt_of_pos _ (by decide))
theorem good_len : ∀ x ∈ goods, x.length ≤ 30 := by decide
theorem bad_len : ∀ x ∈ bads, x.length ≤ 30 := by decide
section
variable {Z : Zone}
theorem evs_scons {A : Around} {env : Env} {O : Addr → Prop} {B : Addr → Obj → Prop} {own : List (Addr × List D)} {ρ : Rho} {pos p : Pos} {y : PySem.Str} {k : Nat} {es : List PySem.Expr} {ds : List D} (h2 : Evs Z A env O B own ρ pos es ds) : Evs Z A env O B own ρ pos (.Constant (.str y) k p :: es) (.str y :: ds) := evs_cons ev_str h2 rfl
theorem fn_law_dress (G : ZL Z) {cell : Int} {sp : Bool} : Fn Z 167 5 [.int cell, .bool sp] (.str (dressOf cell sp)) := .mk <| by
  intro A O s vs hA hdep W r
  have r' := r
  simp only [Reps] at r'
  obtain ⟨v1, _, rfl, r1, v2, _, rfl, r2, rfl⟩ := r'
  refine fn_enterP (ns := ["cell", "spoiled"]) G.toZoneOk W (dep0 hdep) (G.K 167 _ rfl) rfl (codeRec_of (Frag.In.keeps G.K W.zone) rfl) rfl rfl (by decide) (by decide) (by decide) rfl rfl rfl r (fun _ => rfl) ?_
  intro L h₁ t₁ X Q E k
  refine x_assign X (d := .lst (goods.map .str)) (ev_lst (evs_scons (evs_scons (evs_scons (evs_scons (evs_scons (evs_scons (evs_scons (evs_scons (evs_scons (evs_scons evs_nil)))))))))) (by simp [sizeLine, goods])) asg_store fun h₂ t₂ X₂ => ?_
  refine x_assign X₂ (d := .lst (bads.map .str)) (ev_lst (evs_scons (evs_scons (evs_scons (evs_scons (evs_scons (evs_scons (evs_scons (evs_scons (evs_scons (evs_scons (evs_scons (evs_scons (evs_scons (evs_scons (evs_scons (evs_scons (evs_scons (evs_scons (evs_scons (evs_scons (evs_scons (evs_scons (evs_scons evs_nil))))))))))))))))))))))) (by simp [sizeLine, bads])) asg_store fun h₃ t₃ X₃ => ?_
  have hb := badAt_lt cell
  have hg := goodAt_lt cell
  have e1 : ((cell.fdiv 600).fmod 23) = ((badAt cell : Nat) : Int) := by
    rw [Int.fdiv_eq_ediv_of_nonneg _ (by decide), Int.fmod_eq_emod_of_nonneg _ (by decide)]
    exact mod_n (by decide)
  have e2 : ((cell.fdiv 600).fmod 10) = ((goodAt cell : Nat) : Int) := by
    rw [Int.fdiv_eq_ediv_of_nonneg _ (by decide), Int.fmod_eq_emod_of_nonneg _ (by decide)]
    exact mod_n (by decide)
  have g1 : bads[badAt cell]? = some (bads.getD (badAt cell) Str.empty) := by
    rw [List.getD_eq_getElem?_getD, List.getElem?_eq_getElem (show badAt cell < bads.length from hb)]; rfl
  have g2 : goods[goodAt cell]? = some (goods.getD (goodAt cell) Str.empty) := by
    rw [List.getD_eq_getElem?_getD, List.getElem?_eq_getElem (show goodAt cell < goods.length from hg)]; rfl
  refine x_ret X₃ (d := .str (dressOf cell sp)) (ev_ife (tst_bool (ev_local rfl)) (fun hb' => ?_) fun hb' => ?_) fun v h' tk X' r' => k v h' tk _ _ X' r'
  · subst hb'
    exact ev_item (k := ((badAt cell : Nat) : Int)) (ev_local rfl) (Ev.cast (ev_bin (ev_bin (ev_local rfl) ev_int (op_div (by decide) (by decide))) ev_int (op_mod (by decide))) (by rw [e1])) (Int.natCast_nonneg _) (nat_up (badAt_lt cell)) (by
      simp only [Int.toNat_natCast, List.getElem?_map, g1]; rfl)
  · subst hb'
    exact ev_bin ev_str (ev_item (k := ((goodAt cell : Nat) : Int)) (d := .str (goods.getD (goodAt cell) Str.empty)) (ev_local rfl) (Ev.cast (ev_bin (ev_bin (ev_local rfl) ev_int (op_div (by decide) (by decide))) ev_int (op_mod (by decide))) (by rw [e2])) (Int.natCast_nonneg _) (nat_up (goodAt_lt cell)) (by
      simp only [Int.toNat_natCast, List.getElem?_map, g2]; rfl)) (op_adds (by
        have := good_len _ (List.mem_of_getElem? g2)
        have h1 : (Str.ofString "g").length = 1 := by decide
        simp only [sizeLine]
        omega))
end
end Mine

open PySem
set_option Elab.async false
set_option linter.all false
set_option maxRecDepth 100000
namespace Mine
noncomputable def textS (dress : PySem.Str) (n m : Int) : PySem.Str := Txt.replace (Txt.replace (Txt.slice dress (some 1) none) "P" (toString n)) "M" (toString m)
noncomputable def endS (k : Nat) : PySem.Str := if k = 0 then "\n" else if k = 1 then "\r" else "\r\n"
noncomputable def rowS (dress : PySem.Str) (n m : Int) (e : Nat) : PySem.Str := Txt.replace (Txt.replace (textS dress n m) "@" (endS e)) "#" (endS ((e + 1) % 3))
noncomputable def sentS (dress : PySem.Str) (n m : Int) : PySem.Str := Txt.replace (Txt.replace (Txt.replace (textS dress n m) "@." "\r\n..") "@" "\r\n") "#" "\r\n"
/-- the mould of a row once sent -/
noncomputable def sentT (T : List Nat) : List Nat := rep 35 [13, 10] (rep 64 [13, 10] (rep2 64 46 [13, 10, 46, 46] T))
theorem rep_flat (c : Nat) (z : List Nat) (f : Nat → List Nat) : ∀ T : List Nat, rep c z (T.flatMap f) = T.flatMap fun k => rep c z (f k)
  | [] => rfl
  | k :: T => by rw [List.flatMap_cons, rep_append, rep_flat c z f T, List.flatMap_cons]
theorem flat_congr {f g : Nat → List Nat} (h : ∀ k, f k = g k) (T : List Nat) : T.flatMap f = T.flatMap g := by rw [show f = g from funext h]
theorem rep_single (c : Nat) (z : List Nat) (k : Nat) : rep c z [k] = if k = c then z else [k] := by simp [rep]
/-- no character of a number is one of these -/
structure NumL (l : List Nat) : Prop where
  ne : l ≠ []
  all : ∀ c ∈ l, 48 ≤ c ∧ c ≤ 57
theorem NumL.free {l : List Nat} (h : NumL l) {c : Nat} (hc : c < 48 ∨ 57 < c) : c ∉ l := fun hm => by
  have := h.all c hm
  omega
theorem NumL.plain {l : List Nat} (h : NumL l) : Plain3 l := ⟨h.ne, fun c hc => by have := h.all c hc; omega⟩
section
variable {dP dM : List Nat}
theorem text_list {dress : PySem.Str} {n m : Int} (h1 : 1 ≤ dress.length) (hP : NumL (dg n)) : (textS dress n m).cps.toList = (dress.cps.toList.drop 1).flatMap (sub2 (dg n) (dg m)) := by
  unfold textS
  rw [show ("M" : PySem.Str) = ⟨#[77]⟩ from rfl, show ("P" : PySem.Str) = ⟨#[80]⟩ from rfl, replace_rep, replace_rep, show (Txt.slice dress (some 1) none).cps.toList = dress.cps.toList.drop 1 from slice_from h1]
  show rep 77 (dg m) (rep 80 (dg n) _) = _
  rw [show rep 80 (dg n) (dress.cps.toList.drop 1) = (dress.cps.toList.drop 1).flatMap fun k => if k = 80 then dg n else [k] from rfl, rep_flat]
  refine flat_congr (fun k => ?_) _
  unfold sub2
  by_cases h : k = 80
  · rw [if_pos h, if_pos h, rep_free (hP.free (by omega))]
  · rw [if_neg h, if_neg h, rep_single]
theorem endS_list (k : Nat) : (endS k).cps.toList = endL k := by
  unfold endS endL
  split
  · rfl
  · split <;> rfl
theorem sub2_rep (hP : NumL dP) (hM : NumL dM) {c : Nat} {z : List Nat} (h80 : c ≠ 80) (h77 : c ≠ 77) (hc : c < 48 ∨ 57 < c) (k : Nat) : rep c z (sub2 dP dM k) = if k = 80 then dP else if k = 77 then dM else if k = c then z else [k] := by
  unfold sub2
  by_cases h : k = 80
  · rw [if_pos h, if_pos h, rep_free (hP.free hc)]
  · rw [if_neg h, if_neg h]
    by_cases h' : k = 77
    · rw [if_pos h', if_pos h', rep_free (hM.free hc)]
    · rw [if_neg h', if_neg h', rep_single]
theorem row_list {dress : PySem.Str} {n m : Int} {e : Nat} (h1 : 1 ≤ dress.length) (hP : NumL (dg n)) (hM : NumL (dg m)) : (rowS dress n m e).cps.toList = (dress.cps.toList.drop 1).flatMap (sub4 (dg n) (dg m) (endL e) (endL ((e + 1) % 3))) := by
  unfold rowS
  rw [show ("#" : PySem.Str) = ⟨#[35]⟩ from rfl, show ("@" : PySem.Str) = ⟨#[64]⟩ from rfl, replace_rep, replace_rep, text_list h1 hP, endS_list, endS_list, rep_flat, rep_flat]
  refine flat_congr (fun k => ?_) _
  rw [sub2_rep hP hM (by decide) (by decide) (by decide)]
  unfold sub4
  by_cases h : k = 80
  · rw [if_pos h, if_pos h, rep_free (hP.free (by decide))]
  · rw [if_neg h, if_neg h]
    by_cases h' : k = 77
    · rw [if_pos h', if_pos h', rep_free (hM.free (by decide))]
    · rw [if_neg h', if_neg h']
      by_cases h2 : k = 64
      · rw [if_pos h2, if_pos h2, rep_free]
        unfold endL
        split
        · decide
        · split <;> decide
      · rw [if_neg h2, if_neg h2, rep_single]
theorem rep2_pre {a b : Nat} {z : List Nat} : ∀ {l : List Nat} (X : List Nat), a ∉ l → rep2 a b z (l ++ X) = l ++ rep2 a b z X
  | [], X, _ => rfl
  | c :: l, X, h => by
    have hc : c ≠ a := fun e => h (e ▸ .head _)
    have ih := rep2_pre (b := b) (z := z) (l := l) X fun hm => h (.tail _ hm)
    rw [List.cons_append, List.cons_append, ← ih]
    cases e : l ++ X with
    | nil => simp [rep2]
    | cons d r => rw [rep2, if_neg fun q => hc q.1]
theorem rep2_hd {a b : Nat} {z X : List Nat} (h : X.head? ≠ some b) : rep2 a b z (a :: X) = a :: rep2 a b z X := by
  cases X with
  | nil => simp [rep2]
  | cons d r => rw [rep2, if_neg fun q => h (by rw [q.2]; rfl)]
theorem sub2_head (hP : NumL dP) (hM : NumL dM) {d : Nat} (hd : d ≠ 46) (X : List Nat) : (sub2 dP dM d ++ X).head? ≠ some 46 := by
  unfold sub2
  split
  · cases h : dP with
    | nil => exact absurd h hP.ne
    | cons c r =>
      intro q
      simp at q
      have := hP.all c (h ▸ .head _)
      omega
  · split
    · cases h : dM with
      | nil => exact absurd h hM.ne
      | cons c r =>
        intro q
        simp at q
        have := hM.all c (h ▸ .head _)
        omega
    · simpa using hd
theorem sub2_64 (hP : NumL dP) (hM : NumL dM) {c : Nat} (h : c ≠ 64) : 64 ∉ sub2 dP dM c := by
  unfold sub2
  split
  · exact hP.free (by decide)
  · split
    · exact hM.free (by decide)
    · simpa using fun q : 64 = c => h q.symm
theorem rep2_sub2 (hP : NumL dP) (hM : NumL dM) : ∀ T : List Nat, rep2 64 46 [13, 10, 46, 46] (T.flatMap (sub2 dP dM)) = (rep2 64 46 [13, 10, 46, 46] T).flatMap (sub2 dP dM)
  | [] => rfl
  | [c] => by
    by_cases h : c = 64
    · subst h; rfl
    · rw [List.flatMap_cons, rep2_pre _ (sub2_64 hP hM h)]
      simp [rep2]
  | c :: d :: r => by
    by_cases h : c = 64 ∧ d = 46
    · obtain ⟨rfl, rfl⟩ := h
      have ih := rep2_sub2 hP hM r
      show rep2 64 46 [13, 10, 46, 46] (64 :: 46 :: r.flatMap (sub2 dP dM)) = _
      rw [rep2, if_pos ⟨rfl, rfl⟩, rep2, if_pos ⟨rfl, rfl⟩, ih, List.flatMap_append]
      rfl
    · have ih := rep2_sub2 hP hM (d :: r)
      rw [rep2, if_neg h, List.flatMap_cons (xs := d :: r), List.flatMap_cons (xs := rep2 64 46 [13, 10, 46, 46] (d :: r)), ← ih]
      by_cases hc : c = 64
      · subst hc
        have hd : d ≠ 46 := fun e => h ⟨rfl, e⟩
        show rep2 64 46 _ (64 :: (d :: r).flatMap (sub2 dP dM)) = 64 :: rep2 64 46 _ ((d :: r).flatMap (sub2 dP dM))
        rw [rep2_hd (by rw [List.flatMap_cons]; exact sub2_head hP hM hd _)]
      · exact rep2_pre _ (sub2_64 hP hM hc)
theorem rep_sub2 (hP : NumL dP) (hM : NumL dM) {c : Nat} (h80 : c ≠ 80) (h77 : c ≠ 77) (hc : c < 48 ∨ 57 < c) (T : List Nat) : rep c [13, 10] (T.flatMap (sub2 dP dM)) = (rep c [13, 10] T).flatMap (sub2 dP dM) := by
  rw [rep_flat]
  unfold rep
  rw [List.flatMap_assoc]
  refine flat_congr (fun k => ?_) T
  show rep c [13, 10] (sub2 dP dM k) = _
  rw [sub2_rep hP hM h80 h77 hc]
  by_cases h : k = c
  · subst h
    rw [if_neg h80, if_neg h77, if_pos rfl]; rfl
  · rw [if_neg h]
    simp [sub2]
theorem sent_list {dress : PySem.Str} {n m : Int} (h1 : 1 ≤ dress.length) (hP : NumL (dg n)) (hM : NumL (dg m)) : (sentS dress n m).cps.toList = (sentT (dress.cps.toList.drop 1)).flatMap (sub2 (dg n) (dg m)) := by
  unfold sentS sentT
  rw [show ("#" : PySem.Str) = ⟨#[35]⟩ from rfl, show ("@." : PySem.Str) = ⟨#[64, 46]⟩ from rfl, show ("@" : PySem.Str) = ⟨#[64]⟩ from rfl, replace_rep, replace_rep, replace_two, text_list h1 hP]
  rw [show ("\r\n..": PySem.Str).cps.toList = [13, 10, 46, 46] from rfl, show ("\r\n": PySem.Str).cps.toList = [13, 10] from rfl, rep2_sub2 hP hM, rep_sub2 hP hM (by decide) (by decide) (by decide), rep_sub2 hP hM (by decide) (by decide) (by decide)]
end
end Mine

open PySem
set_option Elab.async false
set_option linter.all false
set_option maxRecDepth 100000
namespace Mine
theorem cutAt_pre {c : Nat} : ∀ {l : List Nat} (X : List Nat), c ∉ l → cutAt c (l ++ X) = (cutAt c X).map fun p => (l ++ p.1, p.2)
  | [], X, _ => by cases h : cutAt c X <;> simp [h]
  | k :: l, X, h => by
    have hk : k ≠ c := fun e => h (e ▸ .head _)
    rw [List.cons_append, cutAt, if_neg hk, cutAt_pre (l := l) X fun hm => h (.tail _ hm)]
    cases cutAt c X <;> rfl
section
variable {dP dM : List Nat}
theorem sub2_not (hP : NumL dP) (hM : NumL dM) {c k : Nat} (hc : c < 48 ∨ 57 < c) (h : k ≠ c) : c ∉ sub2 dP dM k := by
  unfold sub2
  split
  · exact hP.free hc
  · split
    · exact hM.free hc
    · simpa using fun q : c = k => h q.symm
theorem sub2_one {c : Nat} (h80 : c ≠ 80) (h77 : c ≠ 77) : sub2 dP dM c = [c] := by simp [sub2, h80, h77]
theorem cutAt_sub (hP : NumL dP) (hM : NumL dM) {c : Nat} (h80 : c ≠ 80) (h77 : c ≠ 77) (hc : c < 48 ∨ 57 < c) : ∀ S : List Nat, cutAt c (S.flatMap (sub2 dP dM)) = (cutAt c S).map fun p => (p.1.flatMap (sub2 dP dM), p.2.flatMap (sub2 dP dM))
  | [] => rfl
  | k :: S => by
    rw [List.flatMap_cons, cutAt]
    by_cases h : k = c
    · subst h
      rw [if_pos rfl, sub2_one h80 h77]
      show cutAt k (k :: _) = _
      rw [cutAt, if_pos rfl]; rfl
    · rw [if_neg h, cutAt_pre _ (sub2_not hP hM hc h), cutAt_sub hP hM h80 h77 hc S]
      cases cutAt c S <;> rfl
theorem splL_sub (hP : NumL dP) (hM : NumL dM) {c : Nat} (h80 : c ≠ 80) (h77 : c ≠ 77) (hc : c < 48 ∨ 57 < c) : ∀ (n : Nat) (S : List Nat), S.length ≤ n → splL c (S.flatMap (sub2 dP dM)) = (splL c S).map (·.flatMap (sub2 dP dM)) := by
  intro n
  induction n with
  | zero =>
    intro S h
    cases S with
    | nil => rfl
    | cons k S => simp at h
  | succ n ih =>
    intro S h
    have e := cutAt_sub hP hM h80 h77 hc S
    cases hx : cutAt c S with
    | none =>
      rw [hx] at e
      rw [splL_free (cutAt_none e), splL_free (cutAt_none hx)]; rfl
    | some p =>
      obtain ⟨a, b⟩ := p
      rw [hx] at e
      obtain ⟨e1, n1⟩ := cutAt_some hx
      obtain ⟨e2, n2⟩ := cutAt_some e
      rw [e2, e1, splL_cut _ n2, splL_cut _ n1, ih b (by rw [e1] at h; simp at h; omega)]; rfl
theorem take_sub {S : List Nat} (h : ∀ k ∈ S.take 3, k ≠ 80 ∧ k ≠ 77) : (S.flatMap (sub2 dP dM)).take 3 = S.take 3 := by
  have key : ∀ l : List Nat, (∀ k ∈ l, k ≠ 80 ∧ k ≠ 77) → l.flatMap (sub2 dP dM) = l := fun l => by
    induction l with
    | nil => intro _; rfl
    | cons k l ih =>
      intro h
      rw [List.flatMap_cons, sub2_one (h k (.head _)).1 (h k (.head _)).2, ih fun x hx => h x (.tail _ hx)]; rfl
  have e : S.flatMap (sub2 dP dM) = S.take 3 ++ (S.drop 3).flatMap (sub2 dP dM) := by
    conv => lhs; rw [← List.take_append_drop 3 S]
    rw [List.flatMap_append, key _ h]
  rw [e]
  by_cases hl : 3 ≤ S.length
  · rw [List.take_append_of_le_length (by simp; omega), List.take_take]; rfl
  · have : S.drop 3 = [] := List.drop_of_length_le (by omega)
    rw [this, List.flatMap_nil, List.append_nil, List.take_take]; rfl
theorem last_sub : ∀ {C : List Nat} {c : Nat}, (C.getLastD c ≠ 80) → (C.getLastD c ≠ 77) → C ≠ [] → (C.flatMap (sub2 dP dM)).getLastD c = C.getLastD c := fun {C} c h1 h2 hne => by
  rw [← List.dropLast_concat_getLast hne] at h1 h2 ⊢
  generalize C.dropLast = D at *
  generalize C.getLast hne = l at *
  rw [List.getLastD_concat] at h1 h2 ⊢
  rw [List.flatMap_append, List.flatMap_cons, sub2_one h1 h2]
  show (D.flatMap (sub2 dP dM) ++ [l]).getLastD c = l
  rw [List.getLastD_concat]
/-- what parse229 makes of a mould -/
inductive TRes where
  | reply
  | proto
  | part (Q : List Nat)
noncomputable def parseT (S : List Nat) : Option TRes :=
  if ¬ ∀ k ∈ S.take 3, k ≠ 80 ∧ k ≠ 77 then none else
  if S.take 3 ≠ [50, 50, 57] then some .reply else
  match cutAt 40 S with
  | none => some .proto
  | some (_, B) => match cutAt 41 B with
    | none => some .proto
    | some (C, _) => match C with
      | [] => some .proto
      | c :: r => if c = 80 ∨ c = 77 ∨ ¬ (c < 48 ∨ 57 < c) ∨ (c :: r).getLastD 0 = 80 ∨ (c :: r).getLastD 0 = 77 then none else
        if c ≠ (c :: r).getLastD 0 then some .proto else
        if (splL c (c :: r)).length ≠ 5 then some .proto else some (.part ((splL c (c :: r)).getD 3 []))
noncomputable def ofT (dP dM : List Nat) : TRes → PRes
  | .reply => .reply
  | .proto => .proto
  | .part Q => match PySem.intText? ⟨(Q.flatMap (sub2 dP dM)).toArray⟩ with
    | some n => .ok n
    | none => .value
theorem parse_sub (hP : NumL dP) (hM : NumL dM) {S : List Nat} {t : TRes} (h : parseT S = some t) : parseL (S.flatMap (sub2 dP dM)) = ofT dP dM t := by
  unfold parseT at h
  split at h
  · cases h
  rename_i h3
  have h3 := Classical.not_not.mp h3
  unfold parseL
  rw [take_sub h3]
  split at h
  · rename_i hr
    cases h
    rw [if_pos hr]; rfl
  rename_i hr
  rw [if_neg hr, cutAt_sub hP hM (by decide) (by decide) (by decide)]
  cases h40 : cutAt 40 S with
  | none => rw [h40] at h; cases h; rfl
  | some p =>
    obtain ⟨A, B⟩ := p
    rw [h40] at h
    dsimp only [Option.map_some] at h ⊢
    rw [cutAt_sub hP hM (by decide) (by decide) (by decide)]
    cases h41 : cutAt 41 B with
    | none => rw [h41] at h; cases h; rfl
    | some p =>
      obtain ⟨C, D⟩ := p
      rw [h41] at h
      dsimp only [Option.map_some] at h ⊢
      cases C with
      | nil => cases h; rfl
      | cons c r =>
        dsimp only at h
        split at h
        · cases h
        rename_i hc
        simp only [not_or, Classical.not_not] at hc
        obtain ⟨c1, c2, c3, c4, c5⟩ := hc
        have c3 : c < 48 ∨ 57 < c := by omega
        have e1 : (c :: r).flatMap (sub2 dP dM) = c :: r.flatMap (sub2 dP dM) := by rw [List.flatMap_cons, sub2_one c1 c2]; rfl
        have e2 := last_sub (dP := dP) (dM := dM) c4 c5 (by simp)
        have e3 := splL_sub hP hM c1 c2 c3 _ (c :: r) (Nat.le_refl _)
        rw [e1] at e2 e3 ⊢
        dsimp only
        rw [e2, e3]
        split at h
        · rename_i hl
          cases h
          rw [if_pos hl]; rfl
        rename_i hl
        rw [if_neg hl, List.length_map]
        split at h
        · rename_i h5
          cases h
          rw [if_pos h5]; rfl
        rename_i h5
        cases h
        rw [if_neg h5]
        have e4 : ((splL c (c :: r)).map (·.flatMap (sub2 dP dM))).getD 3 [] = ((splL c (c :: r)).getD 3 []).flatMap (sub2 dP dM) := by
          rw [List.getD_eq_getElem?_getD, List.getElem?_map, List.getD_eq_getElem?_getD]
          cases (splL c (c :: r))[3]? <;> rfl
        rw [e4]
        unfold ofT
        rfl
end
end Mine

open PySem PySem.W PyProof.Rows PySem.Calls
set_option Elab.async false
set_option linter.all false
set_option maxRecDepth 100000
namespace Mine
section
variable {Z : Zone} {A : Around} {env : Env} {O O' : Addr → Prop} {B : Addr → Obj → Prop} {own own' : List (Addr × List D)} {ρ ρ' : Rho} {s : Shared} {E : Value → Shared → Prop} {h' h₁ : Heap} {tk t₁ : Nat}
/-- int(a text) -/
theorem ev_inttext {f e : PySem.Expr} {pos : Pos} {x : PySem.Str} {n : Int} (hf : Ev Z A env O B own ρ f (.val (.type "int"))) (h1 : Ev Z A env O B own ρ e (.str x)) (hn : PySem.intText? x = some n) (hl : x.length ≤ 640)
    (he : eval (.Call f [e] [] pos) env = (do callWith pos (← eval f env) [] (backTo pos (starEach [e] env)) (backToKw pos (keywordEach [] env))) := by rfl) (s1 : starEach [e] env = (false, eval e env) :: starEach [] env := by rfl) :
    Ev Z A env O B own ρ (.Call f [e] [] pos) (.int n) :=
  ev_callT hf (evs_cons h1 evs_nil s1) (fun s vs W r Q E k => by
    simp only [Reps, Rep] at r
    obtain ⟨_, _, rfl, ⟨t, rfl⟩, rfl⟩ := r
    exact KIN.call_text hn hl (k _ s.heap _ (Grow.refl W.tabs) (Nat.le_succ _) (by simp only [Rep]; exact ⟨_, rfl⟩))) he s1 rfl
/-- sep.join(an own list of strings) -/
theorem reps_to_strs {h : Heap} {T : Nat} : ∀ {xs : List PySem.Str} {vs : List Value}, Reps O h T (xs.map .str) vs → ∃ l : List (PySem.Str × Tok), vs = strValues l ∧ l.map (·.1) = xs
  | [], vs, r => by simp only [List.map_nil, Reps] at r; exact ⟨[], r, rfl⟩
  | x :: xs, vs, r => by
    simp only [List.map_cons, Reps, Rep] at r
    obtain ⟨v, rs, rfl, ⟨t, rfl⟩, r2⟩ := r
    obtain ⟨l, e, e2⟩ := reps_to_strs r2
    exact ⟨(x, t) :: l, by rw [e]; rfl, by rw [← e2]; rfl⟩
theorem ev_joinO {o e : PySem.Expr} {apos pos : Pos} {pl : Sem Bool} {x : PySem.Str} {a : Addr} {xs : List PySem.Str} (ho : Ev Z A env O B own ρ o (.str x)) (h1 : Ev Z A env O B own ρ e (.val (.ref a))) (hm : (a, xs.map D.str) ∈ own) (hok : JoinOk x xs = true)
    (he : eval (.Call (.Attribute o (Str.ofString "join") apos) [e] [] pos) env = (do
      let ov ← eval o env
      standAt apos.atName
      let (f, first) ← holding [ov] (getMethod ov (Str.ofString "join") pl)
      callWith pos f first (backTo pos (starEach [e] env)) []) := by rfl)
    (hs : starEach [e] env = (false, eval e env) :: starEach [] env := by rfl) : Ev Z A env O B own ρ (.Call (.Attribute o (Str.ofString "join") apos) [e] [] pos) (.str (Txt.join x xs)) := .mk fun s X Q E k => by
  refine MethodCall_ (pl := pl) (ho.run s X _ _ fun v h₁ t₁ g₁ le₁ r₁ => ?_) he
  obtain ⟨t, rfl⟩ := r₁.strs
  refine GM.join ?_
  have X₁ := X.grow g₁ le₁
  have ha2 := (evs_cons (pos := pos) h1 evs_nil hs).run _ X₁
  rw [hs] at ha2 ⊢
  refine callWith_builtin rfl ?_
  refine evalArgs_plain (x := eval e env) (rest := []) ?_
  refine ha2 _ _ fun ws h₂ t₂ g₂ le₂ r₂ => ?_
  simp only [Reps, Rep] at r₂
  obtain ⟨_, _, rfl, rfl, rfl⟩ := r₂
  have X₂ := X₁.grow g₂ le₂
  obtain ⟨_, vs, hl, rs⟩ := X₂.ownd _ hm
  obtain ⟨l, rfl, e2⟩ := reps_to_strs rs
  refine wpAny_with_toks (n := s.toks) (Nat.le_trans le₁ le₂) (SC.join hl.isList e2 hok fun t' tk' => fun le => ?_)
  exact k _ h₂ tk' (g₁.trans g₂) le (by simp only [Rep]; exact ⟨_, rfl⟩)
end
end Mine

open PySem
set_option Elab.async false
set_option linter.all false
set_option maxRecDepth 100000
namespace Mine
open PySem.NumText
noncomputable def intA (cs : List Nat) : Option Int := match digits? 10 (core cs) with
  | some ds => if ds.size ≤ 4300 then some (worth (sign (cs.dropWhile blank)).1 ds) else none
  | none => none
theorem int_asc {L : List Nat} (h : ∀ c ∈ L, 0 < c ∧ c < 128) : PySem.intText? ⟨L.toArray⟩ = intA L := by
  have e1 : numTextOf ⟨L.toArray⟩ = L := by
    refine (if_pos ?_).trans rfl
    rw [← Array.all_toList, List.all_eq_true]
    intro c hc
    exact decide_eq_true (h c (by simpa using hc)).2
  have e2 : numSeenOf ⟨L.toArray⟩ = L := by
    show (numTextOf _).takeWhile _ = _
    rw [e1]
    exact takeWhile_all fun c hc => bne_iff_ne.mpr (by have := h c hc; omega)
  unfold PySem.intText?
  rw [e1, e2]
  exact if_pos (beq_self_eq_true _)
theorem num_val {n : Int} (h0 : 0 ≤ n) (h1 : n < 10 ^ 10) : NumL (dg n) ∧ ((digitsVal (dg n) : Nat) : Int) = n ∧ (dg n).length ≤ 20 := by
  have hl : (Str.ofString (toString n)).length ≤ 20 := Nat.le_trans (PySem.W.KT.len_num h0 h1) (by decide)
  have hr := PySem.W.KIN.num_reads h0 h1
  have hd : AllDigits (Str.ofString (toString n)).cps.toList := by
    obtain ⟨m, rfl⟩ := Int.eq_ofNat_of_zero_le h0
    intro c hc
    rw [PySem.W.KIN.signs_num] at hc
    obtain ⟨ch, hch, e⟩ := List.mem_map.mp hc
    have r := PyProof.Rows.digit_range (Nat.isDigit_of_mem_toDigits (by decide) (by decide) hch)
    rw [← e]
    exact r
  have hne : (Str.ofString (toString n)).cps.toList ≠ [] := fun e => by
    have e0 : Str.ofString (toString n) = ⟨#[]⟩ := str_eq (by rw [e])
    rw [e0] at hr
    have e1 : PySem.intText? ⟨([] : List Nat).toArray⟩ = none := (int_asc (by simp)).trans rfl
    rw [show (⟨([] : List Nat).toArray⟩ : PySem.Str) = ⟨#[]⟩ from rfl, hr] at e1
    cases e1
  have e := intText_digits hd hne (by omega)
  rw [hr] at e
  refine ⟨⟨hne, hd⟩, ?_, by simpa [dg, Str.length] using hl⟩
  exact (Option.some.inj e).symm
theorem NumL.digits {l : List Nat} (h : NumL l) : AllDigits l := h.all
theorem fold_num : ∀ {l : List Nat} (ds : Array Nat) (b : Bool), NumL l → l.foldlM (step 10) (ds, b) = some (l.foldl (fun acc c => acc.push (c - 48)) ds, true)
  | [], _, _, h => absurd rfl h.ne
  | c :: cs, ds, b, h => by
    rw [List.foldlM_cons, step_digit (h.all c (.head _))]
    show cs.foldlM (step 10) (ds.push (c - 48), true) = _
    exact foldl_digits cs (ds.push (c - 48)) fun x hx => h.all x (.tail _ hx)
theorem core_same {X : List Nat} {a z : Nat} {A B : List Nat} (e1 : X = a :: A) (e2 : X = B ++ [z]) (ha : 33 ≤ a) (h1 : a ≠ 45) (h2 : a ≠ 43) (hz : 33 ≤ z) : core X = X ∧ (sign (X.dropWhile blank)).1 = false := by
  have e : X.dropWhile blank = X := by rw [e1]; exact dropWhile_of ha
  have s : sign X = (false, X) := by rw [e1]; exact sign_of h1 h2
  constructor
  · unfold core
    rw [e, s]
    show (X.reverse.dropWhile blank).reverse = X
    rw [e2, List.reverse_append]
    show ((z :: B.reverse).dropWhile blank).reverse = _
    rw [dropWhile_of hz]
    simp
  · rw [e, s]
theorem num_ends {l : List Nat} (h : NumL l) : ∃ a A B z, l = a :: A ∧ l = B ++ [z] ∧ (48 ≤ a ∧ a ≤ 57) ∧ (48 ≤ z ∧ z ≤ 57) := by
  obtain ⟨ne, hd⟩ := h
  cases l with
  | nil => exact absurd rfl ne
  | cons a A => exact ⟨a, A, _, _, rfl, (List.dropLast_concat_getLast ne).symm, hd a (.head _), hd _ (List.getLast_mem ne)⟩
theorem int_of {cs : List Nat} {ds : Array Nat} {b : Bool} (h1 : digits? 10 (core cs) = some ds) (h2 : (sign (cs.dropWhile blank)).1 = b) (h3 : ds.size ≤ 4300) : intA cs = some (worth b ds) := by
  unfold intA
  rw [h1, h2]
  exact if_pos h3
theorem worth_pos (ds : Array Nat) : worth false ds = ((ds.foldl (fun acc d => acc * 10 + d) 0 : Nat) : Int) := rfl
theorem val_push (l : List Nat) (ds : Array Nat) (h : ds.foldl (fun acc d => acc * 10 + d) 0 = 0) : (l.foldl (fun acc c => acc.push (c - 48)) ds).foldl (fun acc d => acc * 10 + d) 0 = digitsVal l := by
  rw [push_foldl, h]; rfl
section
variable {l : List Nat}
theorem int_plain (h : NumL l) (hl : l.length ≤ 20) : intA l = some ((digitsVal l : Nat) : Int) := by
  obtain ⟨a, A, B, z, e1, e2, ha, hz⟩ := num_ends h
  obtain ⟨c1, c2⟩ := core_same e1 e2 (by omega) (by omega) (by omega) (by omega)
  refine (int_of (by rw [c1]; exact digits_of h.digits h.ne) c2 (by rw [push_size]; simp; omega)).trans ?_
  rw [worth_pos, val_push _ _ rfl]
theorem int_padded (h : NumL l) (hl : l.length ≤ 20) : intA ([13, 10, 13, 10, 32, 48, 48] ++ l ++ [13, 10]) = some ((digitsVal l : Nat) : Int) := by
  have h2 : NumL (48 :: 48 :: l) := ⟨by simp, fun c hc => by
    simp only [List.mem_cons] at hc
    rcases hc with rfl | rfl | hc
    · decide
    · decide
    · exact h.all c hc⟩
  have e : ([13, 10, 13, 10, 32, 48, 48] ++ l ++ [13, 10]).dropWhile blank = (48 :: 48 :: l) ++ [13, 10] := rfl
  have s : sign ((48 :: 48 :: l) ++ [13, 10]) = (false, (48 :: 48 :: l) ++ [13, 10]) := sign_of (by decide) (by decide)
  have c : core ([13, 10, 13, 10, 32, 48, 48] ++ l ++ [13, 10]) = 48 :: 48 :: l := by
    unfold core
    rw [e, s]
    show (((48 :: 48 :: l) ++ [13, 10]).reverse.dropWhile blank).reverse = _
    rw [List.reverse_append]
    show (((48 :: 48 :: l).reverse).dropWhile blank).reverse = _
    rw [dropWhile_digits h2.digits.reverse, List.reverse_reverse]
  refine (int_of (by rw [c]; exact digits_of h2.digits h2.ne) (by rw [e, s]) (by rw [push_size]; simp; omega)).trans ?_
  rw [worth_pos, val_push _ _ rfl]; rfl
theorem int_plus (h : NumL l) (hl : l.length ≤ 20) : intA (43 :: l) = some ((digitsVal l : Nat) : Int) := by
  have e : (43 :: l).dropWhile blank = 43 :: l := dropWhile_of (by decide)
  have c : core (43 :: l) = l := by
    unfold core
    rw [e]
    show (l.reverse.dropWhile blank).reverse = _
    rw [dropWhile_digits h.digits.reverse, List.reverse_reverse]
  refine (int_of (b := false) (by rw [c]; exact digits_of h.digits h.ne) (by rw [e]; rfl) (by rw [push_size]; simp; omega)).trans ?_
  rw [worth_pos, val_push _ _ rfl]
theorem int_under (h : NumL l) (hl : l.length ≤ 20) : intA (48 :: 95 :: l) = some ((digitsVal l : Nat) : Int) := by
  obtain ⟨a, A, B, z, e1, e2, ha, hz⟩ := num_ends h
  obtain ⟨c1, c2⟩ := core_same (X := 48 :: 95 :: l) (a := 48) (A := 95 :: l) (B := 48 :: 95 :: B) (z := z) rfl (by rw [e2]; rfl) (by decide) (by decide) (by decide) (by omega)
  have e : digits? 10 (48 :: 95 :: l) = some (l.foldl (fun acc c => acc.push (c - 48)) #[0]) := by
    show (l.foldlM (step 10) (#[0], false)).bind _ = _
    rw [fold_num _ _ h]; rfl
  refine (int_of (by rw [c1]; exact e) c2 (by rw [push_size]; simp; omega)).trans ?_
  rw [worth_pos, val_push _ _ rfl]
theorem int_minus (h : NumL l) (hl : l.length ≤ 20) : intA (45 :: l) = some (-((digitsVal l : Nat) : Int)) := by
  have e : (45 :: l).dropWhile blank = 45 :: l := dropWhile_of (by decide)
  have c : core (45 :: l) = l := by
    unfold core
    rw [e]
    show (l.reverse.dropWhile blank).reverse = _
    rw [dropWhile_digits h.digits.reverse, List.reverse_reverse]
  refine (int_of (b := true) (by rw [c]; exact digits_of h.digits h.ne) (by rw [e]; rfl) (by rw [push_size]; simp; omega)).trans ?_
  rw [show ∀ ds, worth true ds = -((ds.foldl (fun acc d => acc * 10 + d) 0 : Nat) : Int) from fun _ => rfl, val_push _ _ rfl]
theorem int_bad (h : NumL l) {c z : Nat} {r B : List Nat} (hc : ∀ p, step 10 p c = none) (e : l ++ c :: r = B ++ [z]) (hz : 33 ≤ z) : intA (l ++ c :: r) = none := by
  obtain ⟨a, A, _, _, e1, _, ha, _⟩ := num_ends h
  obtain ⟨c1, c2⟩ := core_same (X := l ++ c :: r) (a := a) (A := A ++ c :: r) (by rw [e1]; rfl) e (by omega) (by omega) (by omega) hz
  unfold intA
  rw [c1]
  have : digits? 10 (l ++ c :: r) = none := by
    unfold digits?
    rw [List.foldlM_append, fold_num _ _ h]
    show ((c :: r).foldlM (step 10) _).bind _ = none
    rw [List.foldlM_cons, hc]; rfl
  rw [this]
end
theorem step_x (p : Array Nat × Bool) : step 10 p 120 = none := rfl
theorem step_sp (p : Array Nat × Bool) : step 10 p 32 = none := rfl
theorem step_dot (p : Array Nat × Bool) : step 10 p 46 = none := rfl
end Mine

open PySem PySem.W PyProof.Rows PySem.Calls
set_option Elab.async false
set_option linter.all false
set_option maxRecDepth 100000
namespace Mine
open PySem.Sre (M ops accepts itemWidth)

noncomputable def C3 : Array Nat := #[14, 9, 4, 1, 2, 16, 10, 16, 13, 0, 7, 7, 16, 13, 16, 10, 15, 18, 5, 16, 10, 15, 13, 11, 16, 13, 5, 5, 0, 16, 10, 1, 15, 2, 0, 1]
noncomputable def C1 : Array Nat := #[14, 4, 0, 1, 1, 6, 1, 16, 46, 1]

/-- a machine at rest in a state -/
noncomputable def mk3 (code tx : Array Nat) (lim start lastStart pc pos handed : Nat) (outermost : Bool) (frames : List Sre.Frame) (weight : Nat) (answer : Option Bool) (seen : Sre.Seen) : M :=
  { code, text := tx, lim, start, lastStart, pc, pos, handed, outermost, marks := #[], frames, weight, answer, seen }

theorem runFor_done {m : M} (h : m.outcome.isSome) : ∀ n, m.runFor n = m
  | 0 => rfl
  | n + 1 => by show (if m.outcome.isSome then m else _) = m; rw [if_pos h]
theorem runFor_step {m : M} (h : m.outcome = none) (n : Nat) : m.runFor (n + 1) = m.step.runFor n := by
  show (if m.outcome.isSome then m else _) = _
  rw [h]; rfl
theorem runFor_add (m : M) : ∀ a b, m.runFor (a + b) = (m.runFor a).runFor b
  | 0, b => by rw [Nat.zero_add]; rfl
  | a + 1, b => by
    cases h : m.outcome with
    | none => rw [Nat.succ_add, runFor_step h, runFor_step h, runFor_add m.step a b]
    | some x =>
      have h' : m.outcome.isSome := by rw [h]; rfl
      rw [runFor_done h', runFor_done h', runFor_done h']

theorem accepts_lit {code : Array Nat} {i c : Nat} {sn : Sre.Seen} (h : code.getD i 0 = 16) : accepts code i c sn = .ok (c == code.getD (i + 1) 0, sn) := by
  unfold accepts; rw [h]; rfl
theorem width_lit {code : Array Nat} {i : Nat} (h : code.getD i 0 = 16) : itemWidth code i = 2 := by
  unfold itemWidth; rw [h]; rfl
theorem exec_lit {m : M} (h : m.word 0 = 16) : m.exec = (if m.pos ≥ m.lim then { m with seen := m.seen.add 16 }.say false else
    match accepts m.code m.pc (m.text.getD m.pos 0) (m.seen.add 16) with
    | .error why => { m with seen := m.seen.add 16 }.stick why
    | .ok (false, seen) => { m with seen }.say false
    | .ok (true, seen) => { m with seen, pc := m.pc + itemWidth m.code m.pc, pos := m.pos + 1 }) := by
  unfold M.exec; rw [h]; rfl
section
variable {tx : Array Nat} {lim start lastStart pos handed w s p : Nat} {o o' : Bool} {fr : List Sre.Frame} {sn : Sre.Seen}
theorem step_exec {code : Array Nat} {pc : Nat} (hs : pc < code.size) : (mk3 code tx lim start lastStart pc pos handed o fr w none sn).step = (mk3 code tx lim start lastStart pc pos handed o fr w none sn).exec := by
  show (if pc < code.size then _ else _) = _
  rw [if_pos hs]
theorem lit_yes {code : Array Nat} {pc c : Nat} (h0 : code.getD pc 0 = 16) (h1 : code.getD (pc + 1) 0 = c) (hs : pc < code.size) (hp : pos < lim) (hc : tx.getD pos 0 = c) :
    ∃ sn', (mk3 code tx lim start lastStart pc pos handed o fr w none sn).step = mk3 code tx lim start lastStart (pc + 2) (pos + 1) handed o fr w none sn' := by
  refine ⟨sn.add 16, ?_⟩
  rw [step_exec hs, exec_lit (m := mk3 code tx lim start lastStart pc pos handed o fr w none sn) h0]
  show (if pos ≥ lim then _ else match accepts code pc (tx.getD pos 0) (sn.add 16) with
    | .error why => _
    | .ok (false, seen) => _
    | .ok (true, seen) => _) = _
  rw [if_neg (Nat.not_le.mpr hp), accepts_lit h0, h1, hc, beq_self_eq_true]
  show mk3 code tx lim start lastStart (pc + itemWidth code pc) (pos + 1) handed o fr w none _ = _
  rw [width_lit h0]
theorem lit_no {code : Array Nat} {pc c : Nat} (h0 : code.getD pc 0 = 16) (h1 : code.getD (pc + 1) 0 = c) (hs : pc < code.size) (hc : ¬ (pos < lim ∧ tx.getD pos 0 = c)) :
    ∃ sn', (mk3 code tx lim start lastStart pc pos handed o fr w none sn).step = mk3 code tx lim start lastStart pc pos handed o fr w (some false) sn' := by
  refine ⟨sn.add 16, ?_⟩
  rw [step_exec hs, exec_lit (m := mk3 code tx lim start lastStart pc pos handed o fr w none sn) h0]
  show (if pos ≥ lim then _ else match accepts code pc (tx.getD pos 0) (sn.add 16) with
    | .error why => _
    | .ok (false, seen) => _
    | .ok (true, seen) => _) = _
  by_cases hp : pos < lim
  · rw [if_neg (Nat.not_le.mpr hp), accepts_lit h0, h1, beq_false_of_ne fun z => hc ⟨hp, z⟩]
    rfl
  · rw [if_pos (Nat.le_of_not_lt hp)]; rfl

noncomputable def Ks (pc s : Nat) (o : Bool) : Sre.Frame := { wait := .nextStart, pc, pos := s, outermost := o }
noncomputable def Br (alt s : Nat) (o : Bool) : Sre.Frame := { wait := .nextBranch, pc := alt, pos := s, outermost := o }
noncomputable def Lk (s : Nat) (o : Bool) : Sre.Frame := { wait := .lookNot, pc := 26, pos := s, outermost := o }
noncomputable def Fnd (code : Array Nat) (tx : Array Nat) (lim start lastStart pc pos handed : Nat) (o : Bool) (sn : Sre.Seen) : M :=
  { mk3 code tx lim start lastStart pc pos handed o [] 0 (some true) sn with outcome := some .matched }

theorem s3_branch : ∃ sn', (mk3 C3 tx lim start lastStart 10 pos handed o [Ks 10 start o] 1 none sn).step = mk3 C3 tx lim start lastStart 12 pos pos o [Br 11 pos o, Ks 10 start o] 2 none sn' := ⟨_, rfl⟩
theorem s3_back1 : ∃ sn', (mk3 C3 tx lim start lastStart 12 pos handed o [Br 11 s o, Ks 10 start o] 2 (some false) sn).step = mk3 C3 tx lim start lastStart 19 s s o [Br 18 s o, Ks 10 start o] 2 none sn' := ⟨_, rfl⟩
theorem s3_back1' : ∃ sn', (mk3 C3 tx lim start lastStart 14 pos handed o [Br 11 s o, Ks 10 start o] 2 (some false) sn).step = mk3 C3 tx lim start lastStart 19 s s o [Br 18 s o, Ks 10 start o] 2 none sn' := ⟨_, rfl⟩
theorem s3_back2 : ∃ sn', (mk3 C3 tx lim start lastStart 19 pos handed o [Br 18 s o, Ks 10 start o] 2 (some false) sn).step = mk3 C3 tx lim start lastStart 24 s s o [Br 23 s o, Ks 10 start o] 2 none sn' := ⟨_, rfl⟩
theorem s3_look : ∃ sn', (mk3 C3 tx lim start lastStart 26 pos handed o [Br 23 s o, Ks 10 start o] 2 none sn).step = mk3 C3 tx lim start lastStart 29 pos pos false [Lk pos o, Br 23 s o, Ks 10 start o] 3 none sn' := ⟨_, rfl⟩
theorem s3_look2 : ∃ sn', (mk3 C3 tx lim start lastStart 29 pos handed false [Lk p o, Br 23 s o, Ks 10 start o] 3 (some false) sn).step = mk3 C3 tx lim start lastStart 32 p handed o [Br 23 s o, Ks 10 start o] 2 none sn' := ⟨_, rfl⟩
theorem s3_j16 : ∃ sn', (mk3 C3 tx lim start lastStart 16 pos handed o fr w none sn).step = mk3 C3 tx lim start lastStart 35 pos handed o fr w none sn' := ⟨_, rfl⟩
theorem s3_j21 : ∃ sn', (mk3 C3 tx lim start lastStart 21 pos handed o fr w none sn).step = mk3 C3 tx lim start lastStart 35 pos handed o fr w none sn' := ⟨_, rfl⟩
theorem s3_j32 : ∃ sn', (mk3 C3 tx lim start lastStart 32 pos handed o fr w none sn).step = mk3 C3 tx lim start lastStart 35 pos handed o fr w none sn' := ⟨_, rfl⟩
theorem s3_ok : ∃ sn', (mk3 C3 tx lim start lastStart 35 pos handed o fr w none sn).step = mk3 C3 tx lim start lastStart 35 pos pos o fr w (some true) sn' := by cases o <;> exact ⟨_, rfl⟩
theorem s3_up1 {alt : Nat} {f2 : Sre.Frame} {pc : Nat} : ∃ sn', (mk3 C3 tx lim start lastStart pc pos handed o [Br alt s o, f2] 2 (some true) sn).step = mk3 C3 tx lim start lastStart alt s handed o [f2] 1 (some true) sn' := ⟨_, rfl⟩
theorem s_up2 {code : Array Nat} {pc pc' : Nat} : ∃ sn', (mk3 code tx lim start lastStart pc pos handed o [Ks pc' s o'] 1 (some true) sn).step = mk3 code tx lim start lastStart pc' s handed o' [] 0 (some true) sn' := ⟨_, rfl⟩
theorem s_up3 {code : Array Nat} {pc : Nat} : ∃ sn', (mk3 code tx lim start lastStart pc pos handed o [] 0 (some true) sn).step = Fnd code tx lim start lastStart pc pos handed o sn' := ⟨_, rfl⟩
end
end Mine

open PySem PySem.W PyProof.Rows PySem.Calls
set_option Elab.async false
set_option linter.all false
set_option maxRecDepth 100000
namespace Mine
open PySem.Sre (M ops accepts itemWidth)
section
variable {tx : Array Nat} {lim start lastStart pos handed w s p : Nat} {o o' : Bool} {fr : List Sre.Frame} {sn : Sre.Seen}
theorem Fnd.done {code : Array Nat} {pc : Nat} : (Fnd code tx lim start lastStart pc pos handed o sn).outcome.isSome := rfl
theorem rs {m m' : M} {n : Nat} (h : m.outcome = none) (e : m.step = m') : m.runFor (n + 1) = m'.runFor n := by rw [runFor_step h, e]

theorem hit3_lf (h1 : start < lim) (h2 : tx.getD start 0 = 10) : ∃ sn', (mk3 C3 tx lim start lastStart 10 start handed o [Ks 10 start o] 1 none sn).runFor 16 = Fnd C3 tx lim start lastStart 10 start (start + 1) o sn' := by
  obtain ⟨s1, e1⟩ := s3_branch (tx := tx) (lim := lim) (start := start) (lastStart := lastStart) (pos := start) (handed := handed) (o := o) (sn := sn)
  obtain ⟨s2, e2⟩ := lit_no (lastStart := lastStart) (start := start) (handed := start) (o := o) (fr := [Br 11 start o, Ks 10 start o]) (w := 2) (sn := s1) (tx := tx) (lim := lim) (pos := start) (code := C3) (pc := 12) (c := 13) rfl rfl (by decide) (by rw [h2]; exact fun z => by cases z.2)
  obtain ⟨s3, e3⟩ := s3_back1 (tx := tx) (lim := lim) (start := start) (lastStart := lastStart) (pos := start) (handed := start) (o := o) (sn := s2) (s := start)
  obtain ⟨s4, e4⟩ := lit_yes (lastStart := lastStart) (start := start) (handed := start) (o := o) (fr := [Br 18 start o, Ks 10 start o]) (w := 2) (sn := s3) (tx := tx) (lim := lim) (pos := start) (code := C3) (pc := 19) (c := 10) rfl rfl (by decide) h1 h2
  obtain ⟨s5, e5⟩ := s3_j21 (tx := tx) (lim := lim) (start := start) (lastStart := lastStart) (pos := start + 1) (handed := start) (o := o) (fr := [Br 18 start o, Ks 10 start o]) (w := 2) (sn := s4)
  obtain ⟨s6, e6⟩ := s3_ok (tx := tx) (lim := lim) (start := start) (lastStart := lastStart) (pos := start + 1) (handed := start) (o := o) (fr := [Br 18 start o, Ks 10 start o]) (w := 2) (sn := s5)
  obtain ⟨s7, e7⟩ := s3_up1 (tx := tx) (lim := lim) (start := start) (lastStart := lastStart) (pos := start + 1) (handed := start + 1) (o := o) (sn := s6) (s := start) (alt := 18) (f2 := Ks 10 start o) (pc := 35)
  obtain ⟨s8, e8⟩ := s_up2 (code := C3) (tx := tx) (lim := lim) (start := start) (lastStart := lastStart) (pos := start) (handed := start + 1) (o := o) (o' := o) (sn := s7) (s := start) (pc := 18) (pc' := 10)
  obtain ⟨s9, e9⟩ := s_up3 (code := C3) (tx := tx) (lim := lim) (start := start) (lastStart := lastStart) (pos := start) (handed := start + 1) (o := o) (sn := s8) (pc := 10)
  exact ⟨s9, by rw [rs rfl e1, rs rfl e2, rs rfl e3, rs rfl e4, rs rfl e5, rs rfl e6, rs rfl e7, rs rfl e8, rs rfl e9, runFor_done Fnd.done]⟩
theorem hit3_crlf (h1 : start + 1 < lim) (h2 : tx.getD start 0 = 13) (h3 : tx.getD (start + 1) 0 = 10) : ∃ sn', (mk3 C3 tx lim start lastStart 10 start handed o [Ks 10 start o] 1 none sn).runFor 16 = Fnd C3 tx lim start lastStart 10 start (start + 2) o sn' := by
  obtain ⟨s1, e1⟩ := s3_branch (tx := tx) (lim := lim) (start := start) (lastStart := lastStart) (pos := start) (handed := handed) (o := o) (sn := sn)
  obtain ⟨s2, e2⟩ := lit_yes (lastStart := lastStart) (start := start) (handed := start) (o := o) (fr := [Br 11 start o, Ks 10 start o]) (w := 2) (sn := s1) (tx := tx) (lim := lim) (pos := start) (code := C3) (pc := 12) (c := 13) rfl rfl (by decide) (by omega) h2
  obtain ⟨s3, e3⟩ := lit_yes (lastStart := lastStart) (start := start) (handed := start) (o := o) (fr := [Br 11 start o, Ks 10 start o]) (w := 2) (sn := s2) (tx := tx) (lim := lim) (pos := start + 1) (code := C3) (pc := 14) (c := 10) rfl rfl (by decide) h1 h3
  obtain ⟨s5, e5⟩ := s3_j16 (tx := tx) (lim := lim) (start := start) (lastStart := lastStart) (pos := start + 2) (handed := start) (o := o) (fr := [Br 11 start o, Ks 10 start o]) (w := 2) (sn := s3)
  obtain ⟨s6, e6⟩ := s3_ok (tx := tx) (lim := lim) (start := start) (lastStart := lastStart) (pos := start + 2) (handed := start) (o := o) (fr := [Br 11 start o, Ks 10 start o]) (w := 2) (sn := s5)
  obtain ⟨s7, e7⟩ := s3_up1 (tx := tx) (lim := lim) (start := start) (lastStart := lastStart) (pos := start + 2) (handed := start + 2) (o := o) (sn := s6) (s := start) (alt := 11) (f2 := Ks 10 start o) (pc := 35)
  obtain ⟨s8, e8⟩ := s_up2 (code := C3) (tx := tx) (lim := lim) (start := start) (lastStart := lastStart) (pos := start) (handed := start + 2) (o := o) (o' := o) (sn := s7) (s := start) (pc := 11) (pc' := 10)
  obtain ⟨s9, e9⟩ := s_up3 (code := C3) (tx := tx) (lim := lim) (start := start) (lastStart := lastStart) (pos := start) (handed := start + 2) (o := o) (sn := s8) (pc := 10)
  exact ⟨s9, by rw [rs rfl e1, rs rfl e2, rs rfl e3, rs rfl e5, rs rfl e6, rs rfl e7, rs rfl e8, rs rfl e9, runFor_done Fnd.done]⟩
theorem hit3_cr (h1 : start < lim) (h2 : tx.getD start 0 = 13) (h3 : ¬ (start + 1 < lim ∧ tx.getD (start + 1) 0 = 10)) : ∃ sn', (mk3 C3 tx lim start lastStart 10 start handed o [Ks 10 start o] 1 none sn).runFor 16 = Fnd C3 tx lim start lastStart 10 start (start + 1) o sn' := by
  obtain ⟨s1, e1⟩ := s3_branch (tx := tx) (lim := lim) (start := start) (lastStart := lastStart) (pos := start) (handed := handed) (o := o) (sn := sn)
  obtain ⟨s2, e2⟩ := lit_yes (lastStart := lastStart) (start := start) (handed := start) (o := o) (fr := [Br 11 start o, Ks 10 start o]) (w := 2) (sn := s1) (tx := tx) (lim := lim) (pos := start) (code := C3) (pc := 12) (c := 13) rfl rfl (by decide) h1 h2
  obtain ⟨s3, e3⟩ := lit_no (lastStart := lastStart) (start := start) (handed := start) (o := o) (fr := [Br 11 start o, Ks 10 start o]) (w := 2) (sn := s2) (tx := tx) (lim := lim) (pos := start + 1) (code := C3) (pc := 14) (c := 10) rfl rfl (by decide) h3
  obtain ⟨s4, e4⟩ := s3_back1' (tx := tx) (lim := lim) (start := start) (lastStart := lastStart) (pos := start + 1) (handed := start) (o := o) (sn := s3) (s := start)
  obtain ⟨s5, e5⟩ := lit_no (lastStart := lastStart) (start := start) (handed := start) (o := o) (fr := [Br 18 start o, Ks 10 start o]) (w := 2) (sn := s4) (tx := tx) (lim := lim) (pos := start) (code := C3) (pc := 19) (c := 10) rfl rfl (by decide) (by rw [h2]; exact fun z => by cases z.2)
  obtain ⟨s6, e6⟩ := s3_back2 (tx := tx) (lim := lim) (start := start) (lastStart := lastStart) (pos := start) (handed := start) (o := o) (sn := s5) (s := start)
  obtain ⟨s7, e7⟩ := lit_yes (lastStart := lastStart) (start := start) (handed := start) (o := o) (fr := [Br 23 start o, Ks 10 start o]) (w := 2) (sn := s6) (tx := tx) (lim := lim) (pos := start) (code := C3) (pc := 24) (c := 13) rfl rfl (by decide) h1 h2
  obtain ⟨s8, e8⟩ := s3_look (tx := tx) (lim := lim) (start := start) (lastStart := lastStart) (pos := start + 1) (handed := start) (o := o) (sn := s7) (s := start)
  obtain ⟨s9, e9⟩ := lit_no (lastStart := lastStart) (start := start) (handed := start + 1) (o := false) (fr := [Lk (start + 1) o, Br 23 start o, Ks 10 start o]) (w := 3) (sn := s8) (tx := tx) (lim := lim) (pos := start + 1) (code := C3) (pc := 29) (c := 10) rfl rfl (by decide) h3
  obtain ⟨s10, e10⟩ := s3_look2 (tx := tx) (lim := lim) (start := start) (lastStart := lastStart) (pos := start + 1) (handed := start + 1) (o := o) (sn := s9) (s := start) (p := start + 1)
  obtain ⟨s11, e11⟩ := s3_j32 (tx := tx) (lim := lim) (start := start) (lastStart := lastStart) (pos := start + 1) (handed := start + 1) (o := o) (fr := [Br 23 start o, Ks 10 start o]) (w := 2) (sn := s10)
  obtain ⟨s12, e12⟩ := s3_ok (tx := tx) (lim := lim) (start := start) (lastStart := lastStart) (pos := start + 1) (handed := start + 1) (o := o) (fr := [Br 23 start o, Ks 10 start o]) (w := 2) (sn := s11)
  obtain ⟨s13, e13⟩ := s3_up1 (tx := tx) (lim := lim) (start := start) (lastStart := lastStart) (pos := start + 1) (handed := start + 1) (o := o) (sn := s12) (s := start) (alt := 23) (f2 := Ks 10 start o) (pc := 35)
  obtain ⟨s14, e14⟩ := s_up2 (code := C3) (tx := tx) (lim := lim) (start := start) (lastStart := lastStart) (pos := start) (handed := start + 1) (o := o) (o' := o) (sn := s13) (s := start) (pc := 23) (pc' := 10)
  obtain ⟨s15, e15⟩ := s_up3 (code := C3) (tx := tx) (lim := lim) (start := start) (lastStart := lastStart) (pos := start) (handed := start + 1) (o := o) (sn := s14) (pc := 10)
  exact ⟨s15, by rw [rs rfl e1, rs rfl e2, rs rfl e3, rs rfl e4, rs rfl e5, rs rfl e6, rs rfl e7, rs rfl e8, rs rfl e9, rs rfl e10, rs rfl e11, rs rfl e12, rs rfl e13, rs rfl e14, rs rfl e15, runFor_done Fnd.done]⟩

/-- the first set looks for a line end -/
theorem set3 (c : Nat) (sn : Sre.Seen) : ∃ sn', Sre.inSet C3 c C3.size 5 true sn = .ok (c == 10 || c == 13, sn') := by
  have e : Sre.inSet C3 c C3.size 5 true sn = if c == 10 then .ok (true, sn.add 16) else if c == 13 then .ok (true, (sn.add 16).add 16) else .ok (false, ((sn.add 16).add 16).add 0) := rfl
  rw [e]
  by_cases h : c = 10
  · subst h; exact ⟨_, rfl⟩
  · by_cases h2 : c = 13
    · subst h2; exact ⟨_, rfl⟩
    · rw [if_neg (by simpa using h), if_neg (by simpa using h2)]
      exact ⟨_, by simp [h, h2]; rfl⟩
end
end Mine

open PySem PySem.W PyProof.Rows PySem.Calls
set_option Elab.async false
set_option linter.all false
set_option maxRecDepth 100000
namespace Mine
open PySem.Sre (M ops accepts itemWidth)
section
variable {tx : Array Nat} {lim start lastStart pos handed w s p : Nat} {o o' must : Bool} {fr : List Sre.Frame} {sn : Sre.Seen}

noncomputable def ini (code : Array Nat) (tx : Array Nat) (lim pos lastStart pc : Nat) (must : Bool) (sn : Sre.Seen) : M := { mk3 code tx lim pos lastStart pc pos pos true [] 0 none sn with mustAdvance := must }
theorem search3_eq : Sre.forSearch C3 tx 0 pos lim must = if (decide (pos > lim) || decide (lim - pos < 1)) then (ini C3 tx lim pos 0 10 must (({} : Sre.Seen).add 14)).say false else (ini C3 tx lim pos lim 10 must (({} : Sre.Seen).add 14)).attemptFrom pos true := by
  unfold Sre.forSearch
  show (if (decide (pos > lim) || decide (lim - pos < 1)) = true then _ else _) = _
  by_cases h : (decide (pos > lim) || decide (lim - pos < 1)) = true
  · rw [if_pos h, if_pos h]; rfl
  · rw [if_neg h, if_neg h]; rfl
theorem admitted3_none {m : M} (hc : m.code = C3) : ∀ fuel (s : Nat) sn, (∀ i, s ≤ i → i < m.lim → m.text.getD i 0 ≠ 10 ∧ m.text.getD i 0 ≠ 13) → ∃ sn', Sre.M.admitted m fuel s sn = .ok (none, sn')
  | 0, s, sn, h => ⟨sn, rfl⟩
  | fuel + 1, s, sn, h => by
    unfold Sre.M.admitted
    by_cases hs : s ≥ m.lim
    · rw [if_pos hs]; exact ⟨_, rfl⟩
    · rw [if_neg hs, hc]
      obtain ⟨sn', e⟩ := set3 (m.text.getD s 0) sn
      have hh := h s (Nat.le_refl _) (Nat.lt_of_not_le hs)
      rw [e, beq_false_of_ne hh.1, beq_false_of_ne hh.2]
      exact admitted3_none hc fuel (s + 1) sn' fun i hi => h i (by omega)
theorem admitted3_at {m : M} {t : Nat} (hc : m.code = C3) (ht : t < m.lim) (ht2 : m.text.getD t 0 = 10 ∨ m.text.getD t 0 = 13) : ∀ fuel (s : Nat) sn, s ≤ t → t < s + fuel → (∀ i, s ≤ i → i < t → m.text.getD i 0 ≠ 10 ∧ m.text.getD i 0 ≠ 13) → ∃ sn', Sre.M.admitted m fuel s sn = .ok (some t, sn')
  | 0, s, sn, hst, hf, h => by omega
  | fuel + 1, s, sn, hst, hf, h => by
    unfold Sre.M.admitted
    rw [if_neg (by omega), hc]
    obtain ⟨sn', e⟩ := set3 (m.text.getD s 0) sn
    rw [e]
    by_cases q : s = t
    · subst q
      rw [show (m.text.getD s 0 == 10 || m.text.getD s 0 == 13) = true by simpa using ht2]
      exact ⟨sn', rfl⟩
    · have hh := h s (Nat.le_refl _) (by omega)
      rw [beq_false_of_ne hh.1, beq_false_of_ne hh.2]
      exact admitted3_at hc ht ht2 fuel (s + 1) sn' (by omega) (by omega) fun i hi => h i (by omega)
theorem ended_no {m : M} (ha : m.answer = some false) (hf : m.frames = []) (ho : m.outcome = none) : (m.runFor 16).outcome = some .failed := by
  have : m.step = { m with outcome := some .failed } := by
    unfold Sre.M.step
    rw [ho, ha, hf]; rfl
  rw [runFor_step ho, this, runFor_done rfl]
theorem search3_none (h : ∀ i, pos ≤ i → i < lim → tx.getD i 0 ≠ 10 ∧ tx.getD i 0 ≠ 13) : ((Sre.forSearch C3 tx 0 pos lim must).runFor 16).outcome = some .failed := by
  rw [search3_eq]
  by_cases q : (decide (pos > lim) || decide (lim - pos < 1)) = true
  · rw [if_pos q]; exact ended_no rfl rfl rfl
  · rw [if_neg q]
    obtain ⟨sn', e⟩ := admitted3_none (m := ini C3 tx lim pos lim 10 must (({} : Sre.Seen).add 14)) rfl (lim + 1 - pos) pos (({} : Sre.Seen).add 14) h
    unfold Sre.M.attemptFrom
    rw [if_neg (show ¬ ((!(ini C3 tx lim pos lim 10 must (({} : Sre.Seen).add 14)).hasFirstSet) = true) by exact fun z => by cases z)]
    rw [show Sre.M.admitted (ini C3 tx lim pos lim 10 must (({} : Sre.Seen).add 14)) ((ini C3 tx lim pos lim 10 must (({} : Sre.Seen).add 14)).lim + 1 - pos) pos (ini C3 tx lim pos lim 10 must (({} : Sre.Seen).add 14)).seen = .ok (none, sn') from e]
    exact ended_no rfl rfl rfl
theorem search3_go {t : Nat} (hp : pos ≤ t) (ht : t < lim) (ht2 : tx.getD t 0 = 10 ∨ tx.getD t 0 = 13) (h : ∀ i, pos ≤ i → i < t → tx.getD i 0 ≠ 10 ∧ tx.getD i 0 ≠ 13) :
    ∃ sn', Sre.forSearch C3 tx 0 pos lim must = mk3 C3 tx lim t lim 10 t t true [Ks 10 t true] 1 none sn' := by
  rw [search3_eq, if_neg (by simp; omega)]
  obtain ⟨sn', e⟩ := admitted3_at (m := ini C3 tx lim pos lim 10 must (({} : Sre.Seen).add 14)) rfl ht ht2 (lim + 1 - pos) pos (({} : Sre.Seen).add 14) hp (by omega) h
  unfold Sre.M.attemptFrom
  rw [if_neg (show ¬ ((!(ini C3 tx lim pos lim 10 must (({} : Sre.Seen).add 14)).hasFirstSet) = true) by exact fun z => by cases z)]
  rw [show Sre.M.admitted (ini C3 tx lim pos lim 10 must (({} : Sre.Seen).add 14)) ((ini C3 tx lim pos lim 10 must (({} : Sre.Seen).add 14)).lim + 1 - pos) pos (ini C3 tx lim pos lim 10 must (({} : Sre.Seen).add 14)).seen = .ok (some t, sn') from e]
  exact ⟨sn', rfl⟩
/-- where the line end at t ends -/
noncomputable def eol (tx : Array Nat) (t : Nat) : Nat := if tx.getD t 0 = 13 ∧ t + 1 < tx.size ∧ tx.getD (t + 1) 0 = 10 then t + 2 else t + 1
theorem search3_at {t : Nat} (hp : pos ≤ t) (ht : t < tx.size) (ht2 : tx.getD t 0 = 10 ∨ tx.getD t 0 = 13) (h : ∀ i, pos ≤ i → i < t → tx.getD i 0 ≠ 10 ∧ tx.getD i 0 ≠ 13) :
    ∃ sn', (Sre.forSearch C3 tx 0 pos tx.size must).runFor 16 = Fnd C3 tx tx.size t tx.size 10 t (eol tx t) true sn' := by
  obtain ⟨sn, e⟩ := search3_go (must := must) hp ht ht2 h
  rw [e]
  unfold eol
  rcases ht2 with q | q
  · rw [if_neg (by rw [q]; exact fun z => by cases z.1)]
    exact hit3_lf ht q
  · by_cases z : t + 1 < tx.size ∧ tx.getD (t + 1) 0 = 10
    · rw [if_pos ⟨q, z⟩]
      exact hit3_crlf z.1 q z.2
    · rw [if_neg fun y => z y.2]
      exact hit3_cr ht q z
end
end Mine

open PySem PySem.W PyProof.Rows PySem.Calls
set_option Elab.async false
set_option linter.all false
set_option maxRecDepth 100000
namespace Mine
open PySem.Sre (M ops accepts itemWidth)
section
variable {tx : Array Nat} {lim start lastStart pos handed w s p : Nat} {o o' must : Bool} {fr : List Sre.Frame} {sn : Sre.Seen}

theorem s1_at : ∃ sn', (mk3 C1 tx lim start lastStart 5 pos handed o fr w none sn).step = if (pos == 0 || tx.getD (pos - 1) 0 == 10) = true then mk3 C1 tx lim start lastStart 7 pos handed o fr w none sn' else mk3 C1 tx lim start lastStart 5 pos handed o fr w (some false) sn' := ⟨_, rfl⟩
theorem s1_ok : ∃ sn', (mk3 C1 tx lim start lastStart 9 pos handed o fr w none sn).step = mk3 C1 tx lim start lastStart 9 pos pos o fr w (some true) sn' := by cases o <;> exact ⟨_, rfl⟩
theorem s1_next {pc : Nat} (h : s < lim) : ∃ sn', (mk3 C1 tx lim start lim pc pos handed o' [Ks 5 s o] 1 (some false) sn).step = mk3 C1 tx lim (s + 1) lim 5 (s + 1) (s + 1) false [Ks 5 (s + 1) false] 1 none sn' := by
  refine ⟨sn, ?_⟩
  show (if s < lim then _ else _) = _
  rw [if_pos h]; rfl
theorem s1_last {pc : Nat} (h : ¬ s < lim) : (mk3 C1 tx lim start lim pc pos handed o' [Ks 5 s o] 1 (some false) sn).step = mk3 C1 tx lim start lim 5 s handed o [] 0 (some false) sn := by
  show (if s < lim then _ else _) = _
  rw [if_neg h]; rfl
theorem search1_eq : Sre.forSearch C1 tx 0 pos lim false = if (decide (pos > lim) || decide (lim - pos < 1)) then (ini C1 tx lim pos 0 5 false (({} : Sre.Seen).add 14)).say false else mk3 C1 tx lim pos lim 5 pos pos true [Ks 5 pos true] 1 none (({} : Sre.Seen).add 14) := by
  unfold Sre.forSearch
  show (if (decide (pos > lim) || decide (lim - pos < 1)) = true then _ else _) = _
  by_cases h : (decide (pos > lim) || decide (lim - pos < 1)) = true
  · rw [if_pos h, if_pos h]; rfl
  · rw [if_neg h, if_neg h]; rfl
abbrev dotAt (tx : Array Nat) (i : Nat) : Prop := i < tx.size ∧ tx.getD i 0 = 46 ∧ (i = 0 ∨ tx.getD (i - 1) 0 = 10)
/-- no hit at s: on to the next -/
theorem miss1 (h : ¬ dotAt tx s) : ∃ k sn' pc' pos', k ≤ 2 ∧ (mk3 C1 tx tx.size s tx.size 5 s handed o [Ks 5 s o] 1 none sn).runFor k = mk3 C1 tx tx.size s tx.size pc' pos' handed o [Ks 5 s o] 1 (some false) sn' := by
  obtain ⟨s1, e1⟩ := s1_at (tx := tx) (lim := tx.size) (start := s) (lastStart := tx.size) (pos := s) (handed := handed) (o := o) (fr := [Ks 5 s o]) (w := 1) (sn := sn)
  by_cases q : (s == 0 || tx.getD (s - 1) 0 == 10) = true
  · rw [if_pos q] at e1
    obtain ⟨s2, e2⟩ := lit_no (lastStart := tx.size) (start := s) (handed := handed) (o := o) (fr := [Ks 5 s o]) (w := 1) (sn := s1) (tx := tx) (lim := tx.size) (pos := s) (code := C1) (pc := 7) (c := 46) rfl rfl (by decide) (fun z => h ⟨z.1, z.2, by simpa using q⟩)
    exact ⟨2, s2, 7, s, Nat.le_refl _, by rw [rs rfl e1, rs rfl e2]; rfl⟩
  · rw [if_neg q] at e1
    exact ⟨1, s1, 5, s, by omega, by rw [rs rfl e1]; rfl⟩
theorem hit1 (h : dotAt tx s) : ∃ sn', (mk3 C1 tx tx.size s tx.size 5 s handed o [Ks 5 s o] 1 none sn).runFor 5 = Fnd C1 tx tx.size s tx.size 5 s (s + 1) o sn' := by
  obtain ⟨s1, e1⟩ := s1_at (tx := tx) (lim := tx.size) (start := s) (lastStart := tx.size) (pos := s) (handed := handed) (o := o) (fr := [Ks 5 s o]) (w := 1) (sn := sn)
  rw [if_pos (by simpa using h.2.2)] at e1
  obtain ⟨s2, e2⟩ := lit_yes (lastStart := tx.size) (start := s) (handed := handed) (o := o) (fr := [Ks 5 s o]) (w := 1) (sn := s1) (tx := tx) (lim := tx.size) (pos := s) (code := C1) (pc := 7) (c := 46) rfl rfl (by decide) h.1 h.2.1
  obtain ⟨s3, e3⟩ := s1_ok (tx := tx) (lim := tx.size) (start := s) (lastStart := tx.size) (pos := s + 1) (handed := handed) (o := o) (fr := [Ks 5 s o]) (w := 1) (sn := s2)
  obtain ⟨s4, e4⟩ := s_up2 (code := C1) (tx := tx) (lim := tx.size) (start := s) (lastStart := tx.size) (pos := s + 1) (handed := s + 1) (o := o) (o' := o) (sn := s3) (s := s) (pc := 9) (pc' := 5)
  obtain ⟨s5, e5⟩ := s_up3 (code := C1) (tx := tx) (lim := tx.size) (start := s) (lastStart := tx.size) (pos := s) (handed := s + 1) (o := o) (sn := s4) (pc := 5)
  exact ⟨s5, by rw [rs rfl e1, rs rfl e2, rs rfl e3, rs rfl e4, rs rfl e5]; rfl⟩
theorem to_at {t : Nat} (ht : dotAt tx t) : ∀ n (s : Nat) handed o sn, s + n = t → (∀ i, s ≤ i → i < t → ¬ dotAt tx i) →
    ∃ k sn' o', k ≤ 3 * n + 5 ∧ (mk3 C1 tx tx.size s tx.size 5 s handed o [Ks 5 s o] 1 none sn).runFor k = Fnd C1 tx tx.size t tx.size 5 t (t + 1) o' sn'
  | 0, s, handed, o, sn, e, h => by
    obtain rfl : s = t := e
    obtain ⟨sn', q⟩ := hit1 (handed := handed) (o := o) (sn := sn) ht
    exact ⟨5, sn', o, by decide, q⟩
  | n + 1, s, handed, o, sn, e, h => by
    have hst : s < t := e ▸ Nat.lt_add_of_pos_right (Nat.succ_pos n)
    obtain ⟨k, sn1, pc', pos', hk, q⟩ := miss1 (handed := handed) (o := o) (sn := sn) (h s (Nat.le_refl _) hst)
    obtain ⟨sn2, q2⟩ := s1_next (tx := tx) (lim := tx.size) (start := s) (s := s) (pc := pc') (pos := pos') (handed := handed) (o' := o) (o := o) (sn := sn1) (Nat.lt_trans hst ht.1)
    obtain ⟨k3, sn3, o3, hk3, q3⟩ := to_at ht n (s + 1) (s + 1) false sn2 ((Nat.add_right_comm s 1 n).trans e) fun i hi => h i (Nat.le_of_succ_le hi)
    exact ⟨k + (k3 + 1), sn3, o3, kk5 hk hk3, by rw [runFor_add, q, rs rfl q2, q3]⟩
theorem to_none : ∀ n (s : Nat) handed o sn, s + n = tx.size → (∀ i, s ≤ i → ¬ dotAt tx i) →
    ∃ k, k ≤ 3 * n + 8 ∧ ((mk3 C1 tx tx.size s tx.size 5 s handed o [Ks 5 s o] 1 none sn).runFor k).outcome = some .failed
  | 0, s, handed, o, sn, e, h => by
    obtain ⟨k, sn1, pc', pos', hk, q⟩ := miss1 (handed := handed) (o := o) (sn := sn) (h s (Nat.le_refl _))
    have q2 := s1_last (tx := tx) (lim := tx.size) (start := s) (s := s) (pc := pc') (pos := pos') (handed := handed) (o' := o) (o := o) (sn := sn1) (by omega)
    refine ⟨k + (1 + 1), by omega, ?_⟩
    rw [runFor_add, q, rs rfl q2]; rfl
  | n + 1, s, handed, o, sn, e, h => by
    obtain ⟨k, sn1, pc', pos', hk, q⟩ := miss1 (handed := handed) (o := o) (sn := sn) (h s (Nat.le_refl _))
    obtain ⟨sn2, q2⟩ := s1_next (tx := tx) (lim := tx.size) (start := s) (s := s) (pc := pc') (pos := pos') (handed := handed) (o' := o) (o := o) (sn := sn1) (e ▸ Nat.lt_add_of_pos_right (Nat.succ_pos n))
    obtain ⟨k3, hk3, q3⟩ := to_none n (s + 1) (s + 1) false sn2 ((Nat.add_right_comm s 1 n).trans e) fun i hi => h i (Nat.le_of_succ_le hi)
    exact ⟨k + (k3 + 1), kk5 hk hk3, by rw [runFor_add, q, rs rfl q2, q3]⟩
theorem runFor_le {m : M} {k n : Nat} (h : k ≤ n) (hd : (m.runFor k).outcome.isSome) : m.runFor n = m.runFor k := by
  obtain ⟨d, rfl⟩ := Nat.exists_eq_add_of_le h
  rw [runFor_add, runFor_done hd]
theorem search1_at {t : Nat} (hp : pos ≤ t) (ht : dotAt tx t) (h : ∀ i, pos ≤ i → i < t → ¬ dotAt tx i) :
    ∃ k sn' o', k ≤ 3 * tx.size + 8 ∧ (Sre.forSearch C1 tx 0 pos tx.size false).runFor k = Fnd C1 tx tx.size t tx.size 5 t (t + 1) o' sn' := by
  have := ht.1
  have hpt := Nat.lt_of_le_of_lt hp this
  rw [search1_eq, if_neg (by simp; exact ⟨Nat.le_of_lt hpt, Nat.sub_ne_zero_of_lt hpt⟩)]
  obtain ⟨k, sn', o', hk, q⟩ := to_at ht (t - pos) pos pos true (({} : Sre.Seen).add 14) (Nat.add_sub_cancel' hp) h
  exact ⟨k, sn', o', Nat.le_trans hk (Nat.add_le_add (Nat.mul_le_mul_left 3 (Nat.le_trans (Nat.sub_le _ _) (Nat.le_of_lt this))) (by decide)), q⟩
theorem search1_none (h : ∀ i, pos ≤ i → ¬ dotAt tx i) : ∃ k, k ≤ 3 * tx.size + 16 ∧ ((Sre.forSearch C1 tx 0 pos tx.size false).runFor k).outcome = some .failed := by
  rw [search1_eq]
  by_cases q : (decide (pos > tx.size) || decide (tx.size - pos < 1)) = true
  · rw [if_pos q]; exact ⟨16, by omega, ended_no rfl rfl rfl⟩
  · rw [if_neg q]
    simp at q
    obtain ⟨k, hk, z⟩ := to_none (tx.size - pos) pos pos true (({} : Sre.Seen).add 14) (by omega) h
    exact ⟨k, by omega, z⟩
end
end Mine

open PySem PySem.W PyProof.Rows PySem.Calls
set_option Elab.async false
set_option linter.all false
set_option maxRecDepth 100000
namespace Mine
open PySem.Sre (M)
open PySem.Builtin.Re
section
variable {prog : Program} {w : World} {A : Around} {E : Value → Shared → Prop} {s : Shared}
theorem wp_drive : ∀ (turns : Nat) (m : M) {Q : M → Shared → Prop}, (∃ k, k ≤ 4 * turns ∧ 0 < turns ∧ (m.runFor k).outcome.isSome ∧ Q (m.runFor k) s) → wpAny (model prog w) A (reDrive turns m) Q E s
  | 0, m, Q, ⟨k, hk, h0, _⟩ => absurd h0 (Nat.lt_irrefl _)
  | n + 1, m, Q, ⟨k, hk, h0, ho, hq⟩ => by
    unfold reDrive
    show wpAny _ _ (if (m.runFor 4).outcome.isSome = true then _ else _) _ _ _
    by_cases h : (m.runFor 4).outcome.isSome = true
    · rw [if_pos h]
      have e : m.runFor k = m.runFor 4 := by
        rcases Nat.le_total k 4 with q | q
        · exact (runFor_le q ho).symm
        · exact runFor_le q h
      rw [e] at hq
      exact wpAny_pure hq
    · rw [if_neg h]
      refine wpAny_bind (wpAny_rule ?_)
      have h4 : 4 < k := by
        rcases Nat.lt_or_ge 4 k with q | q
        · exact q
        · exact absurd (by rw [runFor_le q ho]; exact ho) h
      have e : m.runFor k = (m.runFor 4).runFor (k - 4) := by rw [← runFor_add]; congr 1; omega
      rw [e] at ho hq
      exact wp_drive n (m.runFor 4) ⟨k - 4, by omega, by omega, ho, hq⟩
theorem wp_end {m : M} {Q : Option M → Shared → Prop} {k : Nat} (hk : k ≤ 4 * 2 ^ 64)
    (h : ((m.runFor k).outcome = some .matched ∧ Q (some (m.runFor k)) s) ∨ ((m.runFor k).outcome = some .failed ∧ Q none s)) : wpAny (model prog w) A (reRunToEnd m) Q E s := by
  unfold reRunToEnd
  refine wpAny_bind (wp_drive (2 ^ 64) m ⟨k, hk, by decide, by rcases h with h | h <;> rw [h.1] <;> rfl, ?_⟩)
  generalize m.runFor k = mm at h ⊢
  refine wpAny_bind (wpAny_forIn_list _ (fun _ _ s' => s' = s) _ (fun x rest b s' e => ?_) (fun b s' e => ?_) _ _ rfl)
  · subst e
    by_cases q : mm.seen.has x = true
    · rw [if_pos q]
      exact wpAny_bind (wpAny_rule (wpAny_pure rfl))
    · rw [if_neg q]
      exact wpAny_pure rfl
  · subst e
    rcases h with ⟨e, q⟩ | ⟨e, q⟩
    · rw [e]; exact wpAny_pure q
    · rw [e]; exact wpAny_pure q
end
end Mine

open PySem PySem.W PyProof.Rows PySem.Calls
set_option Elab.async false
set_option linter.all false
set_option maxRecDepth 100000
namespace Mine
open PySem.Sre (M)
open PySem.Builtin.Re
/-- a compiled pattern on the heap -/
noncomputable def PatAt (h : Heap) (a : Addr) (code : Array Nat) (want : Nat) : Prop :=
  ∃ p f c raw n o, h.get? a = some { cls := .type "re.Pattern", data := .fields #[p, f, rawInt 0, .none, .none, .ref c, rawInt want] } ∧ h.get? c = some o ∧ o.data = .seq raw n ∧ (raw.map reRawOf).map (·.toNat) = code
theorem PatAt.keep {h h' : Heap} {a : Addr} {code : Array Nat} {want : Nat} (x : PatAt h a code want) (k : ∀ b o, h.get? b = some o → h'.get? b = some o) : PatAt h' a code want := by
  obtain ⟨p, f, c, raw, n, o, h1, h2, h3⟩ := x
  exact ⟨p, f, c, raw, n, o, k _ _ h1, k _ _ h2, h3⟩
section
variable {prog : Program} {w : World} {A : Around} {E : Value → Shared → Prop} {s : Shared} {a : Addr} {code : Array Nat}
theorem wp_target_str {x : PySem.Str} {t : Tok} {Q : ReTarget → Shared → Prop} (P : PatAt s.heap a code 0) (h : Q { pattern := .ref a, string := .str x t, code, text := x.cps, kind := 0, groups := 0, pos := 0, lim := x.cps.size } s) :
    wpAny (model prog w) A (reWholeTarget (.ref a) (.str x t)) Q E s := by
  obtain ⟨p, f, c, raw, n, o, h1, h2, h3, h4⟩ := P
  subst h4
  unfold reWholeTarget
  refine wpAny_bind (wpAny_fieldsOf h1 rfl ?_)
  unfold reTextOf asStr?
  refine wpAny_bind (wpAny_bind (wpAny_pure (wpAny_pure ?_)))
  refine wpAny_bind (wpAny_pure ?_)
  unfold reRawItems
  refine wpAny_bind (wpAny_bind (wpAny_seqItems h2 h3 (wpAny_pure ?_)))
  exact wpAny_pure h
theorem wp_target_bytes {x : Array UInt8} {t : Tok} {Q : ReTarget → Shared → Prop} (P : PatAt s.heap a code 1) (h : Q { pattern := .ref a, string := .bytes x t, code, text := x.map (·.toNat), kind := 1, groups := 0, pos := 0, lim := (x.map (·.toNat)).size } s) :
    wpAny (model prog w) A (reWholeTarget (.ref a) (.bytes x t)) Q E s := by
  obtain ⟨p, f, c, raw, n, o, h1, h2, h3, h4⟩ := P
  subst h4
  unfold reWholeTarget
  refine wpAny_bind (wpAny_fieldsOf h1 rfl ?_)
  unfold reTextOf asStr?
  refine wpAny_bind (wpAny_bind (wpAny_bind (wpAny_of_eq (a := ()) ?_ (wpAny_pure ?_))))
  · rfl
  refine wpAny_bind (wpAny_of_eq KBy.quiet_eq (wpAny_pure ?_))
  refine wpAny_bind (wpAny_pure ?_)
  unfold reRawItems
  refine wpAny_bind (wpAny_bind (wpAny_seqItems h2 h3 (wpAny_pure ?_)))
  exact wpAny_pure h
end
end Mine

open PySem PySem.W PyProof.Rows PySem.Calls
set_option Elab.async false
set_option linter.all false
set_option maxRecDepth 100000
namespace Mine
open PySem.Sre (M)
open PySem.Builtin PySem.Builtin.Re
/-- a text (kind 0) or bytes (kind 1) with these chars -/
noncomputable def Txv (kind : Nat) (v : Value) (l : List Nat) : Prop :=
  (kind = 0 ∧ ∃ t, v = .str ⟨l.toArray⟩ t) ∨ (kind = 1 ∧ (∀ c ∈ l, c < 256) ∧ ∃ t, v = .bytes ((l.map (·.toUInt8)).toArray) t)
inductive Txvs (kind : Nat) : List Value → List (List Nat) → Prop
  | nil : Txvs kind [] []
  | cons {v l vs ls} : Txv kind v l → Txvs kind vs ls → Txvs kind (v :: vs) (l :: ls)
theorem Txvs.snoc {kind : Nat} {vs ls} (x : Txvs kind vs ls) {v l} (h : Txv kind v l) : Txvs kind (vs ++ [v]) (ls ++ [l]) := by
  induction x with
  | nil => exact .cons h .nil
  | cons a _ ih => exact .cons a ih
theorem Txvs.length {kind : Nat} {vs ls} (x : Txvs kind vs ls) : vs.length = ls.length := by
  induction x with
  | nil => rfl
  | cons _ _ ih => exact congrArg (· + 1) ih
theorem Txv.ne {kind : Nat} {v : Value} {l : List Nat} (h : Txv kind v l) : v ≠ .none := by
  rcases h with ⟨_, t, rfl⟩ | ⟨_, _, t, rfl⟩ <;> exact fun e => by cases e
theorem nat8 {c : Nat} (h : c < 256) : (c.toUInt8).toNat = c := by
  simp [Nat.toUInt8, UInt8.toNat_ofNat']; omega
theorem map8 : ∀ {l : List Nat}, (∀ c ∈ l, c < 256) → (l.map (·.toUInt8)).map (·.toNat) = l
  | [], _ => rfl
  | c :: l, h => by
    rw [List.map_cons, List.map_cons, map8 fun x hx => h x (.tail _ hx)]
    rw [nat8 (h c (.head _))]
section
variable {prog : Program} {w : World} {A : Around} {E : Value → Shared → Prop} {s : Shared} {a : Addr} {code : Array Nat} {kind : Nat}
theorem wp_target {v : Value} {L : List Nat} {Q : ReTarget → Shared → Prop} (P : PatAt s.heap a code kind) (hv : Txv kind v L) (h : Q { pattern := .ref a, string := v, code, text := L.toArray, kind, groups := 0, pos := 0, lim := L.length } s) :
    wpAny (model prog w) A (reWholeTarget (.ref a) v) Q E s := by
  rcases hv with ⟨rfl, t, rfl⟩ | ⟨rfl, hc, t, rfl⟩
  · exact wp_target_str P h
  · refine wp_target_bytes P ?_
    have e : Array.map (fun x => x.toNat) (L.map (·.toUInt8)).toArray = L.toArray := by rw [List.map_toArray, map8 hc]
    rw [e]; exact h
theorem wp_slice {L : List Nat} {b e : Nat} {Q : Value → Shared → Prop} (hk : kind = 0 ∨ (kind = 1 ∧ ∀ c ∈ L, c < 256)) (hl : L.length ≤ 100000)
    (h : ∀ v tk, Txv kind v ((L.drop b).take (e - b)) → Q v { s with toks := tk }) : wpAny (model prog w) A (reSlice L.toArray kind b e) Q E s := by
  unfold reSlice
  have e1 : L.toArray.extract b e = ((L.drop b).take (e - b)).toArray := by
    simp [List.extract_toArray]
  have hn : ((L.drop b).take (e - b)).length ≤ 100000 := List.length_take .. ▸ Nat.le_trans (Nat.min_le_right _ _) (List.length_drop .. ▸ Nat.le_trans (Nat.sub_le _ _) hl)
  rcases hk with rfl | ⟨rfl, hc⟩
  · rw [if_pos (show ((0 : Nat) == 0) = true from rfl), e1]
    refine wpAny_mkStr (h _ _ (.inl ⟨rfl, _, rfl⟩)) ?_
    show ((L.drop b).take (e - b)).toArray.size ≤ sizeLine
    rw [List.size_toArray, sizeLine_eq]; exact le_by hn
  · rw [if_neg (by decide), e1, List.map_toArray]
    refine wpAny_mkBytes (h _ _ (.inr ⟨rfl, fun c hcm => hc c (List.mem_of_mem_drop (List.mem_of_mem_take hcm)), _, rfl⟩)) ?_
    rw [sizeLine_eq, List.size_toArray, List.length_map]; exact le_by hn
theorem wp_literal {rv : Value} {R : List Nat} {Q : Unit → Shared → Prop} (hr : Txv kind rv R) (h : Q () s) : wpAny (model prog w) A (reLiteralCannotBeTurned rv) Q E s := by
  unfold reLiteralCannotBeTurned
  rcases hr with ⟨rfl, t, rfl⟩ | ⟨rfl, hc, t, rfl⟩
  · exact wpAny_bind (wpAny_pure (wpAny_pure h))
  · refine wpAny_bind (wpAny_of_eq (a := none) rfl ?_)
    show wpAny _ _ (isInstance _ _ >>= fun b => _) _ _ _
    exact wpAny_bind (wpAny_of_eq KBy.isInstance_eq (wpAny_pure h))
end
end Mine

open PySem PySem.W PyProof.Rows PySem.Calls
set_option Elab.async false
set_option linter.all false
set_option maxRecDepth 100000
namespace Mine
open PySem.Sre (M)
open PySem.Builtin PySem.Builtin.Re
/-- a turn of the search -/
noncomputable def Turn (code : Array Nat) (L R : List Nat) (G : Nat → List Nat) (p : Nat) : Prop :=
  ∃ k, k ≤ 4 * 2 ^ 64 ∧ (let m := (Sre.forSearch code L.toArray 0 p L.length false).runFor k
    (m.outcome = some .failed ∧ G p = L.drop p) ∨
    (m.outcome = some .matched ∧ p ≤ m.start ∧ m.start < m.handed ∧ m.handed ≤ L.length ∧ G p = (L.drop p).take (m.start - p) ++ R ++ G m.handed))
/-- the join of the kind -/
noncomputable def JoinRule (prog : Program) (w : World) (A : Around) (kind : Nat) : Prop :=
  ∀ (D : Addr) (vs : List Value) (ls : List (List Nat)) (jv : Value) (s : Shared) (Q : Value → Shared → Prop) (E : Value → Shared → Prop),
    s.heap.PlainList D vs.toArray → Txvs kind vs ls → vs ≠ [] → vs.length ≤ 200001 → ls.flatten.length ≤ 400000 → Txv kind jv [] →
    (∀ v tk, Txv kind v ls.flatten → Q v { s with toks := tk }) → wpAny (model prog w) A (call (.builtin (if kind == 0 then "str.join" else "bytes.join")) [jv, .ref D]) Q E s
theorem entry_loop : entryFor table "re.Pattern.sub.loop" = some Builtin.«re.Pattern.sub.loop» := entryFor_of_tree (by kernel_rfl)
section
variable {prog : Program} {w : World} {A : Around} {s : Shared} {a D : Addr} {code : Array Nat} {kind : Nat} {E : Value → Shared → Prop}
theorem wp_push {vs : List Value} {v : Value} {Q : Unit → Shared → Prop} (hl : s.heap.PlainList D vs.toArray) (hn : vs.length ≤ 300000)
    (h : ∀ h', h'.PlainList D (vs ++ [v]).toArray → (∀ b o, b ≠ D → s.heap.get? b = some o → h'.get? b = some o) → Q () { s with heap := h' }) : wpAny (model prog w) A (updateSeq D (·.push v)) Q E s := by
  obtain ⟨n, e⟩ := hl
  refine wpAny_updateSeq e rfl (h _ ⟨n + 1, ?_⟩ fun b o hb ho => ?_) (by rw [sizeLine_eq]; simp; omega) (by rw [sizeLine_eq]; simp; omega)
  · rw [Heap.get?_update_self _ e rfl]
    simp [Obj.mapSeq]
  · rw [Heap.get?_update_other _ _ (Ne.symm hb)]; exact ho
theorem wp_maybe {α : Type} {c : Prop} [Decidable c] {K : Unit → Sem α} {vs : List Value} {ls : List (List Nat)} {L : List Nat} {b e : Nat} {Q : α → Shared → Prop} (hk : kind = 0 ∨ (kind = 1 ∧ ∀ c ∈ L, c < 256)) (hL : L.length ≤ 100000) (hl : s.heap.PlainList D vs.toArray) (hvs : Txvs kind vs ls) (hn : vs.length ≤ 300000) (hc : ¬ c → (L.drop b).take (e - b) = [])
    (h : ∀ h' tk vs' ls', h'.PlainList D vs'.toArray → Txvs kind vs' ls' → vs'.length ≤ vs.length + 1 → ls'.flatten = ls.flatten ++ (L.drop b).take (e - b) → (∀ b o, b ≠ D → s.heap.get? b = some o → h'.get? b = some o) → wpAny (model prog w) A (K ()) Q E { s with heap := h', toks := tk }) :
    wpAny (model prog w) A (if c then do let x ← reSlice L.toArray kind b e; let r ← updateSeq D (·.push x); K r else K ()) Q E s := by
  by_cases q : c
  · rw [if_pos q]
    refine wpAny_bind (wp_slice hk hL fun v tk hv => ?_)
    exact wpAny_bind (wp_push hl hn fun h' hl' kk => h h' tk _ _ hl' (hvs.snoc hv) (by simp) (by simp) kk)
  · rw [if_neg q]
    exact h s.heap s.toks vs ls hl hvs (by omega) (by rw [hc q, List.append_nil]) (fun _ _ _ e => e)
theorem wp_loop {h0 : Heap} {v rv : Value} {L R : List Nat} {G : Nat → List Nat} (hv : Txv kind v L) (hr : Txv kind rv R) (hR : R.length ≤ 2) (hL : L.length ≤ 100000) (hG : ∀ p, p ≤ L.length → Turn code L R G p) (P : PatAt h0 a code kind) (hD : h0.get? D = none)
    (hJ : ∀ args, JoinRule prog w (A.under (.builtin "re.Pattern.sub.loop" args)) kind) : ∀ n (p : Nat) (cnt : Int) (s : Shared) (vs : List Value) (ls : List (List Nat)) (Res : Result → Shared → Prop),
    p + n = L.length → (∀ b o, h0.get? b = some o → s.heap.get? b = some o) → s.heap.PlainList D vs.toArray → Txvs kind vs ls → vs.length ≤ 2 * p → ls.flatten.length ≤ 3 * p →
    (∀ v' h' tk, Txv kind v' (ls.flatten ++ G p) → (∀ b o, h0.get? b = some o → h'.get? b = some o) → Res (.ok (.ret v')) { s with heap := h', toks := tk }) →
    codeAny (model prog w) A (.builtin "re.Pattern.sub.loop" ⟨[.ref a, v, rv, rawInt 0, rawInt 0, rawInt cnt, rawInt p, rawInt p, .bool false, .ref D, .bool false], []⟩) Res s := by
  have hk : kind = 0 ∨ (kind = 1 ∧ ∀ c ∈ L, c < 256) := hv.imp (·.1) fun x => ⟨x.1, x.2.1⟩
  intro n
  induction n using Nat.strongRecOn with
  | _ n ih =>
  intro p cnt s vs ls Res hpn hkeep hl hvs hln hfl hQ
  refine codeAny_builtin entry_loop ?_
  unfold Builtin.«re.Pattern.sub.loop»
  refine wpAny_bind (wp_target (P.keep hkeep) hv ?_)
  refine wpAny_bind ?_
  refine wp_literal hr ?_
  refine wpAny_bind ?_
  show wpAny _ _ (reNextFound { pattern := .ref a, string := v, code, text := L.toArray, kind, groups := 0, pos := 0, lim := L.length } ((p : Int).toNat) false) _ _ _
  rw [Int.toNat_natCast]
  have hpL : p ≤ L.length := hpn ▸ Nat.le_add_right p n
  have hv3 : vs.length ≤ 200000 := Nat.le_trans hln (Nat.mul_le_mul_left 2 (Nat.le_trans hpL hL))
  obtain ⟨k, hkb, hT⟩ := hG p hpL
  refine wp_end hkb ?_
  simp only at hT
  generalize (Sre.forSearch code L.toArray 0 p L.length false).runFor k = m at hT
  rcases hT with ⟨ho, hg⟩ | ⟨ho, h1, h2, h3, hg⟩
  · refine .inr ⟨ho, ?_⟩
    have e0 : ((p : Int)).toNat = p := Int.toNat_natCast p
    simp only [e0]
    refine wp_maybe (kind := kind) (L := L) (b := p) (e := L.length) hk hL hl hvs (le_by hv3) (fun z => by simp; exact .inr (Nat.le_of_not_lt z)) fun h' tk vs' ls' hl' hvs' hlen hfl' hkk => ?_
    have hk' : ∀ b o, h0.get? b = some o → h'.get? b = some o := fun b o e => hkk b o (fun z => by rw [z, hD] at e; cases e) (hkeep b o e)
    refine wpAny_bind (wp_slice hk hL fun jv tk2 hjv => ?_)
    have hjv : Txv kind jv [] := by simpa using hjv
    have e1 : ls'.flatten = ls.flatten ++ G p := by rw [hfl', hg]; congr 1; exact List.take_of_length_le (by simp)
    have hl2 := hl'
    obtain ⟨nn, hll⟩ := hl'
    refine wpAny_bind (wpAny_seqItems hll rfl ?_)
    by_cases hem : vs' = []
    · subst hem
      cases hvs'
      refine wpAny_bind (wpAny_pure (wpAny_pure ?_))
      exact hQ jv h' tk2 (by rw [← e1]; exact hjv) hk'
    · rw [if_neg (by simpa using hem)]
      refine wpAny_bind (hJ _ D vs' ls' jv _ _ _ hl2 hvs' hem (Nat.le_trans hlen (Nat.add_le_add_right hv3 1)) (by rw [hfl', List.length_append, List.length_take, List.length_drop]; exact Nat.add_le_add (Nat.le_trans hfl (Nat.mul_le_mul_left 3 (Nat.le_trans hpL hL))) (Nat.le_trans (Nat.min_le_left _ _) (Nat.le_trans (Nat.sub_le _ _) hL))) hjv fun v' tk3 hv' => ?_)
      exact wpAny_pure (hQ v' h' tk3 (by rw [← e1]; exact hv') hk')
  · refine .inl ⟨ho, ?_⟩
    have e0 : ((p : Int)).toNat = p := Int.toNat_natCast p
    simp only [e0]
    refine wp_maybe (kind := kind) (L := L) (b := p) (e := m.start) hk hL hl hvs (le_by hv3) (fun z => by
      rw [Nat.sub_eq_zero_of_le (Nat.le_of_not_lt z)]; rfl) fun h' tk vs' ls' hl' hvs' hlen hfl' hkk => ?_
    have hk' : ∀ b o, h0.get? b = some o → h'.get? b = some o := fun b o e => hkk b o (fun z => by rw [z, hD] at e; cases e) (hkeep b o e)
    refine wpAny_bind (wpAny_pure ?_)
    show wpAny _ _ (if (rv != Value.none) = true then _ else _) _ _ _
    rw [if_pos (by simpa using hr.ne)]
    refine wpAny_bind (wp_push hl' (le_by (Nat.le_trans hlen (Nat.add_le_add_right hv3 1))) fun h'' hl'' hkk' => ?_)
    have hk'' : ∀ b o, h0.get? b = some o → h''.get? b = some o := fun b o e => hkk' b o (fun z => by rw [z, hD] at e; cases e) (hk' b o e)
    refine wpAny_pure ⟨Code.quiet_builtin _ (by decide +kernel), ?_⟩
    have hb : (m.handed == m.start) = false := beq_eq_false_iff_ne.mpr (Nat.ne_of_gt h2)
    rw [hb]
    refine ih (L.length - m.handed) (sub_lt_n hpn (Nat.lt_of_le_of_lt h1 h2) h3) m.handed (cnt + 1) _ _ _ Res (Nat.add_sub_cancel' h3) hk'' hl'' (hvs'.snoc hr) (by rw [List.length_append]; exact two_more hlen hln (Nat.lt_of_le_of_lt h1 h2)) ?_ fun v' h3' tk3 hv' kk3 => ?_
    · rw [List.flatten_append, hfl', List.length_append, List.length_append, List.length_take, List.length_drop, List.flatten_cons, List.flatten_nil, List.append_nil]; exact three_more hfl hR h1 h2
    · refine hQ v' h3' tk3 ?_ kk3
      rw [hg]
      rw [List.flatten_append, hfl'] at hv'
      simpa [List.append_assoc] using hv'
end
end Mine

open PySem PySem.W PyProof.Rows PySem.Calls
set_option Elab.async false
set_option linter.all false
set_option maxRecDepth 100000
namespace Mine
open PySem.Sre (M)
open PySem.Builtin PySem.Builtin.Re
theorem slot_sub : Slot "re.Pattern" "sub" "re.Pattern.sub" :=
  .of (owner := "re.Pattern") (n := "sub") (by rw [typeLookup_type, builtinLookup_eq_fast]; kernel_rfl) (by decide +kernel) (by decide +kernel) (by decide +kernel)
    (by first | exact .inl (by decide +kernel) | exact .inr (by decide +kernel)) (by rw [isSubtype_type]; kernel_rfl)
theorem type_sub : typeOf (.builtin "re.Pattern.sub") = pure (.type "method_descriptor") := by show builtinType _ = _; rw [builtinType_eq_fast]; kernel_rfl
theorem entry_sub : entryFor table "re.Pattern.sub" = some Builtin.«re.Pattern.sub» := entryFor_of_tree (by kernel_rfl)
theorem args_sub (a b c : Value) : argsOk "re.Pattern.sub" ⟨[a, b, c], []⟩ := by unfold argsOk; kernel_rfl
theorem plain_pat : PlainAttrs "re.Pattern" := ⟨⟨"object.__getattribute__", by rw [typeLookup_type, builtinLookup_eq_fast]; kernel_rfl, by decide +kernel⟩, by rw [typeLookup_type, builtinLookup_eq_fast]; kernel_rfl⟩
theorem nocall_str : typeLookup (.type "str") "__call__" = pure none := by rw [typeLookup_type, builtinLookup_eq_fast]; kernel_rfl
theorem nocall_bytes : typeLookup (.type "bytes") "__call__" = pure none := by rw [typeLookup_type, builtinLookup_eq_fast]; kernel_rfl
theorem named (a b : Value) : reNamed "re.Pattern.sub" "sub" ["repl", "string", "count"] 2 [a, b] [] = pure [some a, some b, none] := by rfl
section
variable {prog : Program} {w : World} {A : Around} {s : Shared} {a D : Addr} {code : Array Nat} {kind : Nat} {E : Value → Shared → Prop}
theorem PatAt.isPat {h : Heap} (P : PatAt h a code kind) : ∃ o, h.get? a = some o ∧ o.cls = .type "re.Pattern" ∧ o.dict = none := by
  obtain ⟨p, f, c, raw, n, o, h1, _⟩ := P
  exact ⟨_, h1, rfl, rfl⟩
theorem wp_sub {v rv : Value} {L R : List Nat} {G : Nat → List Nat} {Q : Value → Shared → Prop} (P : PatAt s.heap a code kind) (hv : Txv kind v L) (hr : Txv kind rv R) (hR : R.length ≤ 2) (h92 : 92 ∉ R) (hL : L.length ≤ 100000) (hG : ∀ p, p ≤ L.length → Turn code L R G p)
    (hJ : ∀ A, JoinRule prog w A kind) (h : ∀ v' h' tk, Txv kind v' (G 0) → (∀ b o, s.heap.get? b = some o → h'.get? b = some o) → Q v' { s with heap := h', toks := tk }) :
    wpAny (model prog w) A (call (.builtin "re.Pattern.sub") [.ref a, rv, v]) Q E s := by
  obtain ⟨oa, ha, hac, _⟩ := P.isPat
  refine wpAny_call (codeAny_call_builtin slot_sub.plain entry_sub (slot_sub.check _ _ _ _ _ _ _ _ ⟨oa, ha, hac⟩ (args_sub _ _ _) ?_))
  unfold Builtin.«re.Pattern.sub» reSubstitute
  show wpAny _ _ (reNamed "re.Pattern.sub" "sub" ["repl", "string", "count"] 2 [rv, v] [] >>= _) _ _ _
  refine wpAny_bind (wpAny_of_eq (named rv v) ?_)
  refine wpAny_bind (wpAny_pure ?_)
  have nocall : specialOf rv "__call__" = pure none := by
    rcases hr with ⟨_, t, rfl⟩ | ⟨_, _, t, rfl⟩
    · exact (show specialOf _ _ = typeLookup (.type "str") "__call__" from rfl).trans nocall_str
    · exact KBy.special_eq nocall_bytes
  refine wpAny_bind (wpAny_of_eq nocall ?_)
  have c92 : R.toArray.contains 92 = false := by simpa using h92
  have fin_ : ∀ (Q' : PySem.Fin → Shared → Prop) (E' : Value → Shared → Prop),
      Q' (.again (.builtin "re.Pattern.sub.loop" ⟨[.ref a, v, rv, rawInt 0, rawInt 0, rawInt 0, rawInt 0, rawInt 0, .bool false, .ref s.heap.objs.size, .bool false], []⟩)) { s with heap := s.heap.push { cls := .type "list", data := .seq #[] } } →
      wpAny (model prog w) A.in1 (do
        let _ ← holding [rv] (reWholeTarget (.ref a) v)
        let d ← newList []
        again (.builtin "re.Pattern.sub.loop" ⟨[.ref a, v, rv, rawInt 0, rawInt 0, rawInt 0, rawInt 0, rawInt 0, .bool false, d, .bool false], []⟩)) Q' E' s := fun Q' E' hq =>
    wpAny_bind (wpAny_holding (wp_target P hv (wpAny_bind (wpAny_newList (wpAny_pure hq) (by simp [sizeLine])))))
  have nxt : ∀ {R' : Result → Shared → Prop}, (∀ v' h' tk, Txv kind v' (G 0) → (∀ b o, s.heap.get? b = some o → h'.get? b = some o) → R' (.ok (.ret v')) { s with heap := h', toks := tk }) → codeAny (model prog w) A (.builtin "re.Pattern.sub.loop" ⟨[.ref a, v, rv, rawInt 0, rawInt 0, rawInt 0, rawInt 0, rawInt 0, .bool false, .ref s.heap.objs.size, .bool false], []⟩) R' { s with heap := s.heap.push { cls := .type "list", data := .seq #[] } } := fun hR' => by
    refine wp_loop (h0 := s.heap) hv hr hR hL hG P (Heap.get?_none_of_le (Nat.le_refl _)) (fun _ => hJ _) L.length 0 0 _ [] [] _ (by omega) (fun b o e => Heap.get?_push_of_some _ e) ⟨0, Heap.get?_push_size _ rfl⟩ .nil (by simp) (by simp) fun v' h' tk hv' kk => ?_
    exact hR' v' h' tk (by simpa using hv') kk
  rcases id hr with ⟨_, t, rfl⟩ | ⟨_, hc, t, rfl⟩
  · refine wpAny_bind (wpAny_pure (wpAny_bind (wpAny_pure ?_)))
    show wpAny _ _ (if (!R.toArray.contains 92) = true then _ else _) _ _ _
    rw [if_pos (by rw [c92]; rfl)]
    refine wpAny_bind (wpAny_pure (fin_ _ _ ⟨Code.quiet_builtin _ (by decide +kernel), ?_⟩))
    exact nxt h
  · refine wpAny_bind (wpAny_of_eq (a := none) rfl ?_)
    refine wpAny_bind (wpAny_of_eq KBy.quiet_eq (wpAny_bind (wpAny_pure ?_)))
    have c93 : (R.map (·.toUInt8)).toArray.contains 92 = false := by
      simp
      intro x hx e
      have := congrArg UInt8.toNat e
      rw [nat8 (hc x hx)] at this
      have h3 : x = 92 := this
      exact h92 (h3 ▸ hx)
    show wpAny _ _ (if (!((R.map (·.toUInt8)).toArray.contains 92)) = true then _ else _) _ _ _
    rw [if_pos (by rw [c93]; rfl)]
    refine wpAny_bind (wpAny_pure (fin_ _ _ ⟨Code.quiet_builtin _ (by decide +kernel), ?_⟩))
    exact nxt h
end
end Mine

open PySem PySem.W PyProof.Rows PySem.Calls
set_option Elab.async false
set_option linter.all false
set_option maxRecDepth 100000
namespace Mine
open PySem.Builtin PySem.Builtin.Bytes
theorem join_nil_cps : ∀ (l : List PySem.Str), (Str.join Str.empty l).cps.toList = (l.map (·.cps.toList)).flatten
  | [] => rfl
  | [x] => by simp [Str.join]
  | x :: y :: r => by
    show (x ++ Str.empty ++ Str.join Str.empty (y :: r)).cps.toList = _
    rw [cps_app, cps_app, join_nil_cps (y :: r)]
    simp [Str.empty]
theorem txvs_strs {kind : Nat} (hk : kind = 0) : ∀ {vs ls}, Txvs kind vs ls → StrsAre vs (ls.map fun l => (⟨l.toArray⟩ : PySem.Str))
  | _, _, .nil => .nil
  | _, _, .cons h r => by
    rcases h with ⟨_, t, rfl⟩ | ⟨z, _⟩
    · exact .cons _ t (txvs_strs hk r)
    · rw [hk] at z; cases z
theorem join0 {prog : Program} {w : World} {A : Around} : JoinRule prog w A 0 := by
  intro D vs ls jv s Q E hl hvs hne hn hf hjv hq
  rcases hjv with ⟨_, t, rfl⟩ | ⟨z, _⟩
  · refine PyProof.Rows.join_list hl.isList (ys := ls.map fun l => (⟨l.toArray⟩ : PySem.Str)) (txvs_strs rfl hvs) ?_ fun t' k => hq _ _ (.inl ⟨rfl, t', ?_⟩)
    · have e : ((ls.map fun l => (⟨l.toArray⟩ : PySem.Str)).map (·.length)).sum = ls.flatten.length := by
        rw [List.map_map, List.length_flatten]; rfl
      rw [e]
      show _ + _ * 0 ≤ _
      omega
    · have : Txt.join ⟨[].toArray⟩ (ls.map fun l => (⟨l.toArray⟩ : PySem.Str)) = ⟨ls.flatten.toArray⟩ := by
        rw [show Txt.join ⟨[].toArray⟩ (ls.map fun l => (⟨l.toArray⟩ : PySem.Str)) = Str.join Str.empty (ls.map fun l => (⟨l.toArray⟩ : PySem.Str)) from StrLaws.glued_eq_join _ _]
        have e := join_nil_cps (ls.map fun l => (⟨l.toArray⟩ : PySem.Str))
        rw [List.map_map, show ((fun (x : PySem.Str) => x.cps.toList) ∘ fun (l : List Nat) => (⟨l.toArray⟩ : PySem.Str)) = (fun l => l) from rfl, List.map_id'] at e
        generalize Str.join Str.empty (ls.map fun l => (⟨l.toArray⟩ : PySem.Str)) = z at e ⊢
        obtain ⟨z⟩ := z
        simp at e
        rw [← e]
      rw [this]
  · cases z
end Mine

open PySem PySem.W PyProof.Rows PySem.Calls
set_option Elab.async false
set_option linter.all false
set_option maxRecDepth 100000
namespace Mine
open PySem.Builtin PySem.Builtin.Bytes
theorem joined_nil (parts : List (Array UInt8)) : joined #[] parts = (parts.map (·.toList)).flatten.toArray := by
  have h : ∀ (parts : List (Array UInt8)) (k : Nat) (acc : Array UInt8), ((parts.zipIdx k).foldl (fun out (p, i) => (if i > 0 then out ++ (#[] : Array UInt8) else out) ++ p) acc) = acc ++ (parts.map (·.toList)).flatten.toArray := by
    intro parts
    induction parts with
    | nil => intro k acc; simp
    | cons p r ih =>
      intro k acc
      rw [List.zipIdx_cons, List.foldl_cons, ih]
      have e : (if k > 0 then acc ++ (#[] : Array UInt8) else acc) = acc := by split <;> simp
      show (if k > 0 then acc ++ (#[] : Array UInt8) else acc) ++ p ++ _ = _
      rw [e, List.map_cons, List.flatten_cons]
      apply Array.ext'
      simp
  have := h parts 0 #[]
  simpa [joined] using this
theorem take_eq {id : String} {b : Array UInt8} {t : Tok} : takeBufferQuiet? id (.bytes b t) 0 = pure (some (b, none)) := by
  unfold takeBufferQuiet? takeBuffer?
  rw [KBy.special_eq KBy.look_buffer, KBy.own_buffer, show ((0 : Int) == fullReadOnly) = false from by decide +kernel, KBy.buffer_eq]
  kernel_rfl
theorem entry_bjoin : entryFor table "bytes.join" = some Builtin.«bytes.join» := entryFor_of_tree (by kernel_rfl)
theorem slot_bjoin : Slot "bytes" "join" "bytes.join" :=
  .of (owner := "bytes") (n := "join") (by rw [typeLookup_type, builtinLookup_eq_fast]; kernel_rfl) (by decide +kernel) (by decide +kernel) (by decide +kernel)
    (by first | exact .inl (by decide +kernel) | exact .inr (by decide +kernel)) (by rw [isSubtype_type]; kernel_rfl)
theorem args_bjoin (a b : Value) : argsOk "bytes.join" ⟨[a, b], []⟩ := by unfold argsOk; kernel_rfl
section
variable {prog : Program} {w : World} {A : Around} {s : Shared} {E : Value → Shared → Prop}
theorem wp_letGo {l keep : List Value} {Q : Unit → Shared → Prop} (h : Q () s) : wpAny (model prog w) A (letGo l keep) Q E s := by
  induction l with
  | nil => exact wpAny_pure h
  | cons x r ih =>
    unfold letGo
    exact wpAny_bind (wpAny_holding (wpAny_point ih))
theorem wp_joinLetGo : ∀ {taken : List (Value × Option Value)} {keep : List Value} {Q : Unit → Shared → Prop}, (∀ p ∈ taken, p.2 = none) → Q () s → wpAny (model prog w) A (joinLetGo taken keep) Q E s
  | [], _, _, _, h => wpAny_pure h
  | (x, u) :: r, keep, Q, hn, h => by
    obtain rfl : u = none := hn (x, u) (.head _)
    unfold joinLetGo
    exact wpAny_bind (wp_letGo (wp_joinLetGo (fun p hp => hn p (.tail _ hp)) h))
/-- the bytes behind -/
inductive Byts : List Value → List (Array UInt8) → Prop
  | nil : Byts [] []
  | cons {b t vs bs} : Byts vs bs → Byts (.bytes b t :: vs) (b :: bs)
theorem Byts.len {vs bs} (x : Byts vs bs) : vs.length = bs.length := by
  induction x with
  | nil => rfl
  | cons _ ih => exact congrArg (· + 1) ih
theorem Byts.at {vs bs} (x : Byts vs bs) : ∀ (i : Nat) (h : i < vs.length) (h2 : i < bs.length), ∃ t, vs[i] = .bytes bs[i] t := by
  induction x with
  | nil => intro i h; exact absurd h (Nat.not_lt_zero _)
  | @cons b t vs bs _ ih =>
    intro i h h2
    cases i with
    | zero => exact ⟨t, rfl⟩
    | succ i => exact ih i (Nat.lt_of_succ_lt_succ h) (Nat.lt_of_succ_lt_succ h2)
theorem Byts.noHeap {vs bs} (x : Byts vs bs) : ∀ v ∈ vs, v.onHeap = false := by
  induction x with
  | nil => intro v h; cases h
  | cons _ ih =>
    intro v h
    rcases List.mem_cons.mp h with rfl | h
    · rfl
    · exact ih v h
theorem foldl_sizes : ∀ (l : List (Array UInt8)) (k : Nat), l.foldl (fun x y => x + y.size) k = k + ((l.map (·.toList)).flatten).length
  | [], k => by simp
  | x :: r, k => by rw [List.foldl_cons, foldl_sizes r]; simp; omega
theorem bjoin_go {vs : List Value} {bs : List (Array UInt8)} {F : Value → Sem PySem.Fin} {K : Array Value → Sem PySem.Fin} {Q' : PySem.Fin → Shared → Prop} {E' : Value → Shared → Prop} (hb : Byts vs bs) (h1 : ¬ ∃ b t, vs = [.bytes b t]) (hk : wpAny (model prog w) A (K vs.toArray) Q' E' s) :
    wpAny (model prog w) A (Bytes.joinM.match_1 (fun _ => Sem PySem.Fin) vs.toArray F K) Q' E' s := by
  cases hb with
  | nil => exact hk
  | cons r => cases r with
    | nil => exact absurd ⟨_, _, rfl⟩ h1
    | cons _ => exact hk
theorem wp_bjoin {D : Addr} {vs : List Value} {bs : List (Array UInt8)} {jt : Tok} {Q : Value → Shared → Prop} (hl : s.heap.PlainList D vs.toArray) (hb : Byts vs bs) (hn : vs.length ≤ 200001) (hs : (bs.map (·.toList)).flatten.length ≤ 400000)
    (h : ∀ t k, Q (.bytes (bs.map (·.toList)).flatten.toArray t) { s with toks := k }) : wpAny (model prog w) A (call (.builtin "bytes.join") [.bytes #[] jt, .ref D]) Q E s := by
  refine wpAny_call (codeAny_call_builtin slot_bjoin.plain entry_bjoin (slot_bjoin.check _ _ _ _ _ _ _ _ (typeIs_bytes _ _ _) (args_bjoin _ _) ?_))
  obtain ⟨n, e⟩ := hl
  unfold Builtin.«bytes.join» joinM
  refine wpAny_bind (wpAny_bind (wpAny_pure (wpAny_pure ?_)))
  show wpAny _ _ (joinItems (.ref D) >>= _) _ _ _
  refine wpAny_bind ?_
  unfold joinItems
  refine wpAny_bind (wpAny_typeOf (T := "list") ⟨_, e, rfl⟩ (wpAny_pure ?_))
  refine wpAny_bind (wpAny_seqItems e rfl ?_)
  have lens := hb.len
  by_cases h1 : ∃ b t, vs = [.bytes b t]
  · obtain ⟨b, t, rfl⟩ := h1
    cases hb
    rename_i r
    cases r
    refine wpAny_bind (wpAny_typeOf (typeIs_bytes _ _ _) ?_)
    refine wpAny_bind (wpAny_rule (wpAny_pure ?_))
    have := h t s.toks
    simp at this
    exact this
  · dsimp only
    rw [if_pos (show (Kind.bytes == Kind.bytes) = true from rfl)]
    refine bjoin_go hb h1 ?_
    refine wpAny_bind ?_
    rw [Std.Legacy.Range.forIn_eq_forIn_range']
    refine wpAny_forIn_list _ (fun rest st s' => s' = s ∧ ∃ i, i ≤ vs.length ∧ rest = List.range' i (vs.length - i) ∧ st = ((bs.take i).toArray, (vs.take i).map fun v => (v, none))) _ (fun x rest st s' I => ?_) (fun st s' I => ?_) _ _ ⟨rfl, 0, Nat.zero_le _, by simp [Std.Legacy.Range.size], by simp⟩
    · obtain ⟨rfl, i, hi, hr, rfl⟩ := I
      have hlt : i < vs.length := by
        rcases Nat.lt_or_ge i vs.length with q | q
        · exact q
        · rw [Nat.sub_eq_zero_of_le q] at hr; cases hr
      have hr2 : x = i ∧ rest = List.range' (i + 1) (vs.length - (i + 1)) := by
        rw [(sub_s hlt).symm, List.range'_succ] at hr
        exact ⟨by injection hr, by injection hr⟩
      obtain ⟨rfl, rfl⟩ := hr2
      obtain ⟨t, ht⟩ := hb.at x hlt (lens ▸ hlt)
      refine wpAny_bind (wpAny_seqItems e rfl ?_)
      dsimp only
      have hx : vs.toArray.getD x Value.none = .bytes (bs[x]'(by omega)) t := by simp [hlt, ht]
      rw [hx, if_neg]
      · refine wpAny_bind (wpAny_holding (wpAny_of_eq take_eq ?_))
        refine wpAny_bind (wpAny_seqItems e rfl ?_)
        dsimp only
        rw [if_neg (by simp)]
        refine wpAny_pure ⟨rfl, x + 1, hlt, rfl, ?_⟩
        refine Prod.ext ?_ ?_
        · show (List.take x bs).toArray.push _ = _
          rw [List.push_toArray, List.take_succ_eq_append_getElem (lens ▸ hlt)]
        · show (List.take x vs).map _ ++ [_] = _
          rw [List.take_succ_eq_append_getElem hlt, List.map_append, ht]; rfl
      · simp
        intro v u hm
        obtain ⟨v', hv', ev⟩ := List.mem_map.mp (List.mem_of_mem_take hm)
        injection ev with ev _
        exact hb.noHeap v (ev ▸ hv')
    · obtain ⟨rfl, i, hi, hr, rfl⟩ := I
      have hi' : i = vs.length := by
        have := congrArg List.length hr
        simp at this; omega
      subst hi'
      refine wpAny_bind (wpAny_bind (wpAny_pure (wpAny_pure ?_)))
      dsimp only
      have eb : bs.take vs.length = bs := by rw [lens, List.take_length]
      rw [eb, if_neg]
      · refine wpAny_bind (wpAny_mkBytes ?_ ?_)
        · refine wpAny_bind (wpAny_holding (wpAny_point (wpAny_bind (wp_joinLetGo (fun p hp => ?_) (wpAny_pure ?_)))))
          · obtain ⟨v, _, rfl⟩ := List.mem_map.mp hp
            rfl
          · show Q (.bytes (joined #[] bs.toArray.toList) _) _
            rw [joined_nil]
            exact h _ _
        · rw [joined_nil, sizeLine_eq]; simp at hs ⊢; omega
      · rw [← Array.foldl_toList, foldl_sizes, KBy.tooLong_not]
        · simp
        · simp at hs ⊢; omega
end
theorem txvs_byts {kind : Nat} (hk : kind = 1) {vs ls} (x : Txvs kind vs ls) : Byts vs (ls.map fun l => (l.map (·.toUInt8)).toArray) := by
  induction x with
  | nil => exact .nil
  | cons h _ ih =>
    rcases h with ⟨z, _⟩ | ⟨_, hc, t, rfl⟩
    · rw [hk] at z; cases z
    · exact .cons ih
theorem txvs_lt {kind : Nat} (hk : kind = 1) {vs ls} (x : Txvs kind vs ls) : ∀ l ∈ ls, ∀ c ∈ l, c < 256 := by
  induction x with
  | nil => intro l h; cases h
  | cons hh _ ih =>
    intro l h c hc
    rcases List.mem_cons.mp h with rfl | h
    · rcases hh with ⟨z, _⟩ | ⟨_, hx, t, rfl⟩
      · rw [hk] at z; cases z
      · exact hx c hc
    · exact ih l h c hc
theorem join1 {prog : Program} {w : World} {A : Around} : JoinRule prog w A 1 := by
  intro D vs ls jv s Q E hl hvs hne hn hf hjv hq
  rcases hjv with ⟨z, _⟩ | ⟨_, _, t, rfl⟩
  · cases z
  have e : ((ls.map fun l => (l.map (·.toUInt8)).toArray).map (·.toList)).flatten = ls.flatten.map (·.toUInt8) := by
    rw [List.map_map, List.map_flatten]; rfl
  refine wp_bjoin hl (txvs_byts rfl hvs) hn ?_ fun t k => hq _ _ (.inr ⟨rfl, fun c hc => ?_, t, ?_⟩)
  · rw [e, List.length_map]; exact hf
  · obtain ⟨l, hl, hc⟩ := List.mem_flatten.mp hc
    exact txvs_lt rfl hvs l hl c hc
  · rw [e]
end Mine

open PySem PySem.W PyProof.Rows PySem.Calls
set_option Elab.async false
set_option linter.all false
set_option maxRecDepth 100000
namespace Mine
theorem getD_arr (L : List Nat) (i : Nat) : L.toArray.getD i 0 = L.getD i 0 := by simp [Array.getD_eq_getD_getElem?, List.getD_eq_getElem?_getD]
theorem getD_lt {L : List Nat} {i : Nat} (h : i < L.length) : L.getD i 0 = L[i] := by simp [List.getD_eq_getElem?_getD, h]
theorem ends_split : ∀ l : List Nat, (∀ c ∈ l, c ≠ 10 ∧ c ≠ 13) ∨ ∃ a c b, l = a ++ c :: b ∧ (∀ c ∈ a, c ≠ 10 ∧ c ≠ 13) ∧ (c = 10 ∨ c = 13)
  | [] => .inl fun _ h => nomatch h
  | c :: l => by
    by_cases h : c = 10 ∨ c = 13
    · exact .inr ⟨[], c, l, rfl, (fun _ h => nomatch h), h⟩
    · have hc : c ≠ 10 ∧ c ≠ 13 := ⟨fun e => h (.inl e), fun e => h (.inr e)⟩
      rcases ends_split l with q | ⟨a, d, b, rfl, q, r⟩
      · exact .inl fun x hx => by
          rcases List.mem_cons.mp hx with rfl | hx
          · exact hc
          · exact q x hx
      · exact .inr ⟨c :: a, d, b, rfl, fun x hx => by
          rcases List.mem_cons.mp hx with rfl | hx
          · exact hc
          · exact q x hx, r⟩
theorem getD_drop (L : List Nat) (p i : Nat) : L.getD (p + i) 0 = (L.drop p).getD i 0 := by simp [List.getD_eq_getElem?_getD]
theorem turn3 (L : List Nat) (p : Nat) (hp : p ≤ L.length) : Turn C3 L [13, 10] (fun p => fixE (L.drop p)) p := by
  rcases ends_split (L.drop p) with q | ⟨a, c, b, e, q, hc⟩
  · refine ⟨16, by decide, .inl ⟨?_, ?_⟩⟩
    · have := search3_none (tx := L.toArray) (pos := p) (lim := L.length) (must := false) fun i h1 h2 => by
        rw [getD_arr, (Nat.add_sub_cancel' h1).symm, getD_drop]
        apply q
        rw [getD_lt (by rw [List.length_drop]; exact Nat.sub_lt_sub_right h1 h2)]
        exact List.getElem_mem _
      exact this
    · have := fixE_free [] q
      simpa [fixE] using this
  · have hl : (L.drop p).length = a.length + 1 + b.length := by rw [e, List.length_append, List.length_cons, Nat.add_assoc, Nat.add_comm 1]
    have hl' : L.length - p = a.length + 1 + b.length := by rw [← hl, List.length_drop]
    have ht : p + a.length < L.length := in_drop hp hl'
    have ct : L.toArray.getD (p + a.length) 0 = c := by
      rw [getD_arr, getD_drop, e]; simp [List.getD_eq_getElem?_getD]
    obtain ⟨sn, hs⟩ := search3_at (tx := L.toArray) (pos := p) (must := false) (t := p + a.length) (Nat.le_add_right _ _) (by simpa using ht) (by rw [ct]; exact hc) fun i h1 h2 => by
      have hia : i - p < a.length := Nat.sub_lt_left_of_lt_add h1 h2
      rw [getD_arr, (Nat.add_sub_cancel' h1).symm, getD_drop, e]
      apply q
      rw [getD_lt (by rw [List.length_append]; exact Nat.lt_of_lt_of_le hia (Nat.le_add_right _ _)), List.getElem_append_left hia]
      exact List.getElem_mem _
    have hsz : L.toArray.size = L.length := by simp
    rw [hsz] at hs
    have d1 : L.drop (p + a.length + 1) = b := by
      rw [show p + a.length + 1 = p + (a.length + 1) from rfl, ← List.drop_drop, e]; simp
    have tk : (L.drop p).take (p + a.length - p) = a := by rw [e, Nat.add_sub_cancel_left]; simp
    have ez : eol L.toArray (p + a.length) = if c = 13 ∧ b.head? = some 10 then p + a.length + 2 else p + a.length + 1 := by
      unfold eol
      rw [ct, hsz, getD_arr, show p + a.length + 1 = p + (a.length + 1) from rfl, getD_drop, e]
      have : (a ++ c :: b).getD (a.length + 1) 0 = b.getD 0 0 := by rw [List.getD_eq_getElem?_getD, List.getD_eq_getElem?_getD, List.getElem?_append_right (Nat.le_add_right a.length 1), Nat.add_sub_cancel_left]; rfl
      rw [this]
      have hh : (p + (a.length + 1) < L.length ∧ b.getD 0 0 = 10) ↔ b.head? = some 10 := by
        cases b with
        | nil => simp
        | cons x r => simp at hl' ⊢; omega
      by_cases hz : b.head? = some 10
      · by_cases h13 : c = 13
        · rw [if_pos ⟨h13, hh.mpr hz⟩, if_pos ⟨h13, hz⟩]
        · rw [if_neg fun z => h13 z.1, if_neg fun z => h13 z.1]
      · rw [if_neg fun z => hz (hh.mp z.2), if_neg fun z => hz z.2]
    have e1 : p + a.length < (if c = 13 ∧ b.head? = some 10 then p + a.length + 2 else p + a.length + 1) := by split; exact Nat.lt_add_of_pos_right (by decide); exact Nat.lt_succ_self _
    have e2 : (if c = 13 ∧ b.head? = some 10 then p + a.length + 2 else p + a.length + 1) ≤ L.length := by
      split
      · rename_i hh
        cases b with
        | nil => simp at hh
        | cons x r => simp at hl'; omega
      · exact ht
    refine ⟨16, by decide, .inr ?_⟩
    rw [hs, ez]
    refine ⟨rfl, Nat.le_add_right _ _, e1, e2, ?_⟩
    · show fixE (L.drop p) = (L.drop p).take (p + a.length - p) ++ [13, 10] ++ fixE (L.drop (if _ then _ else _))
      rw [tk, e, fixE_free _ q]
      rcases hc with rfl | rfl
      · rw [if_neg (fun z => by cases z.1), d1]; simp [fixE]
      · cases b with
        | nil => rw [if_neg (by simp), d1]; simp [fixE]
        | cons x r =>
          by_cases hx : x = 10
          · subst hx
            rw [if_pos ⟨rfl, rfl⟩]
            have d2 : L.drop (p + a.length + 2) = r := by
              rw [show p + a.length + 2 = (p + a.length + 1) + 1 from rfl, ← List.drop_drop, d1]; rfl
            rw [d2]; simp [fixE]
          · rw [if_neg (by simp [hx]), d1]
            have : fixE (13 :: x :: r) = 13 :: 10 :: fixE (x :: r) := by
              rw [fixE]
              intro r' h; injection h with h _; exact hx h
            rw [this]; simp
/-- the text from p on with its dots doubled -/
noncomputable def dotG (L : List Nat) (p : Nat) : List Nat := dots (decide (p = 0 ∨ L.getD (p - 1) 0 = 10)) (L.drop p)
theorem dotG_cons {L : List Nat} {p : Nat} (hp : p < L.length) : dotG L p = dots (decide (p = 0 ∨ L.getD (p - 1) 0 = 10)) (L.getD p 0 :: L.drop (p + 1)) := by
  unfold dotG
  rw [List.drop_eq_getElem_cons hp, getD_lt hp]
theorem dotG_no {L : List Nat} {p : Nat} (hp : p < L.length) (h : ¬ dotAt L.toArray p) : dotG L p = L.getD p 0 :: dotG L (p + 1) := by
  rw [dotG_cons hp]
  have e : dotG L (p + 1) = dots (decide (L.getD p 0 = 10)) (L.drop (p + 1)) := by unfold dotG; simp
  rw [e]
  unfold dotAt at h
  rw [getD_arr, getD_arr] at h
  simp only [List.size_toArray] at h
  generalize L.getD p 0 = c at h ⊢
  by_cases hb : p = 0 ∨ L.getD (p - 1) 0 = 10
  · have hc : c ≠ 46 := fun z => h ⟨hp, z, hb⟩
    rw [decide_eq_true hb]
    by_cases h10 : c = 10
    · subst h10; simp [dots]
    · simp [dots, hc, h10]
  · rw [decide_eq_false hb]
    by_cases h10 : c = 10
    · subst h10; simp [dots]
    · simp [dots, h10]
theorem dotG_yes {L : List Nat} {p : Nat} (h : dotAt L.toArray p) : dotG L p = [46, 46] ++ dotG L (p + 1) := by
  unfold dotAt at h
  rw [getD_arr, getD_arr] at h
  simp only [List.size_toArray] at h
  obtain ⟨hp, hc, hb⟩ := h
  rw [dotG_cons hp, decide_eq_true hb, hc]
  have e : dotG L (p + 1) = dots (decide (L.getD p 0 = 10)) (L.drop (p + 1)) := by unfold dotG; simp
  rw [e, hc]
  rfl
theorem first_dot (tx : Array Nat) : ∀ n p, p + n = tx.size → (∀ i, p ≤ i → ¬ dotAt tx i) ∨ ∃ t, p ≤ t ∧ dotAt tx t ∧ ∀ i, p ≤ i → i < t → ¬ dotAt tx i
  | 0, p, h => .inl fun i hi hd => absurd hd.1 (Nat.not_lt_of_le (Nat.le_trans (Nat.le_of_eq (show tx.size = p from h.symm)) hi))
  | n + 1, p, h => by
    by_cases hp : dotAt tx p
    · exact .inr ⟨p, Nat.le_refl _, hp, fun i h1 h2 => absurd h2 (Nat.not_lt_of_le h1)⟩
    · rcases first_dot tx n (p + 1) ((Nat.add_right_comm p 1 n).trans h) with q | ⟨t, h1, h2, h3⟩
      · exact .inl fun i hi => by
          by_cases e : i = p
          · exact e ▸ hp
          · exact q i (Nat.lt_of_le_of_ne hi (Ne.symm e))
      · exact .inr ⟨t, Nat.le_of_succ_le h1, h2, fun i hi hl => by
          by_cases e : i = p
          · exact e ▸ hp
          · exact h3 i (Nat.lt_of_le_of_ne hi (Ne.symm e)) hl⟩
theorem dotG_take {L : List Nat} : ∀ n p, p + n ≤ L.length → (∀ i, p ≤ i → i < p + n → ¬ dotAt L.toArray i) → dotG L p = (L.drop p).take n ++ dotG L (p + n)
  | 0, p, _, _ => by simp
  | n + 1, p, hp, h => by
    have h0 : p < p + (n + 1) := Nat.lt_add_of_pos_right (Nat.succ_pos n)
    have hpl := Nat.lt_of_lt_of_le h0 hp
    rw [dotG_no hpl (h p (Nat.le_refl p) h0), dotG_take n (p + 1) (by rw [Nat.add_right_comm]; exact hp) fun i h1 h2 => h i (Nat.le_of_succ_le h1) (by rw [Nat.add_right_comm] at h2; exact h2)]
    rw [List.drop_eq_getElem_cons hpl, List.take_succ_cons, getD_lt hpl, show p + 1 + n = p + (n + 1) from Nat.add_right_comm p 1 n]
    rfl
theorem turn1 (L : List Nat) (hL : L.length ≤ 100000) (p : Nat) (hp : p ≤ L.length) : Turn C1 L [46, 46] (dotG L) p := by
  have hsz : L.toArray.size = L.length := by simp
  rcases first_dot L.toArray (L.length - p) p (by rw [hsz]; exact Nat.add_sub_cancel' hp) with q | ⟨t, h1, h2, h3⟩
  · obtain ⟨k, hk, hs⟩ := search1_none (tx := L.toArray) (pos := p) q
    rw [hsz] at hs hk
    refine ⟨k, le_by (Nat.le_trans hk (Nat.add_le_add_right (Nat.mul_le_mul_left 3 hL) 16)), .inl ⟨hs, ?_⟩⟩
    have := dotG_take (L := L) (L.length - p) p (Nat.le_of_eq (Nat.add_sub_cancel' hp)) fun i h1 _ => q i h1
    rw [this, Nat.add_sub_cancel' hp]
    have e3 : dotG L L.length = [] := by unfold dotG; simp [dots]
    rw [e3, List.append_nil]
    exact List.take_of_length_le (by simp)
  · obtain ⟨k, sn, o, hk, hs⟩ := search1_at (tx := L.toArray) (pos := p) h1 h2 h3
    rw [hsz] at hs hk
    have := h2.1
    rw [hsz] at this
    refine ⟨k, le_by (Nat.le_trans hk (Nat.add_le_add_right (Nat.mul_le_mul_left 3 hL) 8)), .inr ?_⟩
    rw [hs]
    refine ⟨rfl, h1, Nat.lt_succ_self _, this, ?_⟩
    show dotG L p = (L.drop p).take (t - p) ++ [46, 46] ++ dotG L (t + 1)
    rw [dotG_take (t - p) p (by rw [Nat.add_sub_cancel' h1]; exact Nat.le_of_lt this) fun i a b => h3 i a (Nat.add_sub_cancel' h1 ▸ b), Nat.add_sub_cancel' h1, dotG_yes h2, List.append_assoc]
end Mine

open PySem
set_option Elab.async false
set_option linter.all false
set_option maxRecDepth 100000
namespace Mine
noncomputable def dresses : List PySem.Str := goods.map (fun x => Str.ofString "g" ++ x) ++ bads
noncomputable def tailOf (d : PySem.Str) : List Nat := d.cps.toList.drop 1
noncomputable def rowFact (d : PySem.Str) : Bool :=
  decide (1 ≤ d.length) && decide (d.length ≤ 30) && ((List.range 3).all fun e => sym e false false (tailOf d) == some (sentT (tailOf d))) && decide ((sentT (tailOf d)).length ≤ 60) && ((sentT (tailOf d)).all fun c => decide (0 < c) && decide (c < 126)) && ((tailOf d).all fun c => decide (0 < c) && decide (c < 126))
theorem row_facts : dresses.all rowFact = true := by decide +kernel
theorem row_fact {d : PySem.Str} (h : d ∈ dresses) : 1 ≤ d.length ∧ d.length ≤ 30 ∧ (∀ e, e < 3 → sym e false false (tailOf d) = some (sentT (tailOf d))) ∧ (sentT (tailOf d)).length ≤ 60 ∧ (∀ c ∈ sentT (tailOf d), 0 < c ∧ c < 126) ∧ ∀ c ∈ tailOf d, 0 < c ∧ c < 126 := by
  have := List.all_eq_true.mp row_facts d h
  simp only [rowFact, Bool.and_eq_true, decide_eq_true_eq, List.all_eq_true, List.mem_range, beq_iff_eq] at this
  obtain ⟨⟨⟨⟨⟨h1, h2⟩, h3⟩, h4⟩, h5⟩, h6⟩ := this
  exact ⟨h1, h2, h3, h4, h5, h6⟩
theorem dress_mem (cell : Int) (sp : Bool) : dressOf cell sp ∈ dresses := by
  unfold dressOf dresses
  cases sp with
  | true =>
    refine List.mem_append_right _ ?_
    rw [if_pos rfl, List.getD_eq_getElem?_getD, List.getElem?_eq_getElem (show badAt cell < bads.length from badAt_lt cell)]
    exact List.getElem_mem _
  | false =>
    refine List.mem_append_left _ (List.mem_map.mpr ⟨goods.getD (goodAt cell) Str.empty, ?_, rfl⟩)
    rw [List.getD_eq_getElem?_getD, List.getElem?_eq_getElem (show goodAt cell < goods.length from goodAt_lt cell)]
    exact List.getElem_mem _
/-- the numbers told in a row -/
structure Nums (n m : Int) : Prop where
  n0 : 0 ≤ n
  n1 : n < 10 ^ 10
  m0 : 0 ≤ m
  m1 : m < 10 ^ 10
section
variable {n m : Int} {d : PySem.Str}
theorem flat_len {f : Nat → List Nat} {k : Nat} (hf : ∀ c, (f c).length ≤ k) : ∀ T : List Nat, (T.flatMap f).length ≤ T.length * k
  | [] => by simp
  | c :: T => by
    have := flat_len hf T
    have := hf c
    rw [List.flatMap_cons, List.length_append, List.length_cons, Nat.add_mul]
    omega
theorem sub2_mem {dP dM : List Nat} (hP : NumL dP) (hM : NumL dM) {S : List Nat} (h : ∀ c ∈ S, 0 < c ∧ c < 126) : ∀ c ∈ S.flatMap (sub2 dP dM), 0 < c ∧ c < 126 := fun c hc => by
  obtain ⟨k, hk, hc⟩ := List.mem_flatMap.mp hc
  unfold sub2 at hc
  split at hc
  · have := hP.all c hc; omega
  · split at hc
    · have := hM.all c hc; omega
    · simp at hc; subst hc; exact h c hk
theorem row_both (hd : d ∈ dresses) (hn : Nums n m) {e : Nat} (he : e < 3) (r : List Nat) : both false false ((rowS d n m e).cps.toList ++ r) = (sentS d n m).cps.toList ++ both false false r := by
  obtain ⟨h1, h2, h3, _⟩ := row_fact hd
  obtain ⟨P, _, _⟩ := num_val hn.n0 hn.n1
  obtain ⟨M, _, _⟩ := num_val hn.m0 hn.m1
  rw [row_list h1 P M, sent_list h1 P M]
  exact sym_ok P.plain M.plain e r _ _ _ _ (h3 e he)
theorem row_len (hd : d ∈ dresses) (hn : Nums n m) {e : Nat} (he : e < 3) : (rowS d n m e).length ≤ 600 ∧ ∀ c ∈ (rowS d n m e).cps.toList, c < 126 := by
  obtain ⟨h1, h2, _, _, _, h6⟩ := row_fact hd
  obtain ⟨P, _, lP⟩ := num_val hn.n0 hn.n1
  obtain ⟨M, _, lM⟩ := num_val hn.m0 hn.m1
  have hl : (rowS d n m e).length = (rowS d n m e).cps.toList.length := by simp [Str.length]
  have hE : ∀ k, (endL k).length ≤ 2 := fun k => by unfold endL; split; · simp
                                                    · split <;> simp
  have hE2 : ∀ k, ∀ c ∈ endL k, c < 126 := fun k c hc => by
    unfold endL at hc
    split at hc
    · simp at hc; omega
    · split at hc <;> simp at hc <;> omega
  rw [hl, row_list h1 P M]
  constructor
  · have := flat_len (f := sub4 (dg n) (dg m) (endL e) (endL ((e + 1) % 3))) (k := 20) (fun c => by
      unfold sub4
      split
      · exact lP
      · split
        · exact lM
        · split
          · exact Nat.le_trans (hE _) (by decide)
          · split
            · exact Nat.le_trans (hE _) (by decide)
            · simp) (d.cps.toList.drop 1)
    have h3 : (d.cps.toList.drop 1).length ≤ 30 := by
      rw [List.length_drop]
      have : d.cps.toList.length = d.length := by simp [Str.length]
      omega
    omega
  · intro c hc
    obtain ⟨k, hk, hc⟩ := List.mem_flatMap.mp hc
    unfold sub4 at hc
    split at hc
    · have := P.all c hc; omega
    · split at hc
      · have := M.all c hc; omega
      · split at hc
        · exact hE2 _ c hc
        · split at hc
          · exact hE2 _ c hc
          · simp at hc; subst hc; exact (h6 c hk).2
theorem sent_len (hd : d ∈ dresses) (hn : Nums n m) : (sentS d n m).length ≤ 600 ∧ ∀ c ∈ (sentS d n m).cps.toList, 0 < c ∧ c < 126 := by
  obtain ⟨h1, h2, _, h4, h5, h6⟩ := row_fact hd
  obtain ⟨P, _, lP⟩ := num_val hn.n0 hn.n1
  obtain ⟨M, _, lM⟩ := num_val hn.m0 hn.m1
  have hl : (sentS d n m).length = (sentS d n m).cps.toList.length := by simp [Str.length]
  rw [hl, sent_list h1 P M]
  refine ⟨?_, sub2_mem P M h5⟩
  -- at most two numbers in a mould
  have key : ∀ T : List Nat, (T.flatMap (sub2 (dg n) (dg m))).length ≤ T.length + 20 * (T.filter fun c => c == 80 || c == 77).length := fun T => by
    induction T with
    | nil => simp
    | cons c T ih =>
      rw [List.flatMap_cons, List.length_append, List.length_cons, List.filter_cons]
      by_cases h : c = 80
      · subst h
        rw [show sub2 (dg n) (dg m) 80 = dg n from rfl]
        simp only [beq_self_eq_true, Bool.true_or, if_true, List.length_cons]
        omega
      · by_cases h' : c = 77
        · subst h'
          rw [show sub2 (dg n) (dg m) 77 = dg m from rfl]
          simp only [beq_self_eq_true, Bool.or_true, if_true, List.length_cons]
          omega
        · rw [sub2_one h h', beq_eq_false_iff_ne.mpr h, beq_eq_false_iff_ne.mpr h']
          simp only [Bool.or_self, Bool.false_eq_true, if_false, List.length_cons, List.length_nil]
          omega
  have h3 := key (sentT (d.cps.toList.drop 1))
  have h7 : ((sentT (d.cps.toList.drop 1)).filter fun c => c == 80 || c == 77).length ≤ 27 := by
    have : dresses.all (fun d => decide (((sentT (d.cps.toList.drop 1)).filter fun c => c == 80 || c == 77).length ≤ 27)) = true := by decide +kernel
    exact of_decide_eq_true (List.all_eq_true.mp this d hd)
  have : (sentT (d.cps.toList.drop 1)).length ≤ 60 := h4
  omega
end
end Mine

open PySem PySem.W PyProof.Rows PySem.Calls
set_option Elab.async false
set_option linter.all false
set_option maxRecDepth 100000
namespace Mine
open PySem.Builtin PySem.Builtin.Str PySem.Builtin.BaseException PySem.Builtin.Exceptions
section
variable {prog : Program} {w : World} {A : Around} {E : Value → Shared → Prop} {s : Shared} {e t0 C : Addr} {K : Frag}
/-- an object of an own class, with its args -/
noncomputable def OwnAt (h : Heap) (e : Addr) (C : Addr) (a0 : Value) : Prop := ∃ o vs, h.get? e = some o ∧ o.cls = .ref C ∧ o.data = .fields vs ∧ vs[0]? = some a0
theorem OwnAt.looks {M : Model} {a0 : Value} (x : OwnAt s.heap e C a0) : Looks M s.heap (typeOf (.ref e)) (.ref C) := by
  obtain ⟨o, vs, ho, hc, _⟩ := x
  intro A Q E s' k q
  unfold typeOf
  refine wpAny_bind (wpAny_loadPart (k _ _ ho) ?_)
  rw [hc]
  exact wpAny_pure q
theorem own_args {M : Model} {items : List Value} {Q : Value × List Value → Shared → Prop} (x : OwnAt s.heap e C (.ref t0)) (ht : s.heap.TupAt t0 items) (hq : Q (.ref t0, items) s) :
    wpAny M A (bexcArgs (.ref e)) Q E s := by
  obtain ⟨o, vs, ho, _, hd, h0⟩ := x
  obtain ⟨ot, k, hto, _, htd⟩ := ht
  unfold bexcArgs
  refine wpAny_bind (wpAny_field ho hd h0 (wpAny_bind (wpAny_seqItems hto htd ?_)))
  have : items.toArray.toList = items := by simp
  show wpAny M A (pure (Value.ref t0, items.toArray.toList)) Q E s
  rw [this]; exact wpAny_pure hq
theorem own_entry {m : PySem.Str} {tk : Tok} {Q : Fin → Shared → Prop} (x : OwnAt s.heap e C (.ref t0)) (ht : s.heap.TupAt t0 [.str m tk]) (hq : Q (.done (.ret (.str m tk))) s) :
    wpAny (model prog w) A (Builtin.«BaseException.__str__» ⟨[.ref e], []⟩) Q E s := by
  unfold Builtin.«BaseException.__str__»
  repeat (first | with_reducible refine own_args x ht ?_ | wp_step)
  exact hq
theorem bexc_check {M : Model} {Q : Unit → Shared → Prop} (X : K.In s.heap) {a0 : Value} (x : OwnAt s.heap e C a0) (hs : subIn K (.ref C) (.type "BaseException") = some true) (hq : Q () s) :
    wpAny M A (checkBuiltinCall "BaseException.__str__" ⟨[.ref e], []⟩) Q E s := by
  have hsplit : splitId "BaseException.__str__" = some ("BaseException", "__str__") := by decide +kernel
  have hk : builtinKind "BaseException.__str__" = some .slot := by
    simp only [builtinKind, hsplit]; decide +kernel
  simp only [checkBuiltinCall, hk, hsplit]
  have L1 : Looks M s.heap (isInstance (.ref e) (.type "BaseException")) true := x.looks.andThen (looks_subIn X hs)
  refine wpAny_bind (L1.here ?_)
  simp only [Bool.not_true, Bool.false_eq_true, if_false]
  have ha := F.args_bexc_str (.ref e)
  cases hsig : Manifest.signature? "BaseException.__str__" with
  | none => exact wpAny_pure hq
  | some sig =>
    simp only [argsOk, hsig] at ha
    show wpAny M A (Bind.checkArgs _ sig ⟨[.ref e], []⟩) Q E s
    rw [ha]; exact wpAny_pure hq
theorem own_strOf (X : K.In s.heap) (hf : findIn K (.ref C) "__str__" = some (some (.builtin "BaseException.__str__"))) (hs : subIn K (.ref C) (.type "BaseException") = some true) (hu : A.units < cLine) {m : PySem.Str} {tk : Tok} {Q : Value → Shared → Prop} (x : OwnAt s.heap e C (.ref t0)) (ht : s.heap.TupAt t0 [.str m tk]) (hq : Q (.str m tk) s) :
    wpAny (model prog w) A (Str.strOf (.ref e)) Q E s := by
  unfold Str.strOf
  have FX := F.excStr_Exception
  have sp : wpAny (model prog w) A (callSpecial? (.ref e) "__str__") (fun r s' => r = some (.str m tk) ∧ s' = s) E s := by
    simp only [callSpecial?]
    have L1 : Looks (model prog w) s.heap (specialOf (.ref e) "__str__") (some (.builtin "BaseException.__str__")) := x.looks.andThen (looks_findIn X hf)
    refine wpAny_bind (L1.here ?_)
    simp only [FX.str.bind]
    refine wpAny_holding (wpAny_bind (wpAny_pure (wpAny_bind ?_)))
    exact wpAny_call (codeAny_call_builtin FX.str.plain F.entry_bexc_str (bexc_check X x hs (own_entry x ht (wpAny_pure ⟨rfl, rfl⟩))))
  repeat (first | with_reducible refine wpAny_cRoomFor hu ?_ | (with_reducible refine wpAny_mono sp (fun r s' hr => ?_) fun _ _ z => z; obtain ⟨rfl, rfl⟩ := hr) | wp_step)
  exact hq
theorem str_own (X : K.In s.heap) (hf : findIn K (.ref C) "__str__" = some (some (.builtin "BaseException.__str__"))) (hs : subIn K (.ref C) (.type "BaseException") = some true) (hu : A.units + 2 < cLine) {m : PySem.Str} {tk : Tok} {Q : Value → Shared → Prop} (x : OwnAt s.heap e C (.ref t0)) (ht : s.heap.TupAt t0 [.str m tk]) (h : Q (.str m tk) s) :
    wpAny (model prog w) A (call (.type "str") [.ref e]) Q E s :=
  callType_new F.called_str (by decide) (F.typeCall_str_1 _) (F.newCall_str_1 _) (fun obj => F.args_object_init_2 obj _) F.entry_str_new
    (meets_str_new (S := fun A' R s' => A'.units + 1 < cLine ∧ K.In s'.heap ∧ OwnAt s'.heap e C (.ref t0) ∧ s'.heap.TupAt t0 [.str m tk] ∧ R (.ok (.ret (.str m tk))) s')
      fun _ _ A' _ _ hq => own_strOf (A := A'.in1) hq.2.1 hf hs hq.1 hq.2.2.1 hq.2.2.2.1 hq.2.2.2.2)
    ⟨(show A.units + 1 + 1 < cLine from hu), X, x, ht, typeIs_str _ _ _, h⟩
end
end Mine

open PySem PySem.W PyProof.Rows PySem.Calls
set_option Elab.async false
set_option linter.all false
set_option maxRecDepth 100000
namespace Mine
noncomputable def frs (l : List Env) : List Addr := l.filterMap (·.frame)
/-- the frames around, as the heap has them -/
noncomputable def FrOk (O : Addr → Prop) (h : Heap) (l : List Env) : Prop :=
  ∀ env ∈ l, env.scope.kind ≠ .module ∧ ∃ L o es n, env.frame = some L ∧ O L ∧ h.get? L = some o ∧ o.data = .dict es n
theorem mem_frs {l : List Env} {a : Addr} : a ∈ frs l ↔ ∃ env ∈ l, env.frame = some a := by simp [frs]
section
variable {Z : Zone} {A : Around} {env : Env} {O O' : Addr → Prop} {B : Addr → Obj → Prop} {own own' : List (Addr × List D)} {ρ ρ' : Rho} {s : Shared} {F : Addr → Prop} {h h' h'' : Heap} {tk : Nat} {l : List Env}
theorem FrOk.dict (K : FrOk O h l) {a : Addr} (ha : a ∈ frs l) : O a ∧ ∃ o es n, h.get? a = some o ∧ o.data = .dict es n := by
  obtain ⟨env, he, hf⟩ := mem_frs.mp ha
  obtain ⟨_, L, o, es, n, hL, hO, ho, hd⟩ := K env he
  rw [hf] at hL
  cases hL
  exact ⟨hO, o, es, n, ho, hd⟩
theorem FrOk.isFun (K : FrOk O h l) (h' : Heap) : h.FunFrames (hideAll h' (frs l)) l := by
  have go : ∀ (l' : List Env), (∀ env ∈ l', env ∈ l) → h.FunFrames (hideAll h' (frs l)) l' := by
    intro l'
    induction l' with
    | nil => intro _; trivial
    | cons env r ih =>
      intro hs
      obtain ⟨hk, L, o, es, n, hL, hO, ho, hd⟩ := K env (hs env (.head _))
      exact ⟨hk, ⟨L, o, hL, hideAll_none _ (mem_frs.mpr ⟨env, hs env (.head _), hL⟩), ho, fun vs q => by rw [hd] at q; cases q⟩, ih fun e he => hs e (.tail _ he)⟩
  exact go l fun _ h => h
theorem FrOk.notTab (K : FrOk O h l) (t : Tab Z O h) {a : Addr} (ha : a ∈ frs l) : ¬ isTab Z a := by
  obtain ⟨_, o, es, n, ho, hd⟩ := K.dict ha
  rintro ⟨q, hq, rfl⟩
  obtain ⟨_, ps, g, _⟩ := t q hq
  rw [g] at ho; cases ho; cases hd
/-- all stays but the tables and, in their slots, the frames -/
structure GrowS (Z : Zone) (O : Addr → Prop) (F : Addr → Prop) (h h' : Heap) : Prop where
  keep : ∀ b o, ¬ isTab Z b → ¬ F b → h.get? b = some o → h'.get? b = some o
  slots : ∀ b o, F b → h.get? b = some o → ∃ sl, h'.get? b = some { o with slots := sl }
  tab : Tab Z O h'
theorem GrowS.of_grow (g : Grow Z O h h') (hF : ∀ b, F b → ¬ isTab Z b) : GrowS Z O F h h' where
  keep := fun b o n _ e => g.1 b o n e
  slots := fun b o hb e => ⟨o.slots, g.1 b o (hF b hb) e⟩
  tab := g.2.2
theorem GrowS.trans (x : GrowS Z O F h h') (y : GrowS Z O F h' h'') : GrowS Z O F h h'' where
  keep := fun b o n f e => y.keep b o n f (x.keep b o n f e)
  slots := fun b o hb e => by
    obtain ⟨sl, e1⟩ := x.slots b o hb e
    obtain ⟨sl2, e2⟩ := y.slots b _ hb e1
    exact ⟨sl2, e2⟩
  tab := y.tab
theorem GrowS.ns (g : GrowS Z O F h h') {a : Addr} {m : PySem.Str → Option Value} (hn : h.Ns a m) (ht : ¬ isTab Z a) : h'.Ns a m := by
  obtain ⟨o, es, ep, ho, hd, r⟩ := hn
  by_cases hF : F a
  · obtain ⟨sl, e⟩ := g.slots a o hF ho
    exact ⟨_, es, ep, e, hd, r⟩
  · exact ⟨o, es, ep, g.keep a o ht hF ho, hd, r⟩
theorem GrowS.rep (g : GrowS Z O F h h') (hF : ∀ b, F b → O b) {T T' : Nat} (hT : T ≤ T') {d : D} {v : Value} (r : Rep O h T d v) : Rep O h' T' d v :=
  Rep.keep (fun b o n e => ⟨g.keep b o (fun q => n (g.tab.isO q)) (fun q => n (hF b q)) e, n⟩) hT d r
theorem GrowS.reps (g : GrowS Z O F h h') (hF : ∀ b, F b → O b) {T T' : Nat} (hT : T ≤ T') {d : List D} {v : List Value} (r : Reps O h T d v) : Reps O h' T' d v :=
  Reps.keep (fun b o n e => ⟨g.keep b o (fun q => n (g.tab.isO q)) (fun q => n (hF b q)) e, n⟩) hT d r
theorem Wd.growS {tk : Nat} (x : Wd Z O s) (g : GrowS Z O F s.heap h') (hF : ∀ b, F b → O b) (hT : s.toks ≤ tk) : Wd Z O { s with heap := h', toks := tk } where
  zone := fun b o e => g.keep b o (fun q => x.OZ b o (g.tab.isO q) e) (fun q => x.OZ b o (hF b q) e) (x.zone b o e)
  OZ := x.OZ
  Oex := fun b hb => by
    obtain ⟨o, e⟩ := x.Oex b hb
    by_cases ht : isTab Z b
    · obtain ⟨q, hq, rfl⟩ := ht
      obtain ⟨_, ps, g, _⟩ := g.tab q hq
      exact ⟨_, g⟩
    · by_cases hf : F b
      · obtain ⟨sl, e⟩ := g.slots b o hf e; exact ⟨_, e⟩
      · exact ⟨o, g.keep b o ht hf e⟩
  tabs := g.tab
  pos := Nat.lt_of_lt_of_le x.pos hT
theorem St.growS (X : St Z env O B own ρ s) (g : GrowS Z O F s.heap h') (hF : ∀ b, F b → O b ∧ (∀ o, ¬ B b o) ∧ ∃ o es n, s.heap.get? b = some o ∧ o.data = .dict es n) (hT : s.toks ≤ tk) :
    St Z env O B own ρ { s with heap := h', toks := tk } where
  base := fun b o e => g.keep b o (fun q => X.tabB b o q e) (fun q => (hF b q).2.1 o e) (X.base b o e)
  zone := X.zone
  OH := X.OH
  tabB := X.tabB
  LB := X.LB
  ownB := X.ownB
  ownD := X.ownD
  Oex := (X.wd.growS g (fun b q => (hF b q).1) hT).Oex
  tabs := g.tab
  pos := Nat.lt_of_lt_of_le X.pos hT
  OL := X.OL
  loc := by
    obtain ⟨m, hn, r⟩ := X.loc
    exact ⟨m, g.ns hn (Ns.notTab X.tabs hn), fun y d hk hg => by obtain ⟨v, e, p⟩ := r y d hk hg; exact ⟨v, e, g.rep (fun b q => (hF b q).1) hT p⟩⟩
  cel := fun y c hy hc => by
    obtain ⟨ov, hv, r⟩ := X.cel y c hy hc
    have hn := Cell.notTab X.tabs hv
    obtain ⟨o, ho, hd⟩ := hv
    refine ⟨ov, ⟨o, g.keep _ o hn (fun q => ?_) ho, hd⟩, fun d hg => by obtain ⟨v, e, p⟩ := r d hg; exact ⟨v, e, g.rep (fun b q => (hF b q).1) hT p⟩⟩
    obtain ⟨_, _, o', es, n, e', hd'⟩ := hF c q
    rw [ho] at e'; cases e'; rw [hd] at hd'; cases hd'
  ownd := fun p hp => by
    obtain ⟨ho, vs, hl, r⟩ := X.ownd p hp
    have hn := Plain.notTab X.tabs hl
    obtain ⟨n, e⟩ := hl
    refine ⟨ho, vs, ⟨n, g.keep _ _ hn (fun q => ?_) e⟩, g.reps (fun b q => (hF b q).1) hT r⟩
    obtain ⟨_, _, o', es, n', e', hd'⟩ := hF p.1 q
    rw [e] at e'; cases e'; cases hd'
end
end Mine

open PySem PySem.W PyProof.Rows PySem.Calls
set_option Elab.async false
set_option linter.all false
set_option maxRecDepth 100000
namespace Mine
inductive XArg where
  | any
  | one (x : PySem.Str)
  | nil
/-- what is known of the first of an exception's args -/
noncomputable def ArgIs : XArg → Value → Heap → Prop
  | .any, _, _ => True
  | .one x, a0, h => ∃ t tok, a0 = .ref t ∧ h.TupAt t [.str x tok]
  | .nil, a0, h => ∃ t, a0 = .ref t ∧ h.TupAt t []
theorem ArgIs.slots {x : XArg} {a0 : Value} {h h' : Heap} (a : ArgIs x a0 h) (k : h.UpToSlots h') : ArgIs x a0 h' := by
  cases x with
  | any => trivial
  | one x =>
    obtain ⟨t, tok, e, ht⟩ := a
    exact ⟨t, tok, e, ht.of_slots k⟩
  | nil =>
    obtain ⟨t, e, ht⟩ := a
    exact ⟨t, e, ht.of_slots k⟩
/-- an exception, made just now -/
noncomputable def RaisedAt (hr h' : Heap) (e : Addr) (cls : Value) (x : XArg) : Prop :=
  (∀ b o, hr.get? b = some o → h'.get? b = some o) ∧ hr.get? e = none ∧ ∃ oe vs a0, h'.get? e = some oe ∧ oe.cls = cls ∧ oe.data = .fields vs ∧ vs[1]? = some .none ∧ vs[0]? = some a0 ∧ ArgIs x a0 h'
theorem RaisedAt.of_made {hr h' : Heap} {e : Addr} {cls : Value} {x : PySem.Str} {tok : Tok} (m : Heap.MadeExcOf hr h' e cls [.str x tok]) : RaisedAt hr h' e cls (.one x) := by
  obtain ⟨t, he, htn, ht⟩ := m.there
  exact ⟨m.keeps, m.new, _, _, .ref t, he, rfl, rfl, rfl, rfl, t, tok, rfl, ⟨_, _, ht, rfl, rfl⟩⟩
theorem RaisedAt.of_made' {hr h' : Heap} {e : Addr} {cls : Value} {vs : List Value} (m : Heap.MadeExcOf hr h' e cls vs) : RaisedAt hr h' e cls .any := by
  obtain ⟨t, he, htn, ht⟩ := m.there
  exact ⟨m.keeps, m.new, _, _, .ref t, he, rfl, rfl, rfl, rfl, trivial⟩
theorem RaisedAt.of_made0 {hr h' : Heap} {e : Addr} {cls : Value} (m : Heap.MadeExcOf hr h' e cls []) : RaisedAt hr h' e cls .nil := by
  obtain ⟨t, he, htn, ht⟩ := m.there
  exact ⟨m.keeps, m.new, _, _, .ref t, he, rfl, rfl, rfl, rfl, t, rfl, ⟨_, _, ht, rfl, rfl⟩⟩
/-- an exception under way to the frames l -/
structure Up (Z : Zone) (O : Addr → Prop) (l : List Env) (e : Addr) (cls : Value) (x : XArg) (h h' : Heap) : Prop where
  fly : ∃ base a0, Heap.FlyingW base l e cls a0 h' ∧ (∀ b o, ¬ isTab Z b → b ∉ frs l → h.get? b = some o → base.get? b = some o) ∧ Tab Z O base ∧ ArgIs x a0 h'
  slots : ∀ b o, b ∈ frs l → h.get? b = some o → ∃ sl, h'.get? b = some { o with slots := sl }
section
variable {Z : Zone} {A : Around} {O O' : Addr → Prop} {s : Shared} {F : Addr → Prop} {h h' h'' : Heap} {tk : Nat} {outer : List Env}
theorem Up.growS {l : List Env} {e : Addr} {cls : Value} {x : XArg} (u : Up Z O l e cls x h h') : GrowS Z O (· ∈ frs l) h h' := by
  obtain ⟨base, a0, fly, keep, tab, _⟩ := u.fly
  exact ⟨fun b o n f e => fly.1 b o (keep b o n f e), fun b o f e => u.slots b o f e, tab.stay fun b o e => fly.1 b o e⟩
theorem leave_raised {env : Env} {L e : Addr} {cls : Value} {x : XArg} {hin hr : Heap} {Q : Unit → Shared → Prop} {E : Value → Shared → Prop} {M : Model}
    (hfr : A.frames = some (env :: outer)) (hf : env.frame = some L) (K : FrOk O hr (env :: outer)) (tab : Tab Z O hr) (tabO : ∀ q ∈ Z.tl, O' q.P) (hO : ∀ b, O' b → O b)
    (R : RaisedAt hr s.heap e cls x) (hin_ : ∀ b o, ¬ isTab Z b → hin.get? b = some o → hr.get? b = some o) (hL : hin.get? L = none) (hFt : ∀ b ∈ frs outer, ¬ isTab Z b)
    (hQ : ∀ h', Up Z O' outer e cls x hin h' → Q () { s with heap := h' }) : wpAny M A (leaving env (.ref e)) Q E s := by
  obtain ⟨kr, en, oe, vs, a0, he, hc, hd, h1, h0, ha⟩ := R
  subst hc
  have hb : ∀ b o, (hideAll hr (frs (env :: outer))).get? b = some o → hr.get? b = some o := fun b o e => of_hideAll _ e
  have en' : (hideAll hr (frs (env :: outer))).get? e = none := by
    cases q : (hideAll hr (frs (env :: outer))).get? e with
    | none => rfl
    | some o => have := hb e o q; rw [en] at this; cases this
  refine wpAny_leaving_firstW (base := hideAll hr (frs (env :: outer))) (a0 := a0) hfr ((K.isFun hr).of_keeps fun b o e' _ => ⟨o, kr b o e', rfl⟩) hf he (fun b o e' => kr b o (hb b o e')) en' hd h1 h0 fun h3 ⟨k1, ⟨_, _, k2⟩, k3, k4⟩ => ?_
  refine hQ h3 ⟨⟨_, a0, ⟨k1, en', k2, k3⟩, fun b o nt nf e' => ?_, fun q hq => ?_, ha.slots k4⟩, fun b o hb' e' => ?_⟩
  · refine hideAll_get _ (hin_ b o nt e') fun hm => ?_
    obtain ⟨env', he', hf'⟩ := mem_frs.mp hm
    rcases List.mem_cons.mp he' with rfl | he'
    · rw [hf] at hf'; cases hf'; rw [hL] at e'; cases e'
    · exact nf (mem_frs.mpr ⟨env', he', hf'⟩)
  · obtain ⟨ho, ps, g, r⟩ := tab q hq
    refine ⟨tabO q hq, ps, hideAll_get _ g fun hm => K.notTab tab hm ⟨q, hq, rfl⟩, r.imp id fun ⟨c, e, n, x⟩ => ⟨c, e, fun z => n (hO c z), CodeRec.up (fun o e => hideAll_get _ e fun hm => n (K.dict hm).1) x⟩⟩
  · have e2 := hin_ b o (hFt b hb') e'
    obtain ⟨_, o', es, n, ho', hd'⟩ := K.dict (a := b) (by
      obtain ⟨env', he', hf'⟩ := mem_frs.mp hb'
      exact mem_frs.mpr ⟨env', .tail _ he', hf'⟩)
    rw [e2] at ho'; cases ho'
    exact k4 b o (kr b o e2) fun vs q => by rw [hd'] at q; cases q
theorem FrOk.more {l : List Env} {hin hr : Heap} (K : FrOk O' hin l) (hO : ∀ b, O' b → O b) (hin_ : ∀ b o, b ∈ frs l → hin.get? b = some o → hr.get? b = some o) : FrOk O hr l := fun env he => by
  obtain ⟨hk, L, o, es, n, hL, hO', ho, hd⟩ := K env he
  exact ⟨hk, L, o, es, n, hL, hO _ hO', hin_ _ _ (mem_frs.mpr ⟨env, he, hL⟩) ho, hd⟩

theorem fn_enterG {f : Addr} {o : Obj} {fd : FuncData} {body : List Stmt} {vs : List Value} {ns : List PySem.Str} {ds : List D} {d : D} {R : Result → Shared → Prop} (okP : Prop) (badP : Value → XArg → Prop) (G : ZoneOk Z) (W : Wd Z O s) (hroom : A.depth < recursionLimit)
    (hfr : A.frames = some outer) (K : FrOk O s.heap outer)
    (hf : Z.H.get? f = some o) (hd : o.data = .func fd) (hcd : s.heap.CodeRec fd.code fd.qualname) (hb : fd.body = .stmts body) (hbind : bindArgs fd ⟨vs, []⟩ = pure (ns.zip vs))
    (hcell : ∀ x ∈ fd.scope.names, x.2 ≠ .cell) (hloc : ∀ n ∈ ns, fd.scope.names.lookup n = some .local) (hns : ns.Nodup)
    (hco : fd.scope.isCoroutine = false) (hgen : fd.scope.isGenerator = false) (hk : fd.scope.kind = .function)
    (r : Reps O s.heap s.toks ds vs) (hcl : ∀ L : Addr, (callEnv fd L f).cells = []) (hfm : ∀ L : Addr, (callEnv fd L f).frame = some L)
    (h : ∀ (L : Addr) (h₁ : Heap) (t₁ : Nat), St Z (callEnv fd L f) (fun b => O b ∨ b = L) (Stood Z s.heap) [] (ns.zip ds) { s with heap := h₁, toks := t₁ } →
      (A.deeper (callEnv fd L f)).frames = some (callEnv fd L f :: outer) → s.heap.get? L = none → 
      ∀ (Q : Flow → Shared → Prop) (E : Value → Shared → Prop),
        (∀ v h' tk, okP → GrowS Z (fun b => O b ∨ b = L) (· ∈ frs outer) s.heap h' → Rep (fun b => O b ∨ b = L) h' tk d v → Q (.ret v) { s with heap := h', toks := tk }) →
        (∀ cls x e hr h'' tk own ρ, badP cls x → St Z (callEnv fd L f) (fun b => O b ∨ b = L) (Stood Z s.heap) own ρ { s with heap := hr, toks := tk } → RaisedAt hr h'' e cls x → E (.ref e) { s with heap := h'', toks := tk }) →
        Xs Z (A.deeper (callEnv fd L f)) body (callEnv fd L f) Q E { s with heap := h₁, toks := t₁ })
    (hret : ∀ v h' tk, okP → GrowS Z O (· ∈ frs outer) s.heap h' → s.toks ≤ tk → Rep O h' tk d v → R (.ok (.ret v)) { s with heap := h', toks := tk })
    (hup : ∀ cls x e h' tk, badP cls x → Up Z O outer e cls x s.heap h' → s.toks ≤ tk → R (.error (.ref e)) { s with heap := h', toks := tk }) :
    codeAny (model Z.prog Z.w) A (.call (.ref f) ⟨vs, []⟩) R s := by
  have hlim : s.heap.NoLimit := by
    obtain ⟨mc, hn, e⟩ := G.nolimit
    exact ⟨mc, W.ns hn, e⟩
  have hρ := binds_ok r hns
  refine codeAny_with_toks (n := s.toks) (Nat.le_refl _) (codeAny_call_def hroom (W.zone _ _ hf) hd hlim hcd hb (BindsTo.of_eq hbind) hcell (fun x hx => hloc _ (List.of_mem_zip hx).1) (fun h₁ hn hk₁ => ?_) hco hgen hk)
  have fresh : s.heap.get? s.heap.objs.size = none := get_size _
  have new : ∀ b o, s.heap.get? b = some o → b ≠ s.heap.objs.size := fun b o e q => by rw [q, fresh] at e; cases e
  have hmore : ∀ b o, s.heap.get? b = some o → (O b ∨ b = s.heap.objs.size) → O b := fun b o e q => q.elim id fun z => absurd z (new b o e)
  have hL : (callEnv fd s.heap.objs.size f).locals = s.heap.objs.size := rfl
  have htab : Tab Z (fun b => O b ∨ b = s.heap.objs.size) h₁ := (W.tabs.more hmore fun b q => .inl q).stay hk₁
  refine (h s.heap.objs.size h₁ _ ?_ (Around.frames_deeper hfr) fresh _ _ (fun v h' tk hok g r => ?_) fun cls x e hr h'' tk own ρ hbad X Rr => ?_).run
  · exact {
      base := fun b o e => hk₁ b o e.1
      zone := fun b o e => ⟨W.zone b o e, fun q => W.OZ b o (W.tabs.isO q) e⟩
      OH := fun b o hb e => hb.elim (fun q => W.OZ b o q e) fun q => new b o (W.zone b o e) q
      tabB := fun b o q e => e.2 q
      LB := fun o e => new _ o e.1 rfl
      ownB := fun p hp => nomatch hp
      ownD := List.nodup_nil
      Oex := fun b hb => by
        rcases hb with hb | rfl
        · obtain ⟨o, e⟩ := W.Oex b hb; exact ⟨o, hk₁ b o e⟩
        · obtain ⟨o, _, _, e, _⟩ := hn; exact ⟨o, e⟩
      tabs := htab
      pos := Nat.lt_of_lt_of_le W.pos (Nat.le_add_right _ _)
      OL := .inr rfl
      loc := ⟨_, hn, fun x d' _ hg => by
        obtain ⟨v, e, r⟩ := hρ x d' hg
        exact ⟨v, e, ((r.more hmore).grow (Grow.of (W.tabs.more hmore fun b q => .inl q) hk₁) (Nat.le_add_right _ _))⟩⟩
      cel := fun x c _ hc => by rw [hcl] at hc; cases hc
      ownd := fun p hp => nomatch hp }
  · intro hle
    exact hret v h' tk hok ⟨g.keep, g.slots, g.tab.less W.tabs fun b q => .inl q⟩ hle (r.less fun b q => .inl q)
  · have hin_ : ∀ b o, ¬ isTab Z b → s.heap.get? b = some o → hr.get? b = some o := fun b o n e => X.base b o ⟨e, n⟩
    have hFt : ∀ b ∈ frs outer, ¬ isTab Z b := fun b hb => K.notTab W.tabs hb
    have K' : FrOk (fun b => O b ∨ b = s.heap.objs.size) hr (callEnv fd s.heap.objs.size f :: outer) := by
      intro env he
      rcases List.mem_cons.mp he with rfl | he
      · obtain ⟨m, ⟨o, es, n, ho, hd, _⟩, _⟩ := X.loc
        exact ⟨(by rw [show (callEnv fd s.heap.objs.size f).scope.kind = fd.scope.kind from rfl, hk]; decide), _, o, es, n, hfm _, .inr rfl, ho, hd⟩
      · exact (K.more (O := fun b => O b ∨ b = s.heap.objs.size) (fun b q => .inl q) fun b o hb e => hin_ b o (hFt b hb) e) env he
    refine leave_raised (s := { s with heap := h'', toks := tk }) (O := fun b => O b ∨ b = s.heap.objs.size) (O' := O) (hin := s.heap) (Around.frames_deeper hfr) (hfm _) K' X.tabs (fun q hq => (W.tabs q hq).1) (fun b q => .inl q) Rr hin_ fresh hFt fun h' u => ?_
    intro hle
    exact hup cls x e h' tk hbad u hle
end
end Mine

open PySem PySem.W PyProof.Rows PySem.Calls
set_option Elab.async false
set_option linter.all false
set_option maxRecDepth 100000
namespace Mine
structure ZT (Z : Zone) : Prop extends ZL Z where
  top : ∃ p loose, TopRead p loose Z.mg Z.mb Z.H
noncomputable def bmE : List Value := [.type "Exception", .type "BaseException", .type "object"]
section
variable {Z : Zone} {A : Around} {env : Env} {O O' : Addr → Prop} {B : Addr → Obj → Prop} {own own' : List (Addr × List D)} {ρ ρ' : Rho} {s : Shared} {E : Value → Shared → Prop} {Q : Flow → Shared → Prop} {rest : List Stmt}
theorem x_raiseOwn {x : PySem.Str} {np cpos pos : Pos} {e0 : PySem.Expr} {y : PySem.Str} {C : Addr} (G : ZT Z) (ok : EnvOk env) (hA : A.handled = none) (X : St Z env O B own ρ s) (ev : Ev Z A env O B own ρ e0 (.str y))
    (e : nsIn (KK Z.w.params) mainGlobals x = some (some (.ref C))) (q : excIn (KK Z.w.params) C bmE "Exception.__new__" = true)
    (hup : ∀ e hr h'' tk own ρ, St Z env O B own ρ { s with heap := hr, toks := tk } → RaisedAt hr h'' e (.ref C) (.one y) → E (.ref e) { s with heap := h'', toks := tk })
    (he : starEach [e0] env = (false, eval e0 env) :: starEach [] env := by rfl) (hl : env.kindOf x = some .globalImplicit := by rfl) (hd : (x == ("__debug__" : PySem.Str)) = false := by decide) :
    Xs Z A (.Raise (some (.Call (.Name x np) [e0] [] cpos)) none pos :: rest) env Q E s := by
  obtain ⟨p, loose, T⟩ := G.top
  refine Xs.cons ?_
  have FB := F.excBase_Exception
  obtain ⟨tl, N, nm, q', bs, hdct, sn, sub, ab, col, dd, k0, k1, k2, k3, k5, mN, hC, hN, hni, TL⟩ := (own_of_in G.K T e q).obj
  refine wpAny_Raise_call_subT (C := C) (nm := nm) (q := q') (N := N) (bs := bs) (bm := tl) (hdct := hdct) (sn := sn) (sub := sub) (ab := ab) (col := col) (dd := dd) (k0 := k0) (k1 := k1) (k2 := k2) (k3 := k3) (k5 := k5)
    FB (mN := mN) (TL.hasType FB.hasBase) hA (by rw [he]; rfl) hni ?_
  refine Name_function_global ok.fn hl (loadGlobal_global (ok.gl ▸ X.wd.ns G.g) (mg_of G.K G.g e) ⟨rfl, ?_⟩) hd
  rw [he]
  refine evalArgs_plain (x := eval e0 env) (rest := []) ?_
  refine spliced_cons (ev.run s X _ _ fun v h₁ t₁ g₁ le₁ r₁ => spliced_nil ?_)
  simp only [Rep] at r₁
  obtain ⟨tok, rfl⟩ := r₁
  have X₁ := X.grow g₁ le₁
  exact ⟨rfl, by simp [sizeLine], X₁.wd.zone _ _ hC, X₁.wd.ns hN, TL.keeps X₁.wd.zone, fun h' e' hm => hup e' h₁ h' t₁ own ρ X₁ (RaisedAt.of_made hm)⟩
end
end Mine

open PySem PySem.W PyProof.Rows PySem.Calls
set_option Elab.async false
set_option linter.all false
set_option maxRecDepth 100000
namespace Mine
open PySem.NumText
section
variable {prog : Program} {w : World} {A : Around} {E : Value → Shared → Prop} {s : Shared}
theorem wpC_mark {own : List String} {e : Value} {Q : Unit → Shared → Prop} (h : Q () s) : wpC (model prog w) A (markTheRefusal own e) Q E s := by
  unfold markTheRefusal
  refine wpC_bind (wpC_stack fun st hst => ?_)
  have hf : pythonCodeMadeTheCall own (st.map (·.1)) = false := by
    unfold pythonCodeMadeTheCall
    have key : ∀ a b c : Bool, a = true → ((!a && b) && c) = false := by intro a b c h; rw [h]; rfl
    exact key _ _ _ (by rw [List.any_map]; exact hst)
  rw [hf]
  exact wpC_pure h
theorem wpC_fromText {x : PySem.Str} {u : Tok} {Q : Value → Shared → Prop} (hA : A.handled = none) (hl : x.length ≤ 640) (hx : ∀ c ∈ x.cps.toList, c < 16 ^ 8) (hn : PySem.intText? x = none)
    (h : ∀ h' tk e vs, s.toks ≤ tk → Heap.MadeExc s.heap h' e "ValueError" vs → E (.ref e) { s with heap := h', toks := tk }) :
    wpC (model prog w) A ((int_private% "intFromText") (.str x u) (numTextOf x) 10) Q E s := by
  have hs : (numSeenOf x).length ≤ 640 := Nat.le_trans (seen_length x) hl
  have tail : wpC (model prog w) A (do
      let shown ← pyRepr (.str x u)
      let refusal ← newExc (.type "ValueError") [← mkStr (((s!"invalid literal for int() with base {(10 : Nat)}: " : String) ++ ⟨shown.cps.extract 0 200⟩ : PySem.Str))]
      markTheRefusal ["int.__new__"] refusal
      raiseNew refusal) Q E s := by
    refine wpC_then (wpAny_bind (wpAny_pyReprObj_gives (typeIs_str _ _ _) F.slot_str_repr F.entry_str_repr (F.args_str_repr_1 _) (gives_str_repr x u) ?_ rfl ?_))
    · refine wpAny_pure ?_
      refine wpC_then (wpAny_mkStr ?_ ?_)
      · refine wpC_then (wpAny_newExc_plain plainExc_ValueError (fun h' e hm => ?_) (by simp [sizeLine]))
        refine wpC_bind (wpC_mark ?_)
        exact wpC_of_any (wpAny_raiseNew_none hA (h h' _ e _ (by show s.toks ≤ s.toks + 1 + 1; omega) hm))
      · show ((Str.ofString _).cps ++ (reprText x).cps.extract 0 200).size ≤ sizeLine
        have h1 : (Str.ofString (toString "invalid literal for int() with base " ++ toString (10 : Nat) ++ toString ": ")).cps.size ≤ 100 := by decide +kernel
        rw [Array.size_append, sizeLine_eq]
        have h2 : ((reprText x).cps.extract 0 200).size ≤ 200 := by simp; omega
        omega
    · have := StrLaws.reprText_len x hx
      rw [sizeLine_eq]; omega
  rcases read0 x hs with ⟨m, h1, _⟩ | ⟨_, h2 | ⟨i, h2, h3⟩⟩
  · rw [hn] at h1; cases h1
  · show wpC (model prog w) A (if (numSeenOf x).length ≤ 640 then _ else _) Q E s
    rw [if_pos hs]
    refine wpC_then (wpAny_pure ?_)
    dsimp only
    rw [h2]
    refine wpC_then (wpAny_pure ?_)
    rw [if_neg (fun z => by cases z)]
    refine wpC_then (wpAny_rule ?_)
    exact wpC_then (wpAny_pure tail)
  · show wpC (model prog w) A (if (numSeenOf x).length ≤ 640 then _ else _) Q E s
    rw [if_pos hs]
    refine wpC_then (wpAny_pure ?_)
    dsimp only
    rw [h2]
    dsimp only
    rw [if_neg h3]
    refine wpC_then (wpAny_rule ?_)
    exact wpC_then (wpAny_pure tail)
theorem wpC_intNew {x : PySem.Str} {u : Tok} {Q : PySem.Fin → Shared → Prop} (hA : A.handled = none) (hl : x.length ≤ 640) (hx : ∀ c ∈ x.cps.toList, c < 16 ^ 8) (hn : PySem.intText? x = none)
    (h : ∀ h' tk e vs, s.toks ≤ tk → Heap.MadeExc s.heap h' e "ValueError" vs → E (.ref e) { s with heap := h', toks := tk }) :
    wpC (model prog w) A (Builtin.«int.__new__» ⟨[.type "int", .str x u], []⟩) Q E s := by
  unfold Builtin.«int.__new__»
  dsimp only
  refine wpC_then (wpAny_pure ?_)
  rw [if_neg (by decide)]
  refine wpC_then (wpAny_of_eq F.conv_sub_int ?_)
  rw [if_neg (by decide)]
  refine wpC_then (wpAny_of_eq F.madeHere_int ?_)
  rw [if_neg (by simp)]
  rw [if_neg (by simp)]
  refine wpC_then ?_
  rw [List.forIn_nil]
  refine wpAny_pure ?_
  refine wpC_bind ?_
  have sp : ∀ name r, typeLookup (.type "str") name = pure r → specialOf (.str x u) name = pure r := fun name r e => (show specialOf _ _ = typeLookup (.type "str") name from rfl).trans e
  have c1 : callSpecial? (.str x u) "__int__" = pure none := by
    unfold callSpecial?
    rw [sp _ _ KIN.str_int]; rfl
  show wpC _ _ (callSpecial? (.str x u) "__int__" >>= _) _ _ _
  refine wpC_then (wpAny_of_eq c1 ?_)
  dsimp only
  refine wpC_then (wpAny_of_eq (sp _ _ KIN.str_idx) ?_)
  rw [if_neg (fun z => by cases z)]
  refine wpC_then (wpAny_of_eq (sp _ _ KIN.str_trunc) ?_)
  dsimp only
  refine wpC_then (wpAny_pure ?_)
  exact wpC_fromText hA hl hx hn h
end
end Mine

open PySem PySem.W PyProof.Rows PySem.Calls
set_option Elab.async false
set_option linter.all false
set_option maxRecDepth 100000
namespace Mine
section
variable {prog : Program} {w : World} {A : Around} {E : Value → Shared → Prop} {s : Shared} {R : Result → Shared → Prop}
theorem codeC_builtin {id : String} {args : Args} {b : Builtin} (hb : entryFor table id = some b) (h : wpC (model prog w) (A.under (.builtin id args)) (b args) (FinC (model prog w) A R) (fun e s' => R (.error e) s') s) : codeC (model prog w) A (.builtin id args) R s := by
  refine codeC_of_tree ?_
  show wpC _ _ (match entryFor table id with | some b => b args | none => unsupported ((withoutEnding? id "#data").getD id)) _ _ s
  rw [hb]; exact h
theorem wpC_int_bad {x : PySem.Str} {u : Tok} {Q : Value → Shared → Prop} (hA : A.handled = none) (hl : x.length ≤ 640) (hx : ∀ c ∈ x.cps.toList, c < 16 ^ 8) (hn : PySem.intText? x = none)
    (h : ∀ h' tk e vs, s.toks ≤ tk → Heap.MadeExc s.heap h' e "ValueError" vs → E (.ref e) { s with heap := h', toks := tk }) :
    wpC (model prog w) A (call (.type "int") [.str x u]) Q E s := by
  refine wpC_call (codeC_of_tree ?_)
  show wpC _ _ (callAny (.type "int") ⟨[.str x u], []⟩) _ _ _
  simp only [callAny]
  refine wpC_pure ⟨Code.quiet_builtin _ (by decide +kernel), codeC_builtin F.entry_type_call ?_⟩
  unfold Builtin.«type.__call__»
  dsimp only
  rw [if_neg (by decide)]
  have ft := F.called_int
  rw [if_neg (by rw [ft.canCreate]; decide)]
  refine wpC_then (wpAny_of_eq (F.typeCall_int_1 _) ?_)
  refine wpC_then (wpAny_of_eq F.mro_int ?_)
  rw [if_neg (by decide)]
  refine wpC_then (wpAny_of_eq ft.made ?_)
  dsimp only
  refine wpC_then (wpAny_pure ?_)
  refine wpC_bind (wpC_holding (wpC_call (codeC_of_tree ?_)))
  show wpC _ (Around.in1 _) (do checkBuiltinCall "int.__new__" ⟨[.type "int", .str x u], []⟩; again (.builtin "int.__new__" ⟨[.type "int", .str x u], []⟩)) _ _ _
  refine wpC_then (wpAny_of_eq (F.newCall_int_1 _) ?_)
  refine wpC_pure ⟨Code.quiet_builtin _ (by decide +kernel), codeC_builtin F.entry_int_new ?_⟩
  exact wpC_intNew (by exact hA) hl hx hn h
end
end Mine

open PySem PySem.W PyProof.Rows PySem.Calls
set_option Elab.async false
set_option linter.all false
set_option maxRecDepth 100000
namespace Mine
section
variable {M : Model} {A : Around} {E : Value → Shared → Prop} {s : Shared}
theorem wpC_callMarked {m f : Value} {pos : List Value} {kw : List (PySem.Str × Value)} {Q : Value → Shared → Prop} (h : wpC M A (call f pos kw) Q E s) : wpC M A (callMarked m f pos kw) Q E s := by
  unfold callMarked
  exact fun Γ p hΓ hcl => by rw [Sem.wp_keep]; exact h Γ p hΓ hcl
theorem wpC_callWith_type {pos : Pos} {T : String} {args : List (Bool × Sem Value)} {Q : Value → Shared → Prop} (hplain : args.any (·.1) = false)
    (h : wpAny M A (evalArgs (.type T) true args []) (fun a s₁ => wpC M A (call (.type T) a.pos a.kw) Q E s₁) E s) : wpC M A (callWith pos (.type T) [] args []) Q E s := by
  unfold callWith
  refine wpC_bind (wpC_holding (wpC_of_any (wpAny_mono h (fun a s₁ h₁ => wpC_then (wpAny_standAt ?_)) fun _ _ x => x)))
  simp only [hplain, List.any_nil, Bool.or_false]
  refine wpC_then (wpAny_pure ?_)
  exact wpC_bind (wpC_mono h₁ (fun r s₂ hr => wpC_of_any (wpAny_bind (wpAny_holding (wpAny_point (wpAny_pure hr))))) fun _ _ x => x)
theorem wpC_callWith_function {pos : Pos} {a : Addr} {o : Obj} {fd : FuncData} {args : List (Bool × Sem Value)} {Q : Value → Shared → Prop}
    (h : wpAny M A (evalArgs (.ref a) true args []) (fun x s₁ => (s₁.heap.get? a = some o ∧ o.data = .func fd) ∧ wpC M A (call (.ref a) x.pos x.kw) Q E s₁) E s) : wpC M A (callWith pos (.ref a) [] args []) Q E s := by
  unfold callWith
  refine wpC_bind (wpC_holding (wpC_of_any (wpAny_mono h (fun x s₁ h₁ => wpC_then (wpAny_standAt ?_)) fun _ _ x => x)))
  have tail : ∀ {t : Sem Value}, wpC M A t Q E s₁ → wpC M A (t >>= fun r => holding [r] point >>= fun _ => pure r) Q E s₁ :=
    fun ht => wpC_bind (wpC_mono ht (fun r s₂ hr => wpC_of_any (wpAny_bind (wpAny_holding (wpAny_point (wpAny_pure hr))))) fun _ _ x => x)
  cases hs : args.any (·.1) <;> simp only [List.any_nil, Bool.or_false] <;>
    refine wpC_then (m := keeperOf (.ref a)) ?_ <;> unfold keeperOf <;>
    refine wpAny_bind (wpAny_load h₁.1.1 ?_) <;> rw [h₁.1.2] <;> refine wpAny_pure ?_
  · dsimp only
    first
      | (split <;> first | exact tail h₁.2 | exact tail (wpC_callMarked h₁.2))
      | exact tail h₁.2
      | exact tail (wpC_callMarked h₁.2)
      | exact tail h₁.2
  · first
      | exact tail (wpC_callMarked h₁.2)
      | exact tail h₁.2
end
section
variable {prog : Program} {w : World} {A : Around} {E : Value → Shared → Prop} {s : Shared} {R : Result → Shared → Prop}
theorem codeC_func {body env} (h : wpC (model prog w) (A.deeper env) (execs body env) (fun f s' => R (.ok (.ret (match f with | .ret v => v | _ => .none))) s')
      (fun e s' => wpAny (model prog w) (A.deeper env) (leaving env e) (fun _ s'' => R (.error e) s'') (fun e' s'' => R (.error e') s'') s') s) :
    codeC (model prog w) A (.func body env) R s := by
  refine codeC_of_tree ?_
  show wpC _ (A.deeper env) (do point; match ← (execs body env).onRaise (leaving env) with | .ret v => ret v | _ => ret .none) _ _ s
  refine wpC_then (wpAny_point (wpC_bind (wpC_onRaise (wpC_mono h (fun f s' h' => ?_) fun _ _ h' => wpC_of_any h'))))
  cases f <;> exact wpC_pure h'
theorem codeC_call_def {a : Addr} {o : Obj} {fd : FuncData} {body : List Stmt} {args : Args} {binds : List (PySem.Str × Value)}
    (hroom : A.depth < recursionLimit) (ho : s.heap.get? a = some o) (hdata : o.data = .func fd) (hlim : s.heap.NoLimit) (hcd : s.heap.CodeRec fd.code fd.qualname)
    (hbody : fd.body = .stmts body) (hbind : BindsTo s fd args binds)
    (hcell : ∀ x ∈ fd.scope.names, x.2 ≠ .cell) (hloc : ∀ x ∈ binds, fd.scope.names.lookup x.1 = some .local)
    (h : ∀ h₀, h₀.Ns s.heap.objs.size (fun x => binds.reverse.lookup x) → (∀ b o, s.heap.get? b = some o → h₀.get? b = some o) →
      wpC (model prog w) (A.deeper (callEnv fd s.heap.objs.size a)) (execs body (callEnv fd s.heap.objs.size a)) (fun f s' => R (.ok (.ret (match f with | .ret v => v | _ => .none))) s')
        (fun e s' => wpAny (model prog w) (A.deeper (callEnv fd s.heap.objs.size a)) (leaving (callEnv fd s.heap.objs.size a) e) (fun _ s'' => R (.error e) s'') (fun e' s'' => R (.error e') s'') s')
        { s with heap := h₀, toks := s.toks + binds.length })
    (hco : fd.scope.isCoroutine = false := by rfl) (hgen : fd.scope.isGenerator = false := by rfl) (hk : fd.scope.kind = .function := by rfl) :
    codeC (model prog w) A (.call (.ref a) args) R s := by
  refine codeC_of_tree (wpC_of_any ?_)
  show wpAny _ A.in1 (callAny (.ref a) args) _ _ s
  simp only [callAny]
  refine wpAny_bind (wpAny_load ho ?_)
  obtain ⟨c, oc, vs, tq, hc, hoc, hdc, hq⟩ := hcd
  simp only [hdata, callFunction, hco, hgen, hbody, hc]
  refine wpAny_bind (m := field (.ref c) 1) (wpAny_field hoc hdc hq (wpAny_bind (wpAny_pure ?_)))
  refine wpAny_bind (hbind _ _ _ _ ?_)
  refine wpAny_bind ?_
  rw [← hc]
  refine wpAny_newFunctionEnv hcell hloc (fun h₀ hns₀ hsb₀ => ?_) hk
  refine wpAny_bind (wpAny_enterFrame (hlim.fresh _ hsb₀) hroom (wpAny_pure ⟨rfl, codeC_func (h h₀ hns₀ fun b o e => ?_)⟩))
  exact hsb₀.extBut b o (Nat.ne_of_lt (Heap.lt_size e)) (Heap.get?_push_of_some _ e)
end
end Mine

open PySem PySem.W PyProof.Rows PySem.Calls
set_option Elab.async false
set_option linter.all false
set_option maxRecDepth 100000
namespace Mine
section
variable {Z : Zone} {A : Around} {env : Env} {O O' : Addr → Prop} {B : Addr → Obj → Prop} {own own' : List (Addr × List D)} {ρ ρ' : Rho} {s : Shared} {E : Value → Shared → Prop} {Q : Flow → Shared → Prop}
theorem execs_app (S2 : List Stmt) (env : Env) : ∀ S1 : List Stmt, execs (S1 ++ S2) env = (execs S1 env >>= fun f => match f with | .next => execs S2 env | f => pure f)
  | [] => by
    rw [List.nil_append, show execs [] env = pure .next from rfl, pure_bind]
  | st :: S1 => by
    rw [List.cons_append, execs_cons, execs_cons, bind_assoc]
    congr 1
    funext f
    cases f with
    | next => exact execs_app S2 env S1
    | _ => rw [pure_bind]
theorem xs_split {S1 S2 : List Stmt} (h : Xs Z A S1 env (fun f s' => match f with | .next => wpC (model Z.prog Z.w) A (execs S2 env) Q E s' | f => Q f s') E s) : wpC (model Z.prog Z.w) A (execs (S1 ++ S2) env) Q E s := by
  rw [execs_app]
  refine wpC_then (wpAny_mono h.run (fun f s' hf => ?_) fun _ _ e => e)
  cases f with
  | next => exact hf
  | _ => exact wpC_pure hf
theorem wpC_callT {f e : PySem.Expr} {es : List PySem.Expr} {pos : Pos} {T : String} {ds : List D} {Q : Value → Shared → Prop} (X : St Z env O B own ρ s) (hf : Ev Z A env O B own ρ f (.val (.type T))) (ha : Evs Z A env O B own ρ pos (e :: es) ds)
    (hc : ∀ h' tk vs, St Z env O B own ρ { s with heap := h', toks := tk } → s.toks ≤ tk → Reps O h' tk ds vs → wpC (model Z.prog Z.w) A (call (.type T) vs) Q E { s with heap := h', toks := tk })
    (he : eval (.Call f (e :: es) [] pos) env = (do callWith pos (← eval f env) [] (backTo pos (starEach (e :: es) env)) (backToKw pos (keywordEach [] env))) := by rfl)
    (hs : starEach (e :: es) env = (false, eval e env) :: starEach es env := by rfl) (hp : (backTo pos (starEach es env)).any (·.1) = false := by rfl) : wpC (model Z.prog Z.w) A (eval (.Call f (e :: es) [] pos) env) Q E s := by
  rw [he]
  refine wpC_then (hf.run s X _ _ fun v h₁ t₁ g₁ le₁ r₁ => ?_)
  simp only [Rep] at r₁
  subst r₁
  have ha2 := ha.run _ (X.grow g₁ le₁)
  rw [hs] at ha2 ⊢
  refine wpC_callWith_type (by show (false || (backTo pos (starEach es env)).any (·.1)) = false; rw [hp]; rfl) (evalArgs_plain (x := eval e env) (rest := backTo pos (starEach es env)) ?_)
  refine ha2 _ _ fun vs h₂ t₂ g₂ le₂ r₂ => ?_
  exact hc h₂ t₂ vs ((X.grow g₁ le₁).grow g₂ le₂) (Nat.le_trans le₁ le₂) r₂
theorem wpC_callF {fe e : PySem.Expr} {es : List PySem.Expr} {pos : Pos} {f : Addr} {o : Obj} {fd : FuncData} {ds : List D} {Q : Value → Shared → Prop} (X : St Z env O B own ρ s) (hF : B f o) (hd : o.data = .func fd) (hf : Ev Z A env O B own ρ fe (.val (.ref f))) (ha : Evs Z A env O B own ρ pos (e :: es) ds)
    (hc : ∀ h' tk vs, St Z env O B own ρ { s with heap := h', toks := tk } → Grow Z O s.heap h' → s.toks ≤ tk → Reps O h' tk ds vs → wpC (model Z.prog Z.w) A (call (.ref f) vs) Q E { s with heap := h', toks := tk })
    (he : eval (.Call fe (e :: es) [] pos) env = (do callWith pos (← eval fe env) [] (backTo pos (starEach (e :: es) env)) (backToKw pos (keywordEach [] env))) := by rfl)
    (hs : starEach (e :: es) env = (false, eval e env) :: starEach es env := by rfl) : wpC (model Z.prog Z.w) A (eval (.Call fe (e :: es) [] pos) env) Q E s := by
  rw [he]
  refine wpC_then (hf.run s X _ _ fun v h₁ t₁ g₁ le₁ r₁ => ?_)
  simp only [Rep] at r₁
  subst r₁
  have X₁ := X.grow g₁ le₁
  have ha2 := ha.run _ X₁
  rw [hs] at ha2 ⊢
  refine wpC_callWith_function (o := o) (fd := fd) (evalArgs_plain (x := eval e env) (rest := backTo pos (starEach es env)) ?_)
  refine ha2 _ _ fun vs h₂ t₂ g₂ le₂ r₂ => ⟨⟨(X₁.grow g₂ le₂).base f o hF, hd⟩, ?_⟩
  exact hc h₂ t₂ vs (X₁.grow g₂ le₂) (g₁.trans g₂) (Nat.le_trans le₁ le₂) r₂
end
section
variable {Z : Zone} {A : Around} {O O' : Addr → Prop} {s : Shared} {F : Addr → Prop} {h h' h'' : Heap} {tk : Nat} {outer : List Env}
theorem fn_enterGC {f : Addr} {o : Obj} {fd : FuncData} {body : List Stmt} {vs : List Value} {ns : List PySem.Str} {ds : List D} {d : D} {R : Result → Shared → Prop} (okP : Prop) (badP : Value → XArg → Prop) (G : ZoneOk Z) (W : Wd Z O s) (hroom : A.depth < recursionLimit)
    (hfr : A.frames = some outer) (K : FrOk O s.heap outer)
    (hf : Z.H.get? f = some o) (hd : o.data = .func fd) (hcd : s.heap.CodeRec fd.code fd.qualname) (hb : fd.body = .stmts body) (hbind : bindArgs fd ⟨vs, []⟩ = pure (ns.zip vs))
    (hcell : ∀ x ∈ fd.scope.names, x.2 ≠ .cell) (hloc : ∀ n ∈ ns, fd.scope.names.lookup n = some .local) (hns : ns.Nodup)
    (hco : fd.scope.isCoroutine = false) (hgen : fd.scope.isGenerator = false) (hk : fd.scope.kind = .function)
    (r : Reps O s.heap s.toks ds vs) (hcl : ∀ L : Addr, (callEnv fd L f).cells = []) (hfm : ∀ L : Addr, (callEnv fd L f).frame = some L)
    (h : ∀ (L : Addr) (h₁ : Heap) (t₁ : Nat), St Z (callEnv fd L f) (fun b => O b ∨ b = L) (Stood Z s.heap) [] (ns.zip ds) { s with heap := h₁, toks := t₁ } →
      (A.deeper (callEnv fd L f)).frames = some (callEnv fd L f :: outer) → s.heap.get? L = none → 
      ∀ (Q : Flow → Shared → Prop) (E : Value → Shared → Prop),
        (∀ v h' tk, okP → GrowS Z (fun b => O b ∨ b = L) (· ∈ frs outer) s.heap h' → Rep (fun b => O b ∨ b = L) h' tk d v → Q (.ret v) { s with heap := h', toks := tk }) →
        (∀ cls x e hr h'' tk own ρ, badP cls x → St Z (callEnv fd L f) (fun b => O b ∨ b = L) (Stood Z s.heap) own ρ { s with heap := hr, toks := tk } → RaisedAt hr h'' e cls x → E (.ref e) { s with heap := h'', toks := tk }) →
        wpC (model Z.prog Z.w) (A.deeper (callEnv fd L f)) (execs body (callEnv fd L f)) Q E { s with heap := h₁, toks := t₁ })
    (hret : ∀ v h' tk, okP → GrowS Z O (· ∈ frs outer) s.heap h' → s.toks ≤ tk → Rep O h' tk d v → R (.ok (.ret v)) { s with heap := h', toks := tk })
    (hup : ∀ cls x e h' tk, badP cls x → Up Z O outer e cls x s.heap h' → s.toks ≤ tk → R (.error (.ref e)) { s with heap := h', toks := tk }) :
    codeC (model Z.prog Z.w) A (.call (.ref f) ⟨vs, []⟩) R s := by
  have hlim : s.heap.NoLimit := by
    obtain ⟨mc, hn, e⟩ := G.nolimit
    exact ⟨mc, W.ns hn, e⟩
  have hρ := binds_ok r hns
  refine codeC_with_toks (n := s.toks) (Nat.le_refl _) (codeC_call_def hroom (W.zone _ _ hf) hd hlim hcd hb (BindsTo.of_eq hbind) hcell (fun x hx => hloc _ (List.of_mem_zip hx).1) (fun h₁ hn hk₁ => ?_) hco hgen hk)
  have fresh : s.heap.get? s.heap.objs.size = none := get_size _
  have new : ∀ b o, s.heap.get? b = some o → b ≠ s.heap.objs.size := fun b o e q => by rw [q, fresh] at e; cases e
  have hmore : ∀ b o, s.heap.get? b = some o → (O b ∨ b = s.heap.objs.size) → O b := fun b o e q => q.elim id fun z => absurd z (new b o e)
  have hL : (callEnv fd s.heap.objs.size f).locals = s.heap.objs.size := rfl
  have htab : Tab Z (fun b => O b ∨ b = s.heap.objs.size) h₁ := (W.tabs.more hmore fun b q => .inl q).stay hk₁
  refine (h s.heap.objs.size h₁ _ ?_ (Around.frames_deeper hfr) fresh _ _ (fun v h' tk hok g r => ?_) fun cls x e hr h'' tk own ρ hbad X Rr => ?_)
  · exact {
      base := fun b o e => hk₁ b o e.1
      zone := fun b o e => ⟨W.zone b o e, fun q => W.OZ b o (W.tabs.isO q) e⟩
      OH := fun b o hb e => hb.elim (fun q => W.OZ b o q e) fun q => new b o (W.zone b o e) q
      tabB := fun b o q e => e.2 q
      LB := fun o e => new _ o e.1 rfl
      ownB := fun p hp => nomatch hp
      ownD := List.nodup_nil
      Oex := fun b hb => by
        rcases hb with hb | rfl
        · obtain ⟨o, e⟩ := W.Oex b hb; exact ⟨o, hk₁ b o e⟩
        · obtain ⟨o, _, _, e, _⟩ := hn; exact ⟨o, e⟩
      tabs := htab
      pos := Nat.lt_of_lt_of_le W.pos (Nat.le_add_right _ _)
      OL := .inr rfl
      loc := ⟨_, hn, fun x d' _ hg => by
        obtain ⟨v, e, r⟩ := hρ x d' hg
        exact ⟨v, e, ((r.more hmore).grow (Grow.of (W.tabs.more hmore fun b q => .inl q) hk₁) (Nat.le_add_right _ _))⟩⟩
      cel := fun x c _ hc => by rw [hcl] at hc; cases hc
      ownd := fun p hp => nomatch hp }
  · intro hle
    exact hret v h' tk hok ⟨g.keep, g.slots, g.tab.less W.tabs fun b q => .inl q⟩ hle (r.less fun b q => .inl q)
  · have hin_ : ∀ b o, ¬ isTab Z b → s.heap.get? b = some o → hr.get? b = some o := fun b o n e => X.base b o ⟨e, n⟩
    have hFt : ∀ b ∈ frs outer, ¬ isTab Z b := fun b hb => K.notTab W.tabs hb
    have K' : FrOk (fun b => O b ∨ b = s.heap.objs.size) hr (callEnv fd s.heap.objs.size f :: outer) := by
      intro env he
      rcases List.mem_cons.mp he with rfl | he
      · obtain ⟨m, ⟨o, es, n, ho, hd, _⟩, _⟩ := X.loc
        exact ⟨(by rw [show (callEnv fd s.heap.objs.size f).scope.kind = fd.scope.kind from rfl, hk]; decide), _, o, es, n, hfm _, .inr rfl, ho, hd⟩
      · exact (K.more (O := fun b => O b ∨ b = s.heap.objs.size) (fun b q => .inl q) fun b o hb e => hin_ b o (hFt b hb) e) env he
    refine leave_raised (s := { s with heap := h'', toks := tk }) (O := fun b => O b ∨ b = s.heap.objs.size) (O' := O) (hin := s.heap) (Around.frames_deeper hfr) (hfm _) K' X.tabs (fun q hq => (W.tabs q hq).1) (fun b q => .inl q) Rr hin_ fresh hFt fun h' u => ?_
    intro hle
    exact hup cls x e h' tk hbad u hle
end
end Mine

open PySem PySem.W PyProof.Rows PySem.Calls
set_option Elab.async false
set_option linter.all false
set_option maxRecDepth 100000
namespace Mine
noncomputable def okOf : PRes → Int
  | .ok n => n
  | _ => 0
noncomputable def badOf (r : PRes) (x : PySem.Str) (cls : Value) (y : XArg) : Prop := match r with
  | .ok _ => False
  | .reply => cls = .ref 96 ∧ y = .one x
  | .proto => cls = .ref 108 ∧ y = .one x
  | .value => cls = .type "ValueError" ∧ y = .any
noncomputable def goodOf : PRes → Prop
  | .ok _ => True
  | _ => False
theorem exc96 (P : Params) : excIn (KK P) 96 bmE "Exception.__new__" = true := by kernel_rfl
theorem exc108 (P : Params) : excIn (KK P) 108 bmE "Exception.__new__" = true := by kernel_rfl
theorem list_len {α : Type} {n : Nat} : ∀ {l : List α}, l.length = n + 1 → ∃ a r, l = a :: r ∧ r.length = n
  | a :: r, h => ⟨a, r, rfl, Nat.succ.inj h⟩
theorem list5 {α : Type} (ps : List α) (h : ps.length = 5) : ∃ a b c d e, ps = [a, b, c, d, e] := by
  obtain ⟨a, r1, rfl, h1⟩ := list_len h
  obtain ⟨b, r2, rfl, h2⟩ := list_len h1
  obtain ⟨c, r3, rfl, h3⟩ := list_len h2
  obtain ⟨d, r4, rfl, h4⟩ := list_len h3
  obtain ⟨e, r5, rfl, h5⟩ := list_len h4
  obtain rfl := List.eq_nil_of_length_eq_zero h5
  exact ⟨a, b, c, d, e, rfl⟩
section
variable {Z : Zone} {A : Around} {O : Addr → Prop} {s : Shared} {outer : List Env} {R : Result → Shared → Prop}
theorem call_parse (G : ZT Z) {x host : PySem.Str} {vs : List Value} (hx : x.length ≤ 640) (h16 : ∀ c ∈ x.cps.toList, c < 16 ^ 8) (hA : A.handled = none) (hdep : A.depth < recursionLimit)
    (hfr : A.frames = some outer) (K : FrOk O s.heap outer) (W : Wd Z O s) (r : Reps O s.heap s.toks [.str x, .tup [.str host, .int 21]] vs)
    (hret : ∀ v h' tk, goodOf (parseL x.cps.toList) → GrowS Z O (· ∈ frs outer) s.heap h' → s.toks ≤ tk → Rep O h' tk (.tup [.str host, .int (okOf (parseL x.cps.toList))]) v → R (.ok (.ret v)) { s with heap := h', toks := tk })
    (hup : ∀ cls y e h' tk, badOf (parseL x.cps.toList) x cls y → Up Z O outer e cls y s.heap h' → s.toks ≤ tk → R (.error (.ref e)) { s with heap := h', toks := tk }) :
    codeC (model Z.prog Z.w) A (.call (.ref 117) ⟨vs, []⟩) R s := by
  have r' := r
  simp only [Reps] at r'
  obtain ⟨v1, _, rfl, r1, v2, _, rfl, r2, rfl⟩ := r'
  have hFt : ∀ b ∈ frs outer, ¬ isTab Z b := fun b hb => K.notTab W.tabs hb
  refine fn_enterGC (ns := ["resp", "peer"]) (goodOf (parseL x.cps.toList)) (badOf (parseL x.cps.toList) x) G.toZoneOk W hdep hfr K (G.K 117 _ rfl) rfl (codeRec_of (Frag.In.keeps G.K W.zone) rfl) rfl rfl (by decide) (by decide) (by decide) rfl rfl rfl r (fun _ => rfl) (fun _ => rfl) ?_ hret hup
  intro L h₁ t₁ X hfr' hLn Q E kret kup
  have ok := envOk_of X rfl rfl rfl
  have hz : x.length ≤ sizeLine := by rw [sizeLine_eq]; exact le_by hx
  have hlen : x.cps.toList.length = x.length := Array.length_toList
  refine xs_split (S1 := [_, _, _, _, _, _, _, _, _]) (S2 := [_, _]) ?_
  -- the code
  by_cases h3 : x.cps.toList.take 3 = [50, 50, 57]
  case neg =>
    have hp : parseL x.cps.toList = .reply := by unfold parseL; rw [if_pos h3]
    refine x_ift X (Tst.cast (tst_cmp (ev_supto (ev_local rfl) ev_int hz) ev_str op_nes) ?_) fun h₂ t₂ X₂ => ?_
    · have e1 : (Txt.slice x none (some 3)).cps.toList = x.cps.toList.take 3 := slice_take x 3
      simp only [bne_iff_ne, ne_eq]
      intro e
      rw [e] at e1
      exact h3 e1.symm
    · exact x_raiseOwn G ok hA X₂ (ev_local rfl) rfl (exc96 _) fun e hr h'' tk own ρ X3 R3 => kup _ _ e hr h'' tk own ρ (by rw [hp]; exact ⟨rfl, rfl⟩) X3 R3
  case pos =>
    have p3 : ∀ r, (match cutAt 40 x.cps.toList with
      | none => PRes.proto
      | some (_, B) => match cutAt 41 B with
        | none => .proto
        | some (C, _) => match C with
          | [] => .proto
          | c :: r => if c ≠ (c :: r).getLastD 0 then .proto else
            if (splL c (c :: r)).length ≠ 5 then .proto else
            match PySem.intText? ⟨((splL c (c :: r)).getD 3 []).toArray⟩ with
            | some n => .ok n
            | none => .value) = r → parseL x.cps.toList = r := fun r e => by
      unfold parseL; rw [if_neg (by simpa using h3)]; exact e
    refine x_iff X (Tst.cast (tst_cmp (ev_supto (ev_local rfl) ev_int hz) ev_str op_nes) ?_) fun h₂ t₂ X₂ => x_nil ?_
    · have e1 : (Txt.slice x none (some 3)).cps.toList = x.cps.toList.take 3 := slice_take x 3
      have e2 : Txt.slice x none (some 3) = "229" := str_eq (by rw [e1, h3]; rfl)
      rw [e2]; rfl
    cases hcut : cutAt 40 x.cps.toList with
    | none =>
      have hp : parseL x.cps.toList = .proto := p3 _ (by rw [hcut])
      refine x_assign X₂ (Ev.cast (ev_find (ev_local rfl) ev_str) (by rw [show (Str.ofString "(") = ⟨#[40]⟩ from rfl, find_no (cutAt_none hcut)])) asg_store fun h₃ t₃ X₃ => ?_
      refine x_ift X₃ (Tst.cast (tst_cmp (ev_local rfl) ev_int op_lt) (by decide)) fun h₄ t₄ X₄ => ?_
      exact x_raiseOwn G ok hA X₄ (ev_local rfl) rfl (exc108 _) fun e hr h'' tk own ρ X3 R3 => kup _ _ e hr h'' tk own ρ (by rw [hp]; exact ⟨rfl, rfl⟩) X3 R3
    | some p =>
      obtain ⟨A1, B1⟩ := p
      obtain ⟨hL, hA1⟩ := cutAt_some hcut
      refine x_assign X₂ (Ev.cast (ev_find (ev_local rfl) ev_str) (by rw [show (Str.ofString "(") = ⟨#[40]⟩ from rfl, find_at hL hA1])) asg_store fun h₃ t₃ X₃ => ?_
      refine x_iff X₃ (Tst.cast (tst_cmp (ev_local rfl) ev_int op_lt) (decide_eq_false (Int.not_lt_of_ge (Int.natCast_nonneg _)))) fun h₄ t₄ X₄ => x_nil ?_
      cases hcut2 : cutAt 41 B1 with
      | none =>
        have hp : parseL x.cps.toList = .proto := p3 _ (by rw [hcut]; dsimp only; rw [hcut2])
        refine x_assign X₄ (Ev.cast (ev_find3 (ev_local rfl) ev_str (ev_bin (ev_local rfl) ev_int op_add)) (by rw [show (Str.ofString ")") = ⟨#[41]⟩ from rfl, close_none hL (cutAt_none hcut2)])) asg_store fun h₅ t₅ X₅ => ?_
        refine x_ift X₅ (Tst.cast (tst_cmp (ev_local rfl) ev_int op_lt) (by decide)) fun h₆ t₆ X₆ => ?_
        exact x_raiseOwn G ok hA X₆ (ev_local rfl) rfl (exc108 _) fun e hr h'' tk own ρ X3 R3 => kup _ _ e hr h'' tk own ρ (by rw [hp]; exact ⟨rfl, rfl⟩) X3 R3
      | some p2 =>
        obtain ⟨C1, D1⟩ := p2
        obtain ⟨hB, hC1⟩ := cutAt_some hcut2
        rw [hB] at hL
        have hlenL : x.cps.toList.length = A1.length + 1 + C1.length + 1 + D1.length := by rw [hL]; simp; omega
        have P := par hlenL
        have Px := par (hlen.symm.trans hlenL)
        refine x_assign X₄ (Ev.cast (ev_find3 (ev_local rfl) ev_str (ev_bin (ev_local rfl) ev_int op_add)) (by rw [show (Str.ofString ")") = ⟨#[41]⟩ from rfl, close_at hL hC1])) asg_store fun h₅ t₅ X₅ => ?_
        refine x_iff X₅ (Tst.cast (tst_cmp (ev_local rfl) ev_int op_lt) (decide_eq_false (Int.not_lt_of_ge (Int.natCast_nonneg _)))) fun h₆ t₆ X₆ => x_nil ?_
        have eL : ((A1.length : Int) + 1) = ((A1.length + 1 : Nat) : Int) := rfl
        have eR : (((A1.length + 1 + C1.length : Nat) : Int) - 1) = ((A1.length + C1.length : Nat) : Int) := par_e _ _
        have iL : Txt.item x ((A1.length : Int) + 1) = ⟨#[x.cps.toList.getD (A1.length + 1) 0]⟩ := by rw [eL]; exact item_list P.1.1
        have iR : Txt.item x (((A1.length + 1 + C1.length : Nat) : Int) - 1) = ⟨#[x.cps.toList.getD (A1.length + C1.length) 0]⟩ := by rw [eR]; exact item_list P.1.2.1
        have fL : fitsSsize ((A1.length : Int) + 1) = true := by rw [eL]; exact PyProof.Rows.fitsSsize_of (N := 100000) nat_lo (nat_ul (Nat.le_trans (Nat.le_of_lt Px.1.1) hx)) (by decide)
        have fR : fitsSsize (((A1.length + 1 + C1.length : Nat) : Int) - 1) = true := by rw [eR]; exact PyProof.Rows.fitsSsize_of (N := 100000) nat_lo (nat_ul (Nat.le_trans (Nat.le_of_lt Px.1.2.1) hx)) (by decide)
        cases C1 with
        | nil =>
          have hp : parseL x.cps.toList = .proto := p3 _ (by rw [hcut]; dsimp only; rw [hcut2])
          refine x_ift X₆ (Tst.cast (tst_cmp (ev_sitem (ev_local rfl) (ev_bin (ev_local rfl) ev_int op_add) fL Px.2.1.1 Px.2.1.2) (ev_sitem (ev_local rfl) (ev_bin (ev_local rfl) ev_int op_sub) fR Px.2.2.1 Px.2.2.2) op_nes) ?_) fun h₇ t₇ X₇ => ?_
          · rw [iL, iR, hL]
            have e1 := (ends_empty (a := A1) (d := D1)).1
            have e2 := (ends_empty (a := A1) (d := D1)).2
            rw [e1, show A1.length + ([] : List Nat).length = A1.length from rfl, e2]; decide
          · exact x_raiseOwn G ok hA X₇ (ev_local rfl) rfl (exc108 _) fun e hr h'' tk own ρ X3 R3 => kup _ _ e hr h'' tk own ρ (by rw [hp]; exact ⟨rfl, rfl⟩) X3 R3
        | cons c r =>
          have e1 : x.cps.toList.getD (A1.length + 1) 0 = c := by rw [hL]; exact first_in
          have e2 : x.cps.toList.getD (A1.length + (c :: r).length) 0 = (c :: r).getLastD 0 := by
            rw [hL, show A1.length + (c :: r).length = A1.length + 1 + r.length by rw [List.length_cons, Nat.add_assoc, Nat.add_comm 1]]; exact last_in
          by_cases hends : c = (c :: r).getLastD 0
          · refine x_iff X₆ (Tst.cast (tst_cmp (ev_sitem (ev_local rfl) (ev_bin (ev_local rfl) ev_int op_add) fL Px.2.1.1 Px.2.1.2) (ev_sitem (ev_local rfl) (ev_bin (ev_local rfl) ev_int op_sub) fR Px.2.2.1 Px.2.2.2) op_nes) ?_) fun h₇ t₇ X₇ => x_nil ?_
            · rw [iL, iR, e1, e2, ← hends]; simp
            · have eM : (((A1.length + 1 + (c :: r).length : Nat) : Int)) = ((A1.length + 1 + (c :: r).length : Nat) : Int) := rfl
              have hsl : (Txt.slice x (some ((A1.length : Int) + 1)) (some ((A1.length + 1 + (c :: r).length : Nat) : Int))).cps.toList = c :: r := by
                rw [eL, slice_mid (Nat.le_add_right _ _) Px.1.2.2.1, hL]
                rw [show A1 ++ 40 :: (c :: r ++ 41 :: D1) = (A1 ++ [40]) ++ ((c :: r) ++ 41 :: D1) by simp, List.drop_left' (by simp), List.take_left' (Nat.add_sub_cancel_left _ _).symm]
              have hsll : (Txt.slice x (some ((A1.length : Int) + 1)) (some ((A1.length + 1 + (c :: r).length : Nat) : Int))).length ≤ 640 := by
                show (Txt.slice x (some ((A1.length : Int) + 1)) (some ((A1.length + 1 + (c :: r).length : Nat) : Int))).cps.size ≤ 640
                rw [← Array.length_toList, hsl]
                exact Nat.le_trans Px.1.2.2.2 hx
              have hps := split_spl (Txt.slice x (some ((A1.length : Int) + 1)) (some ((A1.length + 1 + (c :: r).length : Nat) : Int))) c
              rw [hsl] at hps
              refine x_assign X₇ (Ev.cast (ev_split (ev_smid (ev_local rfl) (ev_bin (ev_local rfl) ev_int op_add) (ev_local rfl) hz) (ev_sitem (ev_local rfl) (ev_bin (ev_local rfl) ev_int op_add) fL Px.2.1.1 Px.2.1.2) (by rw [iL]; rfl) (by rw [sizeLine_eq]; exact Nat.le_trans (Nat.add_le_add_right hsll 2) (by decide))) (by rw [iL, e1])) asg_store fun h₈ t₈ X₈ => ?_
              generalize Txt.split (Txt.slice x (some ((A1.length : Int) + 1)) (some ((A1.length + 1 + (c :: r).length : Nat) : Int))) ⟨#[c]⟩ = ps at hps X₈
              have hpl : (ps.map D.str).length = (splL c (c :: r)).length := by rw [← hps, List.length_map, List.length_map]
              have hple : ps.length = (splL c (c :: r)).length := by rw [← hps, List.length_map]
              by_cases h5 : (splL c (c :: r)).length = 5
              · refine x_iff X₈ (Tst.cast (tst_cmp (ev_len (ev_b G.toZK ok rfl rfl) (ev_local rfl) (by rw [hpl, h5]; decide)) ev_int op_nei) (by rw [hpl, h5]; rfl)) fun h₉ t₉ X₉ => x_nil ?_
                refine x_assign X₉ (ev_itemT (k := 0) (d := .str host) (ev_local rfl) ev_int (by decide) (by decide) rfl) asg_store fun h₁₀ t₁₀ X₁₀ => x_nil ?_
                have l5 : ps.length = 5 := hple.trans h5
                obtain ⟨q0, q1, q2, q3, q4, rfl⟩ := list5 ps l5
                have e3 : (splL c (c :: r)).getD 3 [] = q3.cps.toList := by rw [← hps]; rfl
                have q3e : (⟨q3.cps.toList.toArray⟩ : PySem.Str) = q3 := rfl
                have h5' : ¬ (splL c (c :: r)).length ≠ 5 := by simpa using h5
                have hin : ∀ k ∈ q3.cps.toList, k ∈ c :: r := fun k hk => splL_mem (c := c) (p := q3.cps.toList) (by rw [← hps]; simp) hk
                have hq3l : q3.length ≤ 640 := by
                  have := splL_part (c := c) (l := c :: r) (p := q3.cps.toList) (by rw [← hps]; simp)
                  rw [show q3.length = q3.cps.toList.length from by simp [Str.length]]
                  exact Nat.le_trans this (Nat.le_trans Px.1.2.2.2 hx)
                cases hint : PySem.intText? q3 with
                | some n =>
                  have hp : parseL x.cps.toList = .ok n := p3 _ (by rw [hcut]; dsimp only; rw [hcut2]; dsimp only; rw [if_neg (by simpa using hends), if_neg h5', e3, q3e, hint])
                  refine wpC_of_any (Xs.run ?_)
                  refine x_assign X₁₀ (ev_inttext (ev_b G.toZK ok rfl rfl) (ev_item (k := 3) (d := .str q3) (ev_local rfl) ev_int (by decide) (by decide) rfl) hint hq3l) asg_store fun h₁₁ t₁₁ X₁₁ => ?_
                  refine x_ret X₁₁ (d := .tup [.str host, .int n]) (ev_tup (evs_cons (ev_local rfl) (evs_cons (ev_local rfl) evs_nil))) fun v h' tk X' r' => ?_
                  refine kret v h' tk (by rw [hp]; trivial) ⟨fun b o nt nf e => X'.base b o ⟨e, nt⟩, fun b o hb e => ⟨o.slots, X'.base b o ⟨e, hFt b hb⟩⟩, X'.tabs⟩ (by rw [hp]; exact r')
                | none => 
                  have hp : parseL x.cps.toList = .value := p3 _ (by rw [hcut]; dsimp only; rw [hcut2]; dsimp only; rw [if_neg (by simpa using hends), if_neg h5', e3, q3e, hint])
                  refine wpC_execs_cons (wpC_Assign_Name (wpC_callT X₁₀ (ev_b G.toZK ok rfl rfl) (evs_cons (ev_item (k := 3) (d := .str q3) (ev_local rfl) ev_int (by decide) (by decide) rfl) evs_nil) fun h₁₁ t₁₁ vs' X₁₁ le₁₁ r₁₁ => ?_))
                  simp only [Reps, Rep] at r₁₁
                  obtain ⟨_, _, rfl, ⟨tq, rfl⟩, rfl⟩ := r₁₁
                  refine wpC_int_bad (by exact hA) hq3l (fun k hk => ?_) hint fun h' tk e' vs'' le' hm => ?_
                  · have := hin k hk
                    exact h16 k (by rw [hL]; simp at this ⊢; rcases this with h | h <;> simp [h])
                  · exact kup _ _ e' h₁₁ h' tk _ _ (by rw [hp]; exact ⟨rfl, rfl⟩) (X₁₁.grow (Grow.refl X₁₁.tabs) le') (RaisedAt.of_made' (Heap.MadeExc.of hm))
              · have hp : parseL x.cps.toList = .proto := p3 _ (by rw [hcut]; dsimp only; rw [hcut2]; dsimp only; rw [if_neg (by simpa using hends), if_pos h5])
                refine x_ift X₈ (Tst.cast (tst_cmp (ev_len (ev_b G.toZK ok rfl rfl) (ev_local rfl) (by rw [hpl]; exact nat_ul (Nat.le_trans (splL_len c (c :: r)) (Nat.add_le_add_right (Nat.le_trans Px.1.2.2.2 hx) 1)))) ev_int op_nei) (by rw [hpl]; simp; omega)) fun h₉ t₉ X₉ => ?_
                exact x_raiseOwn G ok hA X₉ (ev_local rfl) rfl (exc108 _) fun e hr h'' tk own ρ X3 R3 => kup _ _ e hr h'' tk own ρ (by rw [hp]; exact ⟨rfl, rfl⟩) X3 R3
          · have hp : parseL x.cps.toList = .proto := p3 _ (by rw [hcut]; dsimp only; rw [hcut2]; dsimp only; rw [if_pos hends])
            refine x_ift X₆ (Tst.cast (tst_cmp (ev_sitem (ev_local rfl) (ev_bin (ev_local rfl) ev_int op_add) fL Px.2.1.1 Px.2.1.2) (ev_sitem (ev_local rfl) (ev_bin (ev_local rfl) ev_int op_sub) fR Px.2.2.1 Px.2.2.2) op_nes) ?_) fun h₇ t₇ X₇ => ?_
            · rw [iL, iR, e1, e2]
              simp only [bne_iff_ne, ne_eq]
              intro e
              injection e with e
              injection e with e
              injection e with e
              exact hends e
            · exact x_raiseOwn G ok hA X₇ (ev_local rfl) rfl (exc108 _) fun e hr h'' tk own ρ X3 R3 => kup _ _ e hr h'' tk own ρ (by rw [hp]; exact ⟨rfl, rfl⟩) X3 R3
end
end Mine

open PySem PySem.W PyProof.Rows PySem.Calls
set_option Elab.async false
set_option linter.all false
set_option maxRecDepth 100000
namespace Mine
section
variable {M : Model} {A : Around} {E : Value → Shared → Prop} {s : Shared} {env : Env}
theorem wpC_tryStmt_except {body orelse : Sem Flow} {h₀ : ExceptHandler} {hs : List ExceptHandler} {Q : Flow → Shared → Prop}
    (h : wpC M A body (fun f s₁ => match f with | .next => wpAny M A orelse Q E s₁ | f => Q f s₁)
      (fun e s₁ => wpAny M A (noteFrame e env) (fun _ s₂ => wpAny M A (setFlight e none) (fun _ s₃ => wpAny M A (handleBy e env (h₀ :: hs)) Q E s₃) E s₂) E s₁) s) :
    wpC M A (tryStmt false body (h₀ :: hs) orelse [] env) Q E s := by
  unfold tryStmt
  simp only [List.isEmpty_nil, if_true, List.isEmpty_cons, Bool.false_and, Bool.false_eq_true, if_false]
  refine wpC_bind (wpC_attempt (wpC_mono h (fun f s₁ h₁ => ?_) fun e s₁ h₁ => ?_))
  · cases f <;> first | exact wpC_of_any h₁ | exact wpC_pure h₁
  · exact wpC_of_any (wpAny_bind (wpAny_mono h₁ (fun _ _ h₂ => wpAny_bind h₂) fun _ _ x => x))
end
section
variable {prog : Program} {w : World} {A : Around} {E : Value → Shared → Prop} {s : Shared} {env : Env}
theorem wpC_Try_except {body orelse : List Stmt} {h₀ : ExceptHandler} {hs : List ExceptHandler} {pos : Pos} {Q : Flow → Shared → Prop}
    (h : wpC (model prog w) A (execs body env) (fun f s₁ => match f with | .next => wpAny (model prog w) A (execs orelse env) Q E s₁ | f => Q f s₁)
      (fun e s₁ => wpAny (model prog w) A (noteFrame e env) (fun _ s₂ => wpAny (model prog w) A (setFlight e none) (fun _ s₃ => wpAny (model prog w) A (handleBy e env (h₀ :: hs)) Q E s₃) E s₂) E s₁) s) :
    wpC (model prog w) A (exec (.Try body (h₀ :: hs) orelse [] pos) env) Q E s := by
  rw [arm_exec_Try]
  exact wpC_then (wpAny_standAt (wpC_tryStmt_except h))
theorem hand_no {e : Addr} {t : PySem.Expr} {c : Value} {nm : Option PySem.Str} {body : List Stmt} {pos : Pos} {rest : List ExceptHandler} {Q : Flow → Shared → Prop}
    (hname : ∀ (Q : Value → Shared → Prop) (E : Value → Shared → Prop), Q c s → wpAny (model prog w) (A.mark (some (.ref e))) (eval t env) Q E s) (hx : Looks (model prog w) s.heap (excMatches (.ref e) c) false)
    (h : wpAny (model prog w) A (handleBy (.ref e) env rest) Q E s) : wpAny (model prog w) A (handleBy (.ref e) env (.ExceptHandler (some t) nm body pos :: rest)) Q E s :=
  wpAny_handleBy_cons (codeAny_handlers_test (hname _ _ (hx.here h))) (by intro q; cases q)
theorem hand_as {e : Addr} {t : PySem.Expr} {c : Value} {n : PySem.Str} {b₀ : Stmt} {suite : List Stmt} {pos : Pos} {rest : List ExceptHandler} {Q : Flow → Shared → Prop}
    (hname : ∀ (Q : Value → Shared → Prop) (E : Value → Shared → Prop), Q c s → wpAny (model prog w) (A.mark (some (.ref e))) (eval t env) Q E s) (hx : Looks (model prog w) s.heap (excMatches (.ref e) c) true)
    (h : ∀ E1 E2 E3 : Value → Shared → Prop, wpAny (model prog w) (A.mark (some (.ref e))) (setFlight (.ref e) none) (fun _ s₁ => wpAny (model prog w) (A.mark (some (.ref e))) (storeName env n (.ref e)) (fun _ s₂ =>
      wpAny (model prog w) (A.mark (some (.ref e))) (execs (b₀ :: suite) env) (fun f s₃ => wpAny (model prog w) A (do bindName env n .none; unbindBehindTheSuite env n pos) (fun _ s₅ => Q f s₅) E s₃) E3 s₂) E2 s₁) E1 s) :
    wpAny (model prog w) A (handleBy (.ref e) env (.ExceptHandler (some t) (some n) (b₀ :: suite) pos :: rest)) Q E s :=
  wpAny_handleBy_cons (codeAny_handlers_test (hname _ _ (hx.here (codeAny_handlers_suite_as (h _ _ _))))) (by intro q; cases q)
theorem hand_plain {e : Addr} {t : PySem.Expr} {c : Value} {b₀ : Stmt} {suite : List Stmt} {pos : Pos} {rest : List ExceptHandler} {Q : Flow → Shared → Prop}
    (hname : ∀ (Q : Value → Shared → Prop) (E : Value → Shared → Prop), Q c s → wpAny (model prog w) (A.mark (some (.ref e))) (eval t env) Q E s) (hx : Looks (model prog w) s.heap (excMatches (.ref e) c) true)
    (h : ∀ E1 E2 : Value → Shared → Prop, wpAny (model prog w) (A.mark (some (.ref e))) (setFlight (.ref e) none) (fun _ s₁ => wpAny (model prog w) (A.mark (some (.ref e))) (execs (b₀ :: suite) env) (fun f s₃ => Q f s₃) E2 s₁) E1 s) :
    wpAny (model prog w) A (handleBy (.ref e) env (.ExceptHandler (some t) none (b₀ :: suite) pos :: rest)) Q E s :=
  wpAny_handleBy_cons (codeAny_handlers_test (hname _ _ (hx.here (codeAny_handlers_suite (h _ _))))) (by intro q; cases q)
end
end Mine

open PySem PySem.W PyProof.Rows PySem.Calls
set_option Elab.async false
set_option linter.all false
set_option maxRecDepth 100000
namespace Mine
/-- an exception met in the activation env, whose heap was hc before the call -/
structure Air (Z : Zone) (O : Addr → Prop) (l : List Env) (base : Heap) (e : Addr) (cls a0 : Value) (x : XArg) (hc h : Heap) : Prop where
  fly : Heap.FlyingW base l e cls a0 h
  keep : ∀ b o, ¬ isTab Z b → b ∉ frs l → hc.get? b = some o → base.get? b = some o
  tab : Tab Z O base
  arg : ArgIs x a0 h
  slots : ∀ b o, b ∈ frs l → hc.get? b = some o → ∃ sl, h.get? b = some { o with slots := sl }
section
variable {Z : Zone} {A : Around} {O O' : Addr → Prop} {s : Shared} {l : List Env} {base hc h h' : Heap} {e : Addr} {cls a0 : Value} {x : XArg} {env : Env} {outer : List Env} {L : Addr} {E : Value → Shared → Prop} {M : Model}
theorem Air.growS (a : Air Z O l base e cls a0 x hc h) : GrowS Z O (· ∈ frs l) hc h :=
  ⟨fun b o n f q => a.fly.1 b o (a.keep b o n f q), fun b o f q => a.slots b o f q, a.tab.stay fun b o q => a.fly.1 b o q⟩
theorem Air.step (a : Air Z O l base e cls a0 x hc h) (K : FrOk O hc l) (fly : Heap.FlyingW base l e cls a0 h') (k : h.UpToSlots h') : Air Z O l base e cls a0 x hc h' :=
  ⟨fly, a.keep, a.tab, a.arg.slots k, fun b o f q => by
    obtain ⟨sl, q2⟩ := a.slots b o f q
    obtain ⟨_, o', es, n, q', hd⟩ := K.dict f
    rw [q] at q'; cases q'
    obtain ⟨sl2, q3⟩ := k b _ q2 fun vs z => by rw [show ({ o with slots := sl } : Obj).data = o.data from rfl, hd] at z; cases z
    exact ⟨sl2, q3⟩⟩
theorem land_up (hfr : A.frames = some (env :: outer)) (hf : env.frame = some L) (K : FrOk O hc (env :: outer)) (u : Up Z O (env :: outer) e cls x hc s.heap) {P : Shared → Prop}
    (k : ∀ base a0 h', Air Z O (env :: outer) base e cls a0 x hc h' → P { s with heap := h' }) :
    wpAny M A (noteFrame (.ref e) env) (fun _ s₂ => wpAny M A (setFlight (.ref e) none) (fun _ s₃ => P s₃) E s₂) E s := by
  obtain ⟨base, a0, fly, keep, tab, arg⟩ := u.fly
  have a : Air Z O (env :: outer) base e cls a0 x hc s.heap := ⟨fly, keep, tab, arg, u.slots⟩
  refine wpAny_looks_onW hfr hf fly fun h₄ held u₄ => ?_
  refine wpAny_landsW held fun h₅ fly₅ u₅ => ?_
  exact k base a0 h₅ (a.step K fly₅ (u₄.trans u₅))
theorem air_lands (K : FrOk O hc l) (a : Air Z O l base e cls a0 x hc s.heap) {Q : Unit → Shared → Prop} (k : ∀ h', Air Z O l base e cls a0 x hc h' → Q () { s with heap := h' }) : wpAny M A (setFlight (.ref e) none) Q E s :=
  lands_againW a.fly fun h₆ fly₆ u₆ => k h₆ (a.step K fly₆ u₆)
/-- what stood in the zone stands -/
theorem Air.zone (a : Air Z O l base e cls a0 x hc h) (K : FrOk O hc l) (hz : ∀ b o, Z.H.get? b = some o → hc.get? b = some o) (hO : ∀ b o, O b → Z.H.get? b ≠ some o) : ∀ b o, Z.H.get? b = some o → h.get? b = some o := fun b o q =>
  a.fly.1 b o (a.keep b o (fun t => hO b o (by obtain ⟨z, hz, rfl⟩ := t; exact (a.tab z hz).1) q) (fun f => hO b o (K.dict f).1 q) (hz b o q))
theorem Air.looks (a : Air Z O l base e cls a0 x hc h) : Looks M h (typeOf (.ref e)) cls := by
  obtain ⟨ob, ho, hcl⟩ := a.fly.there
  intro A Q E s' k q
  unfold typeOf
  refine wpAny_bind (wpAny_loadPart (k _ _ ho) ?_)
  rw [hcl]
  exact wpAny_pure q
theorem Air.own {C : Addr} (a : Air Z O l base e (.ref C) a0 x hc h) : OwnAt h e C a0 := by
  obtain ⟨oe, vs, h1, h2, h3, h4⟩ := a.fly.first
  exact ⟨oe, vs, h1, h2, h3, h4⟩
end
theorem FrOk.push {Z : Zone} {O O' : Addr → Prop} {B : Addr → Obj → Prop} {own : List (Addr × List D)} {ρ : Rho} {s : Shared} {env : Env} {outer : List Env} {hin : Heap} (X : St Z env O' B own ρ s) (hf : env.frame = some env.locals) (hk : env.scope.kind ≠ .module) (K : FrOk O hin outer)
    (hO : ∀ b, O b → O' b) (hin_ : ∀ b o, b ∈ frs outer → hin.get? b = some o → s.heap.get? b = some o) : FrOk O' s.heap (env :: outer) := by
  intro env' he
  rcases List.mem_cons.mp he with rfl | he
  · obtain ⟨m, ⟨o, es, n, ho, hd, _⟩, _⟩ := X.loc
    exact ⟨hk, _, o, es, n, hf, X.OL, ho, hd⟩
  · exact (K.more (O := O') hO hin_) env' he
/-- all that stands now, but the tables and one dict -/
noncomputable def Now (Z : Zone) (h : Heap) (L : Addr) : Addr → Obj → Prop := fun b o => h.get? b = some o ∧ ¬ isTab Z b ∧ b ≠ L
theorem St.resume {Z : Zone} {O : Addr → Prop} {B : Addr → Obj → Prop} {ρ : Rho} {s : Shared} {env : Env} {F : Addr → Prop} {h' : Heap} {tk : Nat} (X : St Z env O B [] ρ s) (g : GrowS Z O F s.heap h') (hF : ∀ b, F b → O b ∧ (∀ o, ¬ B b o) ∧ ∃ o es n, s.heap.get? b = some o ∧ o.data = .dict es n) (le : s.toks ≤ tk) :
    St Z env O (Now Z h' env.locals) [] ρ { s with heap := h', toks := tk } := by
  have X' := X.growS g hF le
  exact X'.setB (fun b o e => ⟨X'.base b o e, fun q => X'.tabB b o q e, fun q => X'.LB o (q ▸ e)⟩) (fun b o e => e.1) (fun b o q e => e.2.1 q) (fun o e => e.2.2 rfl) (fun p hp => nomatch hp)
theorem out_growS {Z : Zone} {O O' : Addr → Prop} {env : Env} {outer : List Env} {L : Addr} {hin h2 h' hf : Heap} (k1 : ∀ b o, ¬ isTab Z b → hin.get? b = some o → h2.get? b = some o) (g : GrowS Z O' (· ∈ frs (env :: outer)) h2 h') (k3 : ∀ b o, Now Z h' L b o → hf.get? b = some o)
    (hL : hin.get? L = none) (hfm : env.frame = some L) (hFt : ∀ b ∈ frs outer, ¬ isTab Z b) (tab : Tab Z O hf) : GrowS Z O (· ∈ frs outer) hin hf := by
  have hne : ∀ b o, hin.get? b = some o → b ≠ L := fun b o e q => by rw [q, hL] at e; cases e
  have hmem : ∀ b, b ∈ frs (env :: outer) → b = L ∨ b ∈ frs outer := fun b hb => by
    obtain ⟨env', he', hf'⟩ := mem_frs.mp hb
    rcases List.mem_cons.mp he' with rfl | he'
    · rw [hfm] at hf'; cases hf'; exact .inl rfl
    · exact .inr (mem_frs.mpr ⟨env', he', hf'⟩)
  refine ⟨fun b o nt nf e => k3 b o ⟨g.keep b o nt (fun z => (hmem b z).elim (hne b o e) nf) (k1 b o nt e), nt, hne b o e⟩, fun b o f e => ?_, tab⟩
  have hin2 : b ∈ frs (env :: outer) := by
    obtain ⟨env', he', hf'⟩ := mem_frs.mp f
    exact mem_frs.mpr ⟨env', .tail _ he', hf'⟩
  obtain ⟨sl, e2⟩ := g.slots b o hin2 (k1 b o (hFt b f) e)
  exact ⟨sl, k3 b _ ⟨e2, hFt b f, hne b o e⟩⟩
section
variable {Z : Zone} {A : Around} {env : Env} {O : Addr → Prop} {B : Addr → Obj → Prop} {own : List (Addr × List D)} {ρ : Rho} {s : Shared}
theorem ev_istup {f e1 e2 : PySem.Expr} {pos : Pos} {ds : List D} (hf : Ev Z A env O B own ρ f (.val (.builtin "isinstance"))) (h1 : Ev Z A env O B own ρ e1 (.tup ds)) (h2 : Ev Z A env O B own ρ e2 (.val (.type "tuple")))
    (he : eval (.Call f [e1, e2] [] pos) env = (do callWith pos (← eval f env) [] (backTo pos (starEach [e1, e2] env)) (backToKw pos (keywordEach [] env))) := by rfl) (s1 : starEach [e1, e2] env = (false, eval e1 env) :: starEach [e2] env := by rfl) (s2 : starEach [e2] env = (false, eval e2 env) :: starEach [] env := by rfl) (hp : (backTo pos (starEach [e2] env)).any (·.1) = false := by rfl) :
    Ev Z A env O B own ρ (.Call f [e1, e2] [] pos) (.bool true) :=
  ev_call hf (evs_cons h1 (evs_cons h2 evs_nil s2) s1) (fun s vs W r Q E k => by
    simp only [Reps, Rep] at r
    obtain ⟨_, _, rfl, ⟨a, vs', rfl, no, ⟨o, ho, hc, _⟩, _⟩, _, _, rfl, rfl, rfl⟩ := r
    exact IsiPair.tuple_tuple ho hc (k _ s.heap s.toks (Grow.refl W.tabs) (Nat.le_refl _) (by simp only [Rep]))) he s1 hp
theorem ev_callTS {f e : PySem.Expr} {es : List PySem.Expr} {pos : Pos} {T : String} {ds : List D} {d : D} (hf : Ev Z A env O B own ρ f (.val (.type T))) (ha : Evs Z A env O B own ρ pos (e :: es) ds)
    (hc : ∀ s vs, St Z env O B own ρ s → Reps O s.heap s.toks ds vs → Cp Z A O (call (.type T) vs) s d)
    (he : eval (.Call f (e :: es) [] pos) env = (do callWith pos (← eval f env) [] (backTo pos (starEach (e :: es) env)) (backToKw pos (keywordEach [] env))) := by rfl)
    (hs : starEach (e :: es) env = (false, eval e env) :: starEach es env := by rfl) (hp : (backTo pos (starEach es env)).any (·.1) = false := by rfl) : Ev Z A env O B own ρ (.Call f (e :: es) [] pos) d := .mk fun s X Q E k => by
  rw [he]
  refine wpAny_bind (hf.run s X _ _ fun v h₁ t₁ g₁ le₁ r₁ => ?_)
  simp only [Rep] at r₁
  subst r₁
  refine PyProof.Rows.callWith_type1 (ha.run _ (X.grow g₁ le₁) _ _ fun vs h₂ t₂ g₂ le₂ r₂ => ?_) hs hp
  exact hc _ vs ((X.grow g₁ le₁).grow g₂ le₂) r₂ _ _ fun v h₃ t₃ g₃ le₃ r₃ => k v h₃ t₃ ((g₁.trans g₂).trans g₃) (Nat.le_trans (Nat.le_trans le₁ le₂) le₃) r₃
theorem ev_and3 {a b c : PySem.Expr} {pos : Pos} {x y z : Bool} (h1 : Ev Z A env O B own ρ a (.bool x)) (h2 : x = true → Ev Z A env O B own ρ b (.bool y)) (h3 : x = true → y = true → Ev Z A env O B own ρ c (.bool z)) : Ev Z A env O B own ρ (.BoolOp .And [a, b, c] pos) (.bool (x && (y && z))) := .mk fun s X Q E k => by
  show wpAny _ A (do
    let v ← eval a env
    standAt pos
    let t ← holding [v] (truthy v)
    match BoolOp.And, t with
    | .And, false | .Or, true => pure v
    | _, _ => boolOp pos .And [eval b env, eval c env]) Q E s
  refine wpAny_bind (h1.run s X _ _ fun v h₁ t₁ g₁ le₁ r₁ => wpAny_bind (wpAny_standAt (wpAny_bind (wpAny_holding ?_))))
  simp only [Rep] at r₁
  subst r₁
  refine wpAny_truthy_bool ?_
  cases x with
  | false => exact wpAny_pure (k _ h₁ t₁ g₁ le₁ (by simp only [Rep]; rfl))
  | true =>
    have e2 := (ev_and2 (pos := pos) (h2 rfl) (h3 rfl)).run _ (X.grow g₁ le₁) Q E
    exact e2 fun v h₂ t₂ g₂ le₂ r₂ => k v h₂ t₂ (g₁.trans g₂) (Nat.le_trans le₁ le₂) r₂
end
/-- str of the exception caught -/
theorem ev_strown {Z : Zone} {A : Around} {env : Env} {O : Addr → Prop} {ρ : Rho} (G : ZT Z) {l : List Env} {base hc h₆ : Heap} {e C : Addr} {a0 : Value} {x y : PySem.Str} (a : Air Z O l base e (.ref C) a0 (.one x) hc h₆) (hL : h₆.get? env.locals = none ∨ ∃ o es n, h₆.get? env.locals = some o ∧ o.data = .dict es n)
    (ok : EnvOk env) (hu : A.units + 2 < cLine) (hf : findIn (KK Z.w.params) (.ref C) "__str__" = some (some (.builtin "BaseException.__str__"))) (hs : subIn (KK Z.w.params) (.ref C) (.type "BaseException") = some true) {p1 p2 pos : Pos}
    (hg : get ρ y = some (.val (.ref e))) (hy : env.kindOf y = some .local := by rfl) (hyd : (y == ("__debug__" : PySem.Str)) = false := by decide) (hl : env.kindOf "str" = some .globalImplicit := by rfl) (hm : nsIn (KK Z.w.params) mainGlobals "str" = some none := by rfl)
    (he : eval (.Call (.Name "str" p1) [.Name y p2] [] pos) env = (do callWith pos (← eval (.Name "str" p1) env) [] (backTo pos (starEach [.Name y p2] env)) (backToKw pos (keywordEach [] env))) := by rfl)
    (s1 : starEach [.Name y p2] env = (false, eval (.Name y p2) env) :: starEach [] env := by rfl) :
    Ev Z A env O (Now Z h₆ env.locals) [] ρ (.Call (.Name "str" p1) [.Name y p2] [] pos) (.str x) :=
  ev_callTS (ev_b G.toZK ok hm rfl (by decide) hl) (evs_cons (ev_local hg ok.fn hy hyd) evs_nil s1) (fun s vs X r Q E k => by
    simp only [Reps, Rep] at r
    obtain ⟨_, _, rfl, rfl, rfl⟩ := r
    have hne : ∀ {b : Addr} {o : Obj}, h₆.get? b = some o → (∀ es n, o.data ≠ .dict es n) → b ≠ env.locals := fun {b o} ho hd q => by
      subst q
      rcases hL with z | ⟨o', es, n, z, zd⟩
      · rw [z] at ho; cases ho
      · rw [z] at ho; cases ho; exact hd es n zd
    obtain ⟨t, tok, rfl, ot, nt, hot, htc, htd⟩ := a.arg
    obtain ⟨oe, vs, hoe, hec, hed, he0⟩ := a.own
    have nE : ¬ isTab Z e := by
      rintro ⟨q, hq, rfl⟩
      obtain ⟨_, ps, g, _⟩ := a.tab q hq
      have := a.fly.2.1
      rw [g] at this; cases this
    have nT : ¬ isTab Z t := by
      rintro ⟨q, hq, rfl⟩
      obtain ⟨_, ps, g, _⟩ := a.tab q hq
      have := a.fly.1 _ _ g
      rw [this] at hot; cases hot; cases htd
    have e1 := X.base e oe ⟨hoe, nE, hne hoe fun es n z => by rw [hed] at z; cases z⟩
    have e2 := X.base t ot ⟨hot, nT, hne hot fun es n z => by rw [htd] at z; cases z⟩
    refine str_own (K := KK Z.w.params) (C := C) (t0 := t) (fun b o q => X.wd.zone b o (G.K b o q)) hf hs hu ⟨oe, vs, e1, hec, hed, he0⟩ ⟨ot, nt, e2, htc, htd⟩ ?_
    exact k _ s.heap s.toks (Grow.refl X.tabs) (Nat.le_refl _) (by simp only [Rep]; exact ⟨_, rfl⟩)) he s1 rfl
theorem exm_rr (P : Params) : exmOne (KK P) (.ref 96) (.ref 96) = some true := by kernel_rfl
theorem exm_pr (P : Params) : exmOne (KK P) (.ref 108) (.ref 96) = some false := by kernel_rfl
theorem exm_vr (P : Params) : exmOne (KK P) (.type "ValueError") (.ref 96) = some false := by kernel_rfl
theorem exm_pp (P : Params) : exmOne (KK P) (.ref 108) (.ref 108) = some true := by kernel_rfl
theorem exm_vp (P : Params) : exmOne (KK P) (.type "ValueError") (.ref 108) = some false := by kernel_rfl
theorem exm_vv (P : Params) : exmOne (KK P) (.type "ValueError") (.type "ValueError") = some true := by kernel_rfl
theorem find96 (P : Params) : findIn (KK P) (.ref 96) "__str__" = some (some (.builtin "BaseException.__str__")) := by kernel_rfl
theorem find108 (P : Params) : findIn (KK P) (.ref 108) "__str__" = some (some (.builtin "BaseException.__str__")) := by kernel_rfl
theorem sub96 (P : Params) : subIn (KK P) (.ref 96) (.type "BaseException") = some true := by kernel_rfl
theorem sub108 (P : Params) : subIn (KK P) (.ref 108) (.type "BaseException") = some true := by kernel_rfl
end Mine

open PySem PySem.W PyProof.Rows PySem.Calls
set_option Elab.async false
set_option linter.all false
set_option maxRecDepth 100000
namespace Mine
noncomputable def heardD (r : PRes) (x host : PySem.Str) : D := match r with
  | .ok n => .tup [.str host, .int n]
  | .reply => .tup [.str "r", .str x]
  | .proto => .tup [.str "p", .str x]
  | .value => .tup [.str "v", .str ""]
section
variable {Z : Zone} {A : Around} {O : Addr → Prop} {s : Shared} {outer : List Env} {R : Result → Shared → Prop}
theorem call_heard (G : ZT Z) {x host : PySem.Str} {vs : List Value} (hx : x.length ≤ 640) (h16 : ∀ c ∈ x.cps.toList, c < 16 ^ 8) (hA : A.handled = none) (hdep : A.depth + 5 < recursionLimit) (hun : A.units + 100 < cLine)
    (hfr : A.frames = some outer) (K : FrOk O s.heap outer) (W : Wd Z O s) (r : Reps O s.heap s.toks [.str x, .str host] vs)
    (hret : ∀ v h' tk, GrowS Z O (· ∈ frs outer) s.heap h' → s.toks ≤ tk → Rep O h' tk (heardD (parseL x.cps.toList) x host) v → R (.ok (.ret v)) { s with heap := h', toks := tk }) :
    codeC (model Z.prog Z.w) A (.call (.ref 174) ⟨vs, []⟩) R s := by
  have r' := r
  simp only [Reps] at r'
  obtain ⟨v1, _, rfl, r1, v2, _, rfl, r2, rfl⟩ := r'
  have hFt : ∀ b ∈ frs outer, ¬ isTab Z b := fun b hb => K.notTab W.tabs hb
  refine fn_enterGC (ns := ["reply", "host"]) True (fun _ _ => False) G.toZoneOk W (dep0 hdep) hfr K (G.K 174 _ rfl) rfl (codeRec_of (Frag.In.keeps G.K W.zone) rfl) rfl rfl (by decide) (by decide) (by decide) rfl rfl rfl r (fun _ => rfl) (fun _ => rfl) ?_ (fun v h' tk _ g le r => hret v h' tk g le r) (fun _ _ _ _ _ f => f.elim)
  intro L h₁ t₁ X hfr' hLn Q E kret kup
  have ok := envOk_of X rfl rfl rfl
  have X₀ := X.lessB (B := fun b o => Stood Z s.heap b o ∧ b ∉ frs outer) (fun b o e => e.1) (fun b o e => ⟨X.zone b o e, fun f => W.OZ b o (K.dict f).1 e⟩)
  refine wpC_execs_cons (wpC_Try_except (wpC_execs_cons (wpC_Assign_Name (wpC_callF X₀ (X₀.zone _ _ (G.K 117 _ rfl)) rfl (ev_g G.toZK ok rfl) (evs_cons (ev_local rfl) (evs_cons (ev_tup (evs_cons (ev_local rfl) (evs_cons ev_int evs_nil))) evs_nil)) fun h₂ t₂ vs' X₂ g₂ le₂ r₂ => ?_))))
  -- the frames, before the call
  have s2 : ∀ b o, ¬ isTab Z b → s.heap.get? b = some o → h₂.get? b = some o := fun b o n e => g₂.1 b o n (X.base b o ⟨e, n⟩)
  have K₂ := FrOk.push X₂ rfl (show ScopeKind.function ≠ ScopeKind.module by decide) K (fun b q => .inl q) fun b o hb e => s2 b o (hFt b hb) e
  have hF : ∀ b, b ∈ frs (callEnv _ L 174 :: outer) → (fun b => O b ∨ b = L) b ∧ (∀ o, ¬ (Stood Z s.heap b o ∧ b ∉ frs outer)) ∧ ∃ o es n, h₂.get? b = some o ∧ o.data = .dict es n := fun b hb => by
    obtain ⟨h1, h2⟩ := K₂.dict hb
    refine ⟨h1, fun o e => ?_, h2⟩
    obtain ⟨env', he', hf'⟩ := mem_frs.mp hb
    rcases List.mem_cons.mp he' with rfl | he'
    · cases hf'; have := e.1.1; rw [hLn] at this; cases this
    · exact e.2 (mem_frs.mpr ⟨env', he', hf'⟩)
  refine wpC_call (call_parse G hx h16 hA (by show A.depth + 1 < _; omega) hfr' K₂ X₂.wd r₂ (fun v h' tk hg gS le rv => ?_) fun cls y e h' tk hb u le => ?_)
  · have X₃ := X₂.resume gS hF le
    have out := fun {hf : Heap} (k3 : ∀ b o, Now Z h' L b o → hf.get? b = some o) (tab : Tab Z (fun b => O b ∨ b = L) hf) => out_growS (O := fun b => O b ∨ b = L) s2 gS k3 hLn rfl hFt tab
    refine sname_local X₃ rfl rfl rv fun h₄ t₄ k₄ X₄ => ?_
    refine wpC_of_any (wpAny_execs_nil (wpAny_execs_nil (wpC_of_any (Xs.run ?_))))
    refine x_assign X₄ (ev_and3 (x := true) (y := true) (z := true) (ev_istup (ev_b G.toZK ok rfl rfl) (ev_local rfl) (ev_b G.toZK ok rfl rfl)) (fun _ => ev_isint (ev_b G.toZK ok rfl rfl) (ev_itemT (k := 1) (d := .int (okOf (parseL x.cps.toList))) (ev_local rfl) ev_int (by decide) (by decide) rfl) (ev_b G.toZK ok rfl rfl))
      fun _ _ => ev_un (ev_isbool (ev_b G.toZK ok rfl rfl) (ev_itemT (k := 1) (d := .int (okOf (parseL x.cps.toList))) (ev_local rfl) ev_int (by decide) (by decide) rfl) (ev_b G.toZK ok rfl rfl)) op_not) asg_store fun h₅ t₅ X₅ => ?_
    refine x_ret X₅ (d := .tup [.str host, .int (okOf (parseL x.cps.toList))]) (ev_ife (b := true) (tst_bool (ev_local rfl)) (fun _ => ev_local rfl) fun hb => by cases hb) fun v h' tk X' r' => ?_
    refine kret v h' tk trivial (out (fun b o e => X'.base b o e) X'.tabs) ?_
    revert hg r'
    unfold heardD goodOf okOf
    cases parseL x.cps.toList <;> intro hg r' <;> first | exact r' | exact hg.elim
  · refine land_up hfr' rfl K₂ u fun base a0 h₅ air => ?_
    have zk := air.zone K₂ X₂.wd.zone X₂.OH
    have ns : h₅.Ns mainGlobals Z.mg := Ns.at_ G.g fun o q => zk _ o q
    have nsb : h₅.Ns builtinsNs Z.mb := Ns.at_ G.b fun o q => zk _ o q
    have kk : (KK Z.w.params).In h₅ := fun b o q => zk b o (G.K b o q)
    cases hpr : parseL x.cps.toList with
    | ok n => rw [hpr] at hb; exact hb.elim
    | reply =>
      rw [hpr] at hb
      obtain ⟨rfl, rfl⟩ := hb
      refine hand_as (c := .ref 96) (fun Q' E' q => Name_function_global ok.fn rfl (loadGlobal_global ns (mg_of G.K G.g rfl) q) (by decide)) (exm_one kk air.looks (exm_rr _)) fun E1 E2 E3 => ?_
      refine air_lands K₂ air fun h₆ air₆ => ?_
      have X₆ := X₂.resume air₆.growS hF le
      have hLd : ∃ o es n, h₆.get? L = some o ∧ o.data = .dict es n := by
        obtain ⟨m, ⟨o, es, n, ho, hd, _⟩, _⟩ := X₆.loc
        exact ⟨o, es, n, ho, hd⟩
      refine sname_local X₆ rfl rfl (d := .val (.ref e)) (by simp only [Rep]) fun h₇ t₇ k₇ X₇ => ?_
      refine Xs.run ?_
      refine x_ret X₇ (d := .tup [.str "r", .str x]) (ev_tup (evs_cons ev_str (evs_cons (ev_strown G air₆ (.inr hLd) ok (by show A.units + 3 + 2 < cLine; omega) (find96 _) (sub96 _) rfl) evs_nil))) fun v h₈ t₈ X₈ r₈ => ?_
      obtain ⟨m, hn, _⟩ := X₈.loc
      refine wpAny_nameGoes rfl hn rfl fun h₉ m' hn' hs' => ?_
      have nt := Ns.notTab X₈.tabs hn
      refine kret v h₉ (t₈ + 1) trivial (out_growS (O := fun b => O b ∨ b = L) s2 air₆.growS (fun b o q => hs'.extBut b o q.2.2 (X₈.base b o q)) hLn rfl hFt (X₈.tabs.same (.inr rfl) nt hs'.extBut)) ?_
      rw [hpr]
      exact r₈.same (.inr rfl) hs'.extBut (Nat.le_succ _)
    | proto =>
      rw [hpr] at hb
      obtain ⟨rfl, rfl⟩ := hb
      refine hand_no (c := .ref 96) (fun Q' E' q => Name_function_global ok.fn rfl (loadGlobal_global ns (mg_of G.K G.g rfl) q) (by decide)) (exm_one kk air.looks (exm_pr _)) ?_
      refine hand_as (c := .ref 108) (fun Q' E' q => Name_function_global ok.fn rfl (loadGlobal_global ns (mg_of G.K G.g rfl) q) (by decide)) (exm_one kk air.looks (exm_pp _)) fun E1 E2 E3 => ?_
      refine air_lands K₂ air fun h₆ air₆ => ?_
      have X₆ := X₂.resume air₆.growS hF le
      have hLd : ∃ o es n, h₆.get? L = some o ∧ o.data = .dict es n := by
        obtain ⟨m, ⟨o, es, n, ho, hd, _⟩, _⟩ := X₆.loc
        exact ⟨o, es, n, ho, hd⟩
      refine sname_local X₆ rfl rfl (d := .val (.ref e)) (by simp only [Rep]) fun h₇ t₇ k₇ X₇ => ?_
      refine Xs.run ?_
      refine x_ret X₇ (d := .tup [.str "p", .str x]) (ev_tup (evs_cons ev_str (evs_cons (ev_strown G air₆ (.inr hLd) ok (by show A.units + 3 + 2 < cLine; omega) (find108 _) (sub108 _) rfl) evs_nil))) fun v h₈ t₈ X₈ r₈ => ?_
      obtain ⟨m, hn, _⟩ := X₈.loc
      refine wpAny_nameGoes rfl hn rfl fun h₉ m' hn' hs' => ?_
      have nt := Ns.notTab X₈.tabs hn
      refine kret v h₉ (t₈ + 1) trivial (out_growS (O := fun b => O b ∨ b = L) s2 air₆.growS (fun b o q => hs'.extBut b o q.2.2 (X₈.base b o q)) hLn rfl hFt (X₈.tabs.same (.inr rfl) nt hs'.extBut)) ?_
      rw [hpr]
      exact r₈.same (.inr rfl) hs'.extBut (Nat.le_succ _)
    | value =>
      rw [hpr] at hb
      obtain ⟨rfl, rfl⟩ := hb
      refine hand_no (c := .ref 96) (fun Q' E' q => Name_function_global ok.fn rfl (loadGlobal_global ns (mg_of G.K G.g rfl) q) (by decide)) (exm_one kk air.looks (exm_vr _)) ?_
      refine hand_no (c := .ref 108) (fun Q' E' q => Name_function_global ok.fn rfl (loadGlobal_global ns (mg_of G.K G.g rfl) q) (by decide)) (exm_one kk air.looks (exm_vp _)) ?_
      refine hand_plain (c := .type "ValueError") (fun Q' E' q => Name_function_global ok.fn rfl (loadGlobal_builtin ns (mg_none_of G.K G.g rfl) nsb ((G.boot "ValueError" (by decide)).trans rfl) q) (by decide)) (exm_one kk air.looks (exm_vv _)) fun E1 E2 => ?_
      refine air_lands K₂ air fun h₆ air₆ => ?_
      have X₆ := X₂.resume air₆.growS hF le
      refine Xs.run ?_
      refine x_ret X₆ (d := .tup [.str "v", .str ""]) (ev_tup (evs_cons ev_str (evs_cons ev_str evs_nil))) fun v h₈ t₈ X₈ r₈ => ?_
      refine kret v h₈ t₈ trivial (out_growS (O := fun b => O b ∨ b = L) s2 air₆.growS (fun b o q => X₈.base b o q) hLn rfl hFt X₈.tabs) ?_
      rw [hpr]
      exact r₈
end
end Mine

open PySem
set_option Elab.async false
set_option linter.all false
set_option maxRecDepth 100000
namespace Mine
structure Item where
  d : PySem.Str
  n : Int
  m : Int
  e : Nat
structure ItemOk (i : Item) : Prop where
  d : i.d ∈ dresses
  nm : Nums i.n i.m
  e : i.e < 3
noncomputable def Item.row (i : Item) : PySem.Str := rowS i.d i.n i.m i.e
noncomputable def Item.sent (i : Item) : PySem.Str := sentS i.d i.n i.m
theorem join_cons (z x y : PySem.Str) (r : List PySem.Str) : (Str.join z (x :: y :: r)).cps.toList = x.cps.toList ++ (z.cps.toList ++ (Str.join z (y :: r)).cps.toList) := by
  show (x ++ z ++ Str.join z (y :: r)).cps.toList = _
  rw [cps_app, cps_app, List.append_assoc]
theorem rows_both : ∀ l : List Item, l ≠ [] → (∀ i ∈ l, ItemOk i) → both false false (Str.join "~" (l.map Item.row)).cps.toList = (Str.join "~" (l.map Item.sent)).cps.toList
  | [], h, _ => absurd rfl h
  | [i], _, h => by
    have hi := h i (.head _)
    have := row_both hi.d hi.nm hi.e []
    rw [List.append_nil] at this
    show both false false (rowS i.d i.n i.m i.e).cps.toList = _
    rw [this, show both false false [] = [] from rfl, List.append_nil]; rfl
  | i :: j :: l, _, h => by
    have hi := h i (.head _)
    have ih := rows_both (j :: l) (by simp) fun x hx => h x (.tail _ hx)
    rw [List.map_cons, List.map_cons, List.map_cons, List.map_cons, join_cons, join_cons]
    rw [List.map_cons, List.map_cons] at ih
    show both false false ((rowS i.d i.n i.m i.e).cps.toList ++ _) = _
    rw [row_both hi.d hi.nm hi.e]
    show _ ++ both false false (126 :: (Str.join "~" (j.row :: l.map Item.row)).cps.toList) = _
    rw [both_ord _ _ _ (by decide) (by decide) (by decide), ih]; rfl
theorem letter_sent {l : List Item} (hne : l ≠ []) (h : ∀ i ∈ l, ItemOk i) : dotG (fixE (Str.join "~" ("." :: l.map Item.row)).cps.toList) 0 = (Str.join "~" (".." :: l.map Item.sent)).cps.toList := by
  have e : ∀ L, dotG (fixE L) 0 = both false true L := fun L => by
    unfold dotG both
    rw [fixE_fx, List.drop_zero]; rfl
  obtain ⟨i, r, rfl⟩ : ∃ i r, l = i :: r := by
    cases l with
    | nil => exact absurd rfl hne
    | cons i r => exact ⟨i, r, rfl⟩
  rw [e, List.map_cons, List.map_cons, join_cons, join_cons]
  have := rows_both (i :: r) (by simp) h
  rw [List.map_cons, List.map_cons] at this
  show both false true (46 :: 126 :: (Str.join "~" (i.row :: r.map Item.row)).cps.toList) = [46, 46] ++ (126 :: (Str.join "~" (i.sent :: r.map Item.sent)).cps.toList)
  rw [both_dot, if_pos rfl, both_ord _ _ _ (by decide) (by decide) (by decide), this]
theorem strs_eq : ∀ {a b : List PySem.Str}, a.map (·.cps.toList) = b.map (·.cps.toList) → a = b
  | [], [], _ => rfl
  | [], _ :: _, h => by simp at h
  | _ :: _, [], h => by simp at h
  | x :: a, y :: b, h => by
    rw [List.map_cons, List.map_cons] at h
    injection h with h1 h2
    rw [str_eq h1, strs_eq h2]
theorem sent_split {l : List Item} (h : ∀ i ∈ l, ItemOk i) : Txt.split (Str.join "~" (".." :: l.map Item.sent)) "~" = (".." : PySem.Str) :: l.map Item.sent := by
  refine strs_eq ?_
  show (Txt.split _ ⟨#[126]⟩).map (·.cps.toList) = _
  rw [split_spl]
  refine splL_join 126 _ (by simp) fun p hp => ?_
  rcases List.mem_cons.mp hp with rfl | hp
  · decide
  · obtain ⟨i, hi, rfl⟩ := List.mem_map.mp hp
    intro hm
    have := (sent_len (h i hi).d (h i hi).nm).2 126 hm
    omega
theorem join_len (z : PySem.Str) (k : Nat) : ∀ l : List PySem.Str, (∀ x ∈ l, x.length ≤ k) → (Str.join z l).length ≤ l.length * (k + z.length)
  | [], _ => by show 0 ≤ _; omega
  | [x], h => by
    have := h x (.head _)
    show x.length ≤ 1 * (k + z.length)
    omega
  | x :: y :: r, h => by
    have ih := join_len z k (y :: r) fun x hx => h x (.tail _ hx)
    have := h x (.head _)
    have e : (Str.join z (x :: y :: r)).length = x.length + (z.length + (Str.join z (y :: r)).length) := by
      have := congrArg List.length (join_cons z x y r)
      simpa [Str.length] using this
    rw [e, List.length_cons, Nat.add_mul]
    omega
theorem join_mem (z : PySem.Str) (B : Nat) (hz : ∀ c ∈ z.cps.toList, c < B) : ∀ l : List PySem.Str, (∀ x ∈ l, ∀ c ∈ x.cps.toList, c < B) → ∀ c ∈ (Str.join z l).cps.toList, c < B
  | [], _, c, hc => by simp [Str.join, Str.empty] at hc
  | [x], h, c, hc => h x (.head _) c hc
  | x :: y :: r, h, c, hc => by
    rw [join_cons] at hc
    rcases List.mem_append.mp hc with hc | hc
    · exact h x (.head _) c hc
    · rcases List.mem_append.mp hc with hc | hc
      · exact hz c hc
      · exact join_mem z B hz (y :: r) (fun x hx => h x (.tail _ hx)) c hc
/-! what is heard of each -/
noncomputable def goodQ (i : Nat) : List Nat := if i = 4 then [13, 10, 13, 10, 32, 48, 48, 80, 13, 10] else if i = 6 then [43, 80] else if i = 7 then [48, 95, 80] else if i = 8 then [45, 77] else [80]
noncomputable def isPart (t : Option TRes) (Q : List Nat) : Bool := match t with
  | some (.part q) => q == Q
  | _ => false
theorem isPart_eq {t : Option TRes} {Q : List Nat} (h : isPart t Q = true) : t = some (.part Q) := by
  unfold isPart at h
  split at h
  · rw [eq_of_beq h]
  · cases h
theorem good_facts : ((List.range 10).all fun i => isPart (parseT (sentT (tailOf (Str.ofString "g" ++ goods.getD i Str.empty)))) (goodQ i)) = true := by decide +kernel
noncomputable def badQ (Q : List Nat) : Bool := Q == [80, 120] || Q == [] || Q == [80, 32, 80] || Q == [80, 46, 48]
noncomputable def isBad (h : Nat) (t : Option TRes) : Bool := match t with
  | some .reply => h == 114
  | some .proto => h == 112
  | some (.part Q) => h == 118 && badQ Q
  | none => false
theorem bad_facts : ((List.range 23).all fun i => isBad ((bads.getD i Str.empty).cps.toList.getD 0 0) (parseT (sentT (tailOf (bads.getD i Str.empty))))) = true := by decide +kernel
theorem flag_facts : ((List.range 10).all fun i => (!(Builtin.Str.occurrences (Str.ofString "g" ++ goods.getD i Str.empty) "-M" 0 (Str.ofString "g" ++ goods.getD i Str.empty).length 1).isEmpty) == (i == 8)) = true := by decide +kernel
section
variable {n m : Int}
theorem int_goodQ (hn : Nums n m) (i : Nat) : PySem.intText? ⟨((goodQ i).flatMap (sub2 (dg n) (dg m))).toArray⟩ = some (if i = 8 then -m else n) := by
  obtain ⟨P, vP, lP⟩ := num_val hn.n0 hn.n1
  obtain ⟨M, vM, lM⟩ := num_val hn.m0 hn.m1
  have hq : ∀ c ∈ goodQ i, 0 < c ∧ c < 126 := by
    unfold goodQ
    split
    · decide
    · split
      · decide
      · split
        · decide
        · split <;> decide
  rw [int_asc fun c hc => by have := sub2_mem P M hq c hc; omega]
  unfold goodQ
  by_cases h4 : i = 4
  · rw [if_pos h4, if_neg (by omega)]
    have := int_padded P lP
    rw [vP] at this
    refine (congrArg intA ?_).trans this
    simp [sub2]
  · rw [if_neg h4]
    by_cases h6 : i = 6
    · rw [if_pos h6, if_neg (by omega)]
      have := int_plus P lP
      rw [vP] at this
      refine (congrArg intA ?_).trans this
      simp [sub2]
    · rw [if_neg h6]
      by_cases h7 : i = 7
      · rw [if_pos h7, if_neg (by omega)]
        have := int_under P lP
        rw [vP] at this
        refine (congrArg intA ?_).trans this
        simp [sub2]
      · rw [if_neg h7]
        by_cases h8 : i = 8
        · rw [if_pos h8, if_pos h8]
          have := int_minus M lM
          rw [vM] at this
          refine (congrArg intA ?_).trans this
          simp [sub2]
        · rw [if_neg h8, if_neg h8]
          have := int_plain P lP
          rw [vP] at this
          refine (congrArg intA ?_).trans this
          simp [sub2]
theorem int_badQ (hn : Nums n m) {Q : List Nat} (hQ : badQ Q = true) : PySem.intText? ⟨(Q.flatMap (sub2 (dg n) (dg m))).toArray⟩ = none := by
  obtain ⟨P, vP, lP⟩ := num_val hn.n0 hn.n1
  obtain ⟨M, vM, lM⟩ := num_val hn.m0 hn.m1
  simp only [badQ, Bool.or_eq_true, beq_iff_eq] at hQ
  rcases hQ with ((rfl | rfl) | rfl) | rfl
  · rw [int_asc fun c hc => by have := sub2_mem P M (S := [80, 120]) (by decide) c hc; omega]
    have := int_bad P (c := 120) (z := 120) (r := []) (B := dg n) step_x rfl (by decide)
    refine (congrArg intA ?_).trans this
    simp [sub2]
  · exact (int_asc (by simp)).trans rfl
  · rw [int_asc fun c hc => by have := sub2_mem P M (S := [80, 32, 80]) (by decide) c hc; omega]
    obtain ⟨a, A, B, z, e1, e2, ha, hz⟩ := num_ends P
    have e5 : dg n ++ 32 :: dg n = dg n ++ 32 :: B ++ [z] := by rw [List.append_assoc, List.cons_append, ← e2]
    have := int_bad P (c := 32) (z := z) (r := dg n) (B := dg n ++ 32 :: B) step_sp e5 (by omega)
    refine (congrArg intA ?_).trans this
    simp [sub2]
  · rw [int_asc fun c hc => by have := sub2_mem P M (S := [80, 46, 48]) (by decide) c hc; omega]
    have := int_bad P (c := 46) (z := 48) (r := [48]) (B := dg n ++ [46]) step_dot (by simp) (by decide)
    refine (congrArg intA ?_).trans this
    simp [sub2]
/-- what is told of a reply that was sent -/
theorem heard_good (hn : Nums n m) (cell : Int) : parseL (sentS (dressOf cell false) n m).cps.toList = .ok (if goodAt cell = 8 then -m else n) := by
  have hd := dress_mem cell false
  obtain ⟨h1, _⟩ := row_fact hd
  obtain ⟨P, vP, lP⟩ := num_val hn.n0 hn.n1
  obtain ⟨M, vM, lM⟩ := num_val hn.m0 hn.m1
  have f := List.all_eq_true.mp good_facts (goodAt cell) (List.mem_range.mpr (goodAt_lt cell))
  rw [sent_list h1 P M]
  refine (parse_sub P M (S := sentT (tailOf (dressOf cell false))) (t := .part (goodQ (goodAt cell))) (isPart_eq f)).trans ?_
  show (match PySem.intText? ⟨((goodQ (goodAt cell)).flatMap (sub2 (dg n) (dg m))).toArray⟩ with
    | some n => PRes.ok n
    | none => .value) = _
  rw [int_goodQ hn]
theorem heard_bad (hn : Nums n m) (cell : Int) (host : PySem.Str) : heardD (parseL (sentS (dressOf cell true) n m).cps.toList) (sentS (dressOf cell true) n m) host = .tup [.str (Txt.item (dressOf cell true) 0), .str (if Txt.item (dressOf cell true) 0 == "v" then "" else sentS (dressOf cell true) n m)] := by
  have hd := dress_mem cell true
  obtain ⟨h1, _⟩ := row_fact hd
  obtain ⟨P, vP, lP⟩ := num_val hn.n0 hn.n1
  obtain ⟨M, vM, lM⟩ := num_val hn.m0 hn.m1
  have f := List.all_eq_true.mp bad_facts (badAt cell) (List.mem_range.mpr (badAt_lt cell))
  have hl : 0 < (dressOf cell true).cps.toList.length := by
    have : (dressOf cell true).cps.toList.length = (dressOf cell true).length := by simp [Str.length]
    omega
  have hit : Txt.item (dressOf cell true) 0 = ⟨#[(dressOf cell true).cps.toList.getD 0 0]⟩ := item_list hl
  rw [hit, sent_list h1 P M]
  generalize hS : sentS (dressOf cell true) n m = S
  cases ht : parseT (sentT (tailOf (dressOf cell true))) with
  | none =>
    rw [show parseT (sentT (tailOf (bads.getD (badAt cell) Str.empty))) = none from ht] at f
    cases f
  | some t =>
    rw [show parseT (sentT (tailOf (bads.getD (badAt cell) Str.empty))) = some t from ht] at f
    rw [show (dressOf cell true).cps.toList.drop 1 = tailOf (dressOf cell true) from rfl, parse_sub P M ht]
    have f' : isBad ((dressOf cell true).cps.toList.getD 0 0) (some t) = true := f
    generalize (dressOf cell true).cps.toList.getD 0 0 = h at f'
    cases t with
    | reply =>
      have : h = 114 := eq_of_beq f'
      subst this; rfl
    | proto =>
      have : h = 112 := eq_of_beq f'
      subst this; rfl
    | part Q =>
      simp only [isBad, Bool.and_eq_true, beq_iff_eq] at f'
      obtain ⟨rfl, hQ⟩ := f'
      show heardD (match PySem.intText? ⟨(Q.flatMap (sub2 (dg n) (dg m))).toArray⟩ with
        | some n => PRes.ok n
        | none => .value) S host = _
      rw [int_badQ hn hQ]; rfl
theorem flag_good (cell : Int) : (!(Builtin.Str.occurrences (dressOf cell false) "-M" 0 (dressOf cell false).length 1).isEmpty) = (goodAt cell == 8) := by
  have f := List.all_eq_true.mp flag_facts (goodAt cell) (List.mem_range.mpr (goodAt_lt cell))
  exact eq_of_beq f
end
end Mine

open PySem
set_option Elab.async false
set_option linter.all false
set_option maxRecDepth 100000
namespace Mine
noncomputable def cel (cs : List Int) (i : Nat) : Int := cs.getD i 0
noncomputable def up0 (cs : List Int) : Int := (cel cs 0).fmod 179 - 89
noncomputable def lo0 (cs : List Int) : Int := ((cel cs 0).fdiv 179).fmod 30 + 1
noncomputable def shr (cs : List Int) : Int := (Int.gcd (up0 cs) (lo0 cs) : Nat)
noncomputable def upv (cs : List Int) : Int := (up0 cs).fdiv (shr cs)
noncomputable def lov (cs : List Int) : Int := (lo0 cs).fdiv (shr cs)
noncomputable def sgn (cs : List Int) : Int := 1 - 2 * ((cel cs 1).fdiv 11).fmod 2
noncomputable def cOf (cs : List Int) : Nat := ((cel cs 1).fmod 11).toNat
noncomputable def siz (cs : List Int) (i : Nat) : Nat := P11.getD ((cOf cs + 5 * i) % 11) 0
noncomputable def spoR (cell room : Int) : Bool := cell.fmod 4 == 2 && decide (0 < room)
noncomputable def lieR (cell room : Int) : Bool := cell.fmod 4 == 3 && decide (1 < room)
noncomputable def roomAt (cs : List Int) : Nat → Int
  | 0 => 4
  | i + 1 => if spoR (cel cs (i + 2)) (roomAt cs i) then roomAt cs i - 1 else if lieR (cel cs (i + 2)) (roomAt cs i) then roomAt cs i - 2 else roomAt cs i
noncomputable def spo (cs : List Int) (i : Nat) : Bool := spoR (cel cs (i + 2)) (roomAt cs i)
noncomputable def lie (cs : List Int) (i : Nat) : Bool := lieR (cel cs (i + 2)) (roomAt cs i)
noncomputable def liarsAt (cs : List Int) : Nat → Int
  | 0 => 1
  | i + 1 => if spo cs i then liarsAt cs i else if lie cs i then liarsAt cs i * siz cs i else liarsAt cs i
noncomputable def TurnP (p : Nat) (u l : Int) (k : Nat) : Prop := (∀ i : Nat, i < k → (u + i * p) % l ≠ 0) ∧ (u + k * p) % l = 0 ∧ (k : Int) < l ∧ (p : Int) ∣ u - l * ((u + k * p) / l % p)
open Classical in
noncomputable def turns (p : Nat) (u l : Int) : Nat := if h : ∃ k, TurnP p u l k then h.choose else 0
noncomputable def turnAt (cs : List Int) (i : Nat) : Nat := turns (siz cs i) (upv cs) (lov cs)
noncomputable def resAt (cs : List Int) (i : Nat) : Int := ((upv cs + turnAt cs i * siz cs i).fdiv (lov cs)).fmod (siz cs i)
noncomputable def portAt (cs : List Int) (i : Nat) : Int := if spo cs i then resAt cs i else if lie cs i then (resAt cs i + 1 + ((cel cs (i + 2)).fdiv 4).fmod (siz cs i - 1)).fmod (siz cs i) else resAt cs i
noncomputable def moreAt (cs : List Int) (i : Nat) : Int := siz cs i * ((cel cs (i + 2)).fdiv 1000).fmod 400
noncomputable def endI (cs : List Int) (i : Nat) : Int := ((cel cs (i + 2)).fdiv 10000).fmod 3
noncomputable def dressAt (cs : List Int) (i : Nat) : PySem.Str := dressOf (cel cs (i + 2)) (spo cs i)
noncomputable def itemAt (cs : List Int) (i : Nat) : Item := ⟨dressAt cs i, portAt cs i + moreAt cs i, siz cs i - portAt cs i + moreAt cs i, (endI cs i).toNat⟩
noncomputable def hasM (d : PySem.Str) : Bool := !(Builtin.Str.occurrences d "-M" 0 d.length 1).isEmpty
noncomputable def toldAt (cs : List Int) (i : Nat) : Int := if hasM (dressAt cs i) then portAt cs i - siz cs i - moreAt cs i else portAt cs i + moreAt cs i
noncomputable def hostS (i : Nat) : PySem.Str := Str.ofString "host" ++ Str.ofString (toString (i : Int))
noncomputable def dueD (cs : List Int) (i : Nat) : D := .tup [.str (Txt.item (dressAt cs i) 0), .str (if Txt.item (dressAt cs i) 0 == "v" then "" else (itemAt cs i).sent)]
noncomputable def fineD (cs : List Int) (i : Nat) : D := .tup [.str (hostS i), .int (toldAt cs i)]
noncomputable def duesD (cs : List Int) (i : Nat) : D := if spo cs i then dueD cs i else fineD cs i
/-! bounds -/
theorem fmod_lt {a b : Int} (hb : 0 < b) : 0 ≤ a.fmod b ∧ a.fmod b < b := by
  rw [Int.fmod_eq_emod_of_nonneg _ (Int.le_of_lt hb)]
  exact ⟨Int.emod_nonneg _ (Int.ne_of_gt hb), Int.emod_lt_of_pos _ hb⟩
section
variable (cs : List Int)
theorem up0_ok : -89 ≤ up0 cs ∧ up0 cs ≤ 89 := by
  have := fmod_lt (a := cel cs 0) (b := 179) (by decide)
  unfold up0; omega
theorem lo0_ok : 1 ≤ lo0 cs ∧ lo0 cs ≤ 30 := by
  have := fmod_lt (a := (cel cs 0).fdiv 179) (b := 30) (by decide)
  unfold lo0; omega
theorem frac_ok : 0 < shr cs ∧ -89 ≤ upv cs ∧ upv cs ≤ 89 ∧ 0 < lov cs ∧ lov cs ≤ 30 ∧ ∃ x y : Int, upv cs * x + lov cs * y = 1 := by
  have h1 := up0_ok cs
  have h2 := lo0_ok cs
  obtain ⟨g0, e1, e2, l0, xy⟩ := shared_ok (up := up0 cs) (lo := lo0 cs) (by omega)
  have hs : 0 < shr cs := g0
  have eu : upv cs = up0 cs / shr cs := Int.fdiv_eq_ediv_of_nonneg _ (Int.le_of_lt hs)
  have el : lov cs = lo0 cs / shr cs := Int.fdiv_eq_ediv_of_nonneg _ (Int.le_of_lt hs)
  have e1' : up0 cs = upv cs * shr cs := by rw [eu]; exact e1
  have e2' : lo0 cs = lov cs * shr cs := by rw [el]; exact e2
  have l0' : 0 < lov cs := by rw [el]; exact l0
  refine ⟨hs, ?_, ?_, l0', ?_, by rw [eu, el]; exact xy⟩
  · exact quo_lo hs e1' h1.1
  · exact quo_up (by decide) hs e1' h1.2
  · exact quo_up (by decide) hs e2' h2.2
theorem sgn_ok : sgn cs = 1 ∨ sgn cs = -1 := by
  have := fmod_lt (a := (cel cs 1).fdiv 11) (b := 2) (by decide)
  unfold sgn; omega
theorem p11_at {i : Nat} (h : i < 11) : P11.getD i 0 ∈ P11 := by
  rw [List.getD_eq_getElem?_getD, List.getElem?_eq_getElem (show i < P11.length from h)]
  exact List.getElem_mem _
theorem siz_mem (i : Nat) : siz cs i ∈ P11 := p11_at (Nat.mod_lt _ (by decide))
theorem p11_big {p : Nat} (h : p ∈ P11) : 101 ≤ p ∧ p ≤ 151 := by
  have : (P11.all fun q => decide (101 ≤ q) && decide (q ≤ 151)) = true := by decide
  have := List.all_eq_true.mp this p h
  simpa using this
theorem siz_big (i : Nat) : 101 ≤ siz cs i ∧ siz cs i ≤ 151 := p11_big (siz_mem cs i)
theorem turn_ok (i : Nat) : TurnP (siz cs i) (upv cs) (lov cs) (turnAt cs i) := by
  obtain ⟨_, _, _, l0, l30, _⟩ := frac_ok cs
  have h : ∃ k, TurnP (siz cs i) (upv cs) (lov cs) k := residue (siz_mem cs i) l0 (by omega)
  unfold turnAt turns
  rw [dif_pos h]
  exact h.choose_spec
theorem res_ok (i : Nat) : 0 ≤ resAt cs i ∧ resAt cs i < siz cs i ∧ (siz cs i : Int) ∣ upv cs - lov cs * resAt cs i := by
  obtain ⟨_, _, _, l0, _, _⟩ := frac_ok cs
  have hb := siz_big cs i
  have h1 := fmod_lt (a := (upv cs + turnAt cs i * siz cs i).fdiv (lov cs)) (b := (siz cs i : Int)) (by omega)
  refine ⟨h1.1, h1.2, ?_⟩
  have := (turn_ok cs i).2.2.2
  unfold resAt
  rw [Int.fmod_eq_emod_of_nonneg _ (by omega), Int.fdiv_eq_ediv_of_nonneg _ (Int.le_of_lt l0)]
  exact this
theorem port_ok (i : Nat) : 0 ≤ portAt cs i ∧ portAt cs i < siz cs i := by
  have h := res_ok cs i
  have hb := siz_big cs i
  unfold portAt
  split
  · exact ⟨h.1, h.2.1⟩
  · split
    · exact fmod_lt (by omega)
    · exact ⟨h.1, h.2.1⟩
theorem more_ok (i : Nat) : 0 ≤ moreAt cs i ∧ moreAt cs i ≤ 151 * 399 ∧ (siz cs i : Int) ∣ moreAt cs i := by
  have h := fmod_lt (a := (cel cs (i + 2)).fdiv 1000) (b := 400) (by decide)
  have hb := siz_big cs i
  unfold moreAt
  refine ⟨Int.mul_nonneg (by omega) h.1, ?_, Int.dvd_mul_right _ _⟩
  exact Int.mul_le_mul (by omega) (by omega) h.1 (by decide)
theorem item_ok (i : Nat) : ItemOk (itemAt cs i) := by
  have h1 := port_ok cs i
  have h2 := more_ok cs i
  have hb := siz_big cs i
  have h3 := fmod_lt (a := (cel cs (i + 2)).fdiv 10000) (b := 3) (by decide)
  refine ⟨dress_mem _ _, ⟨?_, ?_, ?_, ?_⟩, ?_⟩
  · exact (big hb.2 h1 h2.1 h2.2.1).1.1
  · exact (big hb.2 h1 h2.1 h2.2.1).1.2
  · exact (big hb.2 h1 h2.1 h2.2.1).2.1.1
  · exact (big hb.2 h1 h2.1 h2.2.1).2.1.2
  · exact (Int.toNat_lt h3.1).mpr h3.2
/-- what is heard is what is due -/
theorem heard_due (i : Nat) : heardD (parseL (itemAt cs i).sent.cps.toList) (itemAt cs i).sent (hostS i) = duesD cs i := by
  have hi := item_ok cs i
  unfold duesD
  cases hs : spo cs i with
  | true =>
    rw [if_pos rfl]
    have e : dressAt cs i = dressOf (cel cs (i + 2)) true := by unfold dressAt; rw [hs]
    unfold dueD
    show heardD (parseL (sentS (dressAt cs i) _ _).cps.toList) (sentS (dressAt cs i) _ _) (hostS i) = .tup [.str (Txt.item (dressAt cs i) 0), .str (if Txt.item (dressAt cs i) 0 == "v" then "" else sentS (dressAt cs i) (portAt cs i + moreAt cs i) (siz cs i - portAt cs i + moreAt cs i))]
    rw [e]
    exact heard_bad hi.nm _ _
  | false =>
    rw [if_neg (by decide)]
    have e : dressAt cs i = dressOf (cel cs (i + 2)) false := by unfold dressAt; rw [hs]
    unfold fineD toldAt hasM
    rw [e, flag_good]
    show heardD (parseL (sentS (dressAt cs i) (portAt cs i + moreAt cs i) (siz cs i - portAt cs i + moreAt cs i)).cps.toList) _ _ = _
    have hn : Nums (portAt cs i + moreAt cs i) (siz cs i - portAt cs i + moreAt cs i) := hi.nm
    rw [e, heard_good hn]
    by_cases h8 : goodAt (cel cs (i + 2)) = 8
    · rw [if_pos h8, h8]
      show D.tup [.str (hostS i), .int (-(siz cs i - portAt cs i + moreAt cs i))] = _
      rw [if_pos (by decide), show -((siz cs i : Int) - portAt cs i + moreAt cs i) = portAt cs i - siz cs i - moreAt cs i by omega]
    · rw [if_neg h8, if_neg (by simpa using h8)]; rfl
end
end Mine

open PySem
set_option Elab.async false
set_option linter.all false
set_option maxRecDepth 100000
namespace Mine
noncomputable def kd (cs : List Int) (i : Nat) : Nat := if spo cs i then 0 else if lie cs i then 2 else 1
noncomputable def readL (cs : List Int) : List (Nat × Int) := ((List.range 6).filter fun i => !spo cs i).map fun i => (siz cs i, toldAt cs i)
noncomputable def liesL (cs : List Int) : List Nat := ((List.range 6).filter fun i => kd cs i == 2).map (siz cs)
noncomputable def topL (cs : List Int) : Nat := topOf (((List.range 6).filter fun i => !spo cs i).map (siz cs))
section
variable (cs : List Int)
theorem kd_lt (i : Nat) : kd cs i < 3 := by unfold kd; split; · decide
                                            · split <;> decide
theorem kd_zero (i : Nat) : (kd cs i != 0) = !spo cs i := by
  unfold kd
  cases spo cs i
  · cases lie cs i <;> rfl
  · rfl
theorem room_count : ∀ n, 0 ≤ roomAt cs n ∧ roomAt cs n = 4 - (((List.range n).filter fun i => kd cs i == 0).length : Int) - 2 * (((List.range n).filter fun i => kd cs i == 2).length : Int)
  | 0 => by simp [roomAt]
  | n + 1 => by
    obtain ⟨h1, h2⟩ := room_count n
    rw [List.range_succ, List.filter_append, List.filter_append, List.length_append, List.length_append]
    have e : roomAt cs (n + 1) = if spo cs n then roomAt cs n - 1 else if lie cs n then roomAt cs n - 2 else roomAt cs n := rfl
    cases hs : spo cs n with
    | true =>
      have hk : kd cs n = 0 := by unfold kd; rw [hs]; rfl
      have hr : 0 < roomAt cs n := by
        have : spoR (cel cs (n + 2)) (roomAt cs n) = true := hs
        simp only [spoR, Bool.and_eq_true, decide_eq_true_eq] at this
        exact this.2
      rw [e, hs]
      simp only [List.filter_cons, List.filter_nil, hk]
      simp
      omega
    | false =>
      cases hl : lie cs n with
      | true =>
        have hk : kd cs n = 2 := by unfold kd; rw [hs, hl]; rfl
        have hr : 1 < roomAt cs n := by
          have : lieR (cel cs (n + 2)) (roomAt cs n) = true := hl
          simp only [lieR, Bool.and_eq_true, decide_eq_true_eq] at this
          exact this.2
        rw [e, hs, hl]
        simp only [List.filter_cons, List.filter_nil, hk]
        simp
        omega
      | false =>
        have hk : kd cs n = 1 := by unfold kd; rw [hs, hl]; rfl
        rw [e, hs, hl]
        simp only [List.filter_cons, List.filter_nil, hk]
        simp
        omega
theorem cOf_lt : cOf cs < 11 := by
  have := fmod_lt (a := cel cs 1) (b := 11) (by decide)
  unfold cOf; omega
theorem szs_siz : szs (cOf cs) = (List.range 6).map (siz cs) := rfl
theorem dig_six {a b c d e f : Nat} (h0 : a < 3) (h1 : b < 3) (h2 : c < 3) (h3 : d < 3) (h4 : e < 3) (h5 : f < 3) : dig3 (a + 3 * b + 9 * c + 27 * d + 81 * e + 243 * f) = [a, b, c, d, e, f] := by
  have h : a + 3 * b + 9 * c + 27 * d + 81 * e + 243 * f = a + 3 * (b + 3 * (c + 3 * (d + 3 * (e + 3 * f)))) := by omega
  have m3 : ∀ {x q : Nat}, x < 3 → (x + 3 * q) % 3 = x := fun h => by rw [Nat.add_mul_mod_self_left, Nat.mod_eq_of_lt h]
  have d3 : ∀ {x q : Nat}, x < 3 → (x + 3 * q) / 3 = q := fun h => by rw [Nat.add_mul_div_left _ _ (by decide), Nat.div_eq_of_lt h, Nat.zero_add]
  rw [h]
  generalize hm : a + 3 * (b + 3 * (c + 3 * (d + 3 * (e + 3 * f)))) = m
  show [m / 1 % 3, m / 3 % 3, m / (3 * 3) % 3, m / (3 * 3 * 3) % 3, m / (3 * 3 * 3 * 3) % 3, m / (3 * 3 * 3 * 3 * 3) % 3] = _
  subst hm
  simp only [← Nat.div_div_eq_div_mul]
  rw [Nat.div_one, m3 h0, d3 h0, m3 h1, d3 h1, m3 h2, d3 h2, m3 h3, d3 h3, m3 h4, d3 h4, Nat.mod_eq_of_lt h5]
theorem dig_mask : ∃ m, m < 729 ∧ dig3 m = (List.range 6).map (kd cs) := by
  have k := kd_lt cs
  have h0 := k 0; have h1 := k 1; have h2 := k 2; have h3 := k 3; have h4 := k 4; have h5 := k 5
  exact ⟨kd cs 0 + 3 * kd cs 1 + 9 * kd cs 2 + 27 * kd cs 3 + 81 * kd cs 4 + 243 * kd cs 5, by omega, dig_six h0 h1 h2 h3 h4 h5⟩
theorem pick_map (p : Nat → Bool) (f g : Nat → Nat) (l : List Nat) : pick p (l.map f) (l.map g) = (l.filter fun i => p (g i)).map f := by
  unfold pick
  induction l with
  | nil => rfl
  | cons x l ih =>
    simp only [List.map_cons, List.zip_cons_cons, List.filter_cons]
    cases p (g x) <;> simp [ih]
theorem nums_ok : prodN (liesL cs) ≤ topL cs ∧ 5340 * (topL cs * topL cs) < prodN ((readL cs).map (·.1)) ∧ prodN ((readL cs).map (·.1)) < 2 ^ 50 := by
  obtain ⟨m, hm, e⟩ := dig_mask cs
  have f := List.all_eq_true.mp (List.all_eq_true.mp facts_ok (cOf cs) (List.mem_range.mpr (cOf_lt cs))) m (List.mem_range.mpr hm)
  have hr := room_count cs 6
  have ok : okMask ((List.range 6).map (kd cs)) = true := by
    unfold okMask
    rw [decide_eq_true_eq, List.filter_map, List.filter_map, List.length_map, List.length_map]
    have e1 : ((fun x => x == 0) ∘ kd cs) = fun i => kd cs i == 0 := rfl
    have e2 : ((fun x => x == 2) ∘ kd cs) = fun i => kd cs i == 2 := rfl
    rw [e1, e2]
    omega
  have e1 : pick (· != 0) (szs (cOf cs)) ((List.range 6).map (kd cs)) = ((List.range 6).filter fun i => !spo cs i).map (siz cs) := by
    rw [szs_siz, pick_map]
    congr 2
    funext i
    exact kd_zero cs i
  have e2 : pick (· == 2) (szs (cOf cs)) ((List.range 6).map (kd cs)) = liesL cs := by
    rw [szs_siz, pick_map]; rfl
  have e3 : (readL cs).map (·.1) = ((List.range 6).filter fun i => !spo cs i).map (siz cs) := by
    unfold readL; rw [List.map_map]; rfl
  unfold factOf at f
  rw [e] at f
  simp only [ok, e1, e2, Bool.not_true, Bool.false_or, Bool.and_eq_true, decide_eq_true_eq] at f
  rw [e3]
  exact ⟨f.1.1, f.1.2, f.2⟩
theorem sizes_nodup : ((List.range 6).map (siz cs)).Nodup := by
  have : ((List.range 11).all fun c => decide (szs c).Nodup) = true := by decide +kernel
  have := List.all_eq_true.mp this (cOf cs) (List.mem_range.mpr (cOf_lt cs))
  rw [← szs_siz]
  exact of_decide_eq_true this
theorem sub_nodup (p : Nat → Bool) : (((List.range 6).filter p).map (siz cs)).Nodup := (sizes_nodup cs).sublist (List.filter_sublist.map _)
theorem read_nodup : ((readL cs).map (·.1)).Nodup := by
  unfold readL; rw [List.map_map]
  exact sub_nodup cs _
theorem told_port (i : Nat) : (siz cs i : Int) ∣ toldAt cs i - portAt cs i := by
  obtain ⟨_, _, z, hz⟩ := more_ok cs i
  unfold toldAt
  split
  · exact ⟨-1 - z, by rw [Int.mul_sub, ← hz]; omega⟩
  · exact ⟨z, by rw [← hz]; omega⟩
theorem told_true {i : Nat} (hs : spo cs i = false) (hl : lie cs i = false) : (siz cs i : Int) ∣ upv cs - lov cs * toldAt cs i := by
  have h := (res_ok cs i).2.2
  have hp : portAt cs i = resAt cs i := by unfold portAt; rw [hs, hl]; rfl
  have h1 : (siz cs i : Int) ∣ lov cs * (toldAt cs i - portAt cs i) := Int.dvd_trans (told_port cs i) (Int.dvd_mul_left _ _)
  rw [hp, Int.mul_sub] at h1
  have e : upv cs - lov cs * toldAt cs i = (upv cs - lov cs * resAt cs i) - (lov cs * toldAt cs i - lov cs * resAt cs i) := by omega
  rw [e]
  exact Int.dvd_sub h h1
theorem told_lie {i : Nat} (hs : spo cs i = false) (hl : lie cs i = true) : ¬ (siz cs i : Int) ∣ upv cs - lov cs * toldAt cs i := fun hd => by
  have h := res_ok cs i
  have hb := siz_big cs i
  obtain ⟨_, _, _, l0, l30, _⟩ := frac_ok cs
  have hx := fmod_lt (a := (cel cs (i + 2)).fdiv 4) (b := (siz cs i : Int) - 1) (by omega)
  generalize ((cel cs (i + 2)).fdiv 4).fmod ((siz cs i : Int) - 1) = x at hx
  have hp : portAt cs i = (resAt cs i + 1 + ((cel cs (i + 2)).fdiv 4).fmod (siz cs i - 1)).fmod (siz cs i) := by unfold portAt; rw [hs, hl]; rfl
  have hx2 := fmod_lt (a := (cel cs (i + 2)).fdiv 4) (b := (siz cs i : Int) - 1) (by omega)
  generalize ((cel cs (i + 2)).fdiv 4).fmod ((siz cs i : Int) - 1) = y at hp hx2
  rw [Int.fmod_eq_emod_of_nonneg _ (by omega)] at hp
  -- lov * (told - res) is divided
  have h1 : (siz cs i : Int) ∣ lov cs * (toldAt cs i - resAt cs i) := by
    have e : lov cs * (toldAt cs i - resAt cs i) = (upv cs - lov cs * resAt cs i) - (upv cs - lov cs * toldAt cs i) := by rw [Int.mul_sub]; omega
    rw [e]
    exact Int.dvd_sub h.2.2 hd
  have h2 : (siz cs i : Int) ∣ toldAt cs i - resAt cs i := by
    rw [Int.mul_comm] at h1
    refine prime_left (siz_mem cs i) (fun z => ?_) h1
    have := Int.le_of_dvd l0 z
    omega
  have h3 : (siz cs i : Int) ∣ portAt cs i - resAt cs i := by
    have e : portAt cs i - resAt cs i = (toldAt cs i - resAt cs i) - (toldAt cs i - portAt cs i) := by omega
    rw [e]
    exact Int.dvd_sub h2 (told_port cs i)
  have h4 : (siz cs i : Int) ∣ 1 + y := by
    have h5 : (siz cs i : Int) ∣ (resAt cs i + 1 + y) - portAt cs i := by
      rw [hp]
      exact ⟨(resAt cs i + 1 + y) / siz cs i, by rw [Int.emod_def, Int.sub_sub_self]⟩
    have e : 1 + y = ((resAt cs i + 1 + y) - portAt cs i) + (portAt cs i - resAt cs i) := by omega
    rw [e]
    exact Int.dvd_add h5 h3
  have := Int.le_of_dvd (by omega) h4
  omega
/-- what the walk's end needs of the numbers -/
theorem law_ends {W : Nat} {near : Int} (h : Crt W near (readL cs)) :
    ∃ N δ, (∀ n, n < N → (89 * topL cs : Int) < (eu ⟨sgn cs * W, sgn cs * near, sgn cs, 0⟩ n).r.natAbs) ∧ ((eu ⟨sgn cs * W, sgn cs * near, sgn cs, 0⟩ N).r.natAbs : Int) ≤ 89 * topL cs ∧ (δ = 1 ∨ δ = -1) ∧
      (eu ⟨sgn cs * W, sgn cs * near, sgn cs, 0⟩ N).r = δ * (prodN (liesL cs) * upv cs) ∧ (eu ⟨sgn cs * W, sgn cs * near, sgn cs, 0⟩ N).o = δ * (prodN (liesL cs) * lov cs) := by
  obtain ⟨_, u1, u2, l0, l30, xy⟩ := frac_ok cs
  obtain ⟨n1, n2, n3⟩ := nums_ok cs
  refine law_numbers (sgn_ok cs) h (fun q hq => ?_) (read_nodup cs) (sub_nodup cs _) (fun p hp => ?_) (fun q hq hn => ?_) n1 ?_ (by rw [h.w]; exact n2) u1 u2 l0 l30 xy
  · obtain ⟨i, _, rfl⟩ := List.mem_map.mp hq
    exact siz_mem cs i
  · obtain ⟨i, hi, rfl⟩ := List.mem_map.mp hp
    obtain ⟨hi1, hi2⟩ := List.mem_filter.mp hi
    have hk : kd cs i = 2 := eq_of_beq hi2
    have hs : spo cs i = false := by
      unfold kd at hk
      cases hs : spo cs i with
      | true => rw [hs] at hk; simp at hk
      | false => rfl
    have hl : lie cs i = true := by
      unfold kd at hk
      rw [hs] at hk
      cases hl : lie cs i with
      | true => rfl
      | false => rw [hl] at hk; simp at hk
    exact ⟨(siz cs i, toldAt cs i), List.mem_map.mpr ⟨i, List.mem_filter.mpr ⟨hi1, by rw [hs]; rfl⟩, rfl⟩, rfl, told_lie cs hs hl⟩
  · obtain ⟨i, hi, rfl⟩ := List.mem_map.mp hq
    obtain ⟨hi1, hi2⟩ := List.mem_filter.mp hi
    have hs : spo cs i = false := by simpa using hi2
    refine told_true cs hs ?_
    cases hl : lie cs i with
    | false => rfl
    | true =>
      refine absurd (List.mem_map.mpr ⟨i, List.mem_filter.mpr ⟨hi1, ?_⟩, rfl⟩) hn
      have : kd cs i = 2 := by unfold kd; rw [hs, hl]; rfl
      rw [this]; rfl
  · have : ∀ l : List Nat, (∀ q ∈ l, 0 < q) → 0 < prodN l := fun l => by
      induction l with
      | nil => intro _; decide
      | cons x l ih => intro h; exact Nat.mul_pos (h x (.head _)) (ih fun y hy => h y (.tail _ hy))
    refine this _ fun q hq => ?_
    obtain ⟨i, _, rfl⟩ := List.mem_map.mp hq
    have := siz_big cs i
    omega
end
end Mine

open PySem PySem.W PyProof.Rows PySem.Calls
set_option Elab.async false
set_option linter.all false
set_option maxRecDepth 100000
namespace Mine
section
variable {prog : Program} {w : World} {A : Around} {E : Value → Shared → Prop} {s : Shared} {env : Env} {X N I : String}
theorem raise_class0 {x : PySem.Str} {np pos : Pos} {Q : Flow → Shared → Prop} (hh : A.handled = none) (hc : ExcClass X N I) (F : ExcCallFacts X N I)
    (hself : isSubtype (.type X) (.type X) = pure true)
    (hx : wpAny (model prog w) A (eval (.Name x np) env) (fun v s₁ => v = .type X ∧ s₁ = s) E s)
    (h : ∀ h' e, Heap.MadeExc s.heap h' e X [] → E (.ref e) { s with heap := h' }) :
    wpAny (model prog w) A (exec (.Raise (some (.Name x np)) none pos) env) Q E s := by
  show wpAny (model prog w) A (do standAt pos; raiseStmt env (some (do let v ← eval (.Name x np) env; standAt pos; pure v)) none) Q E s
  refine wpAny_bind (wpAny_standAt ?_)
  unfold raiseStmt
  dsimp only
  refine wpAny_bind (wpAny_bind (wpAny_mono hx (fun v s₁ h₁ => wpAny_bind (wpAny_standAt (wpAny_pure ?_))) fun _ _ e => e))
  obtain ⟨rfl, hs₁⟩ := h₁
  subst s₁
  refine wpAny_bind (wpAny_pure ?_)
  dsimp only
  refine wpAny_bind (wpAny_holding ?_)
  unfold excFromValue isExcClass
  refine wpAny_bind (wpAny_bind (wpAny_pure ?_))
  simp only [if_true]
  rw [hc.base]
  refine wpAny_pure ?_
  simp only [if_true]
  refine wpAny_bind (wpAny_call_exc F fun h' e hn => ?_)
  obtain ⟨t, he, htn, ht⟩ := hn.there
  have hT : ({ s with heap := h' } : Shared).TypeIs (.ref e) X := ⟨_, he, rfl⟩
  refine wpAny_bind (wpAny_isInstance hT hc.base ?_)
  simp only [Bool.not_true, Bool.false_eq_true, if_false]
  refine wpAny_pure ?_
  first | (refine wpAny_bind (m := isType (.type X)) (wpAny_pure ?_)) | (refine wpAny_bind (wpAny_pure ?_))
  first | (rw [if_pos rfl]) | (simp only [if_true]) | dsimp only
  refine wpAny_bind (wpAny_holding ?_)
  unfold raisedFor
  first | (simp only [Bool.false_eq_true, if_false]) | (rw [if_neg (by decide)]) | skip
  first | (refine wpAny_bind (wpAny_typeOf hT ?_)) | (refine wpAny_bind ?_; refine wpAny_bind (wpAny_typeOf hT ?_))
  refine wpAny_bind (call_issubclass (issubclass_self hc hself) ?_)
  first | (refine wpAny_bind (wpAny_truthy_bool ?_)) | (refine wpAny_truthy_bool ?_) | (dsimp only [wants]; first | (refine wpAny_bind (wpAny_truthy_bool ?_)) | (refine wpAny_truthy_bool ?_))
  first | (rw [if_pos rfl]) | (simp only [if_true]) | skip
  refine wpAny_pure ?_
  unfold setFlight raiseNew
  refine wpAny_bind (wpAny_bind (wpAny_field (i := 1) (x := Value.none) he rfl rfl ?_))
  rw [if_neg (by decide)]
  refine wpAny_pure (wpAny_bind (wpAny_handled ?_))
  rw [hh]
  first
    | exact wpAny_throw (h h' e hn)
    | exact wpAny_bind (wpAny_pure (wpAny_throw (h h' e hn)))
theorem wpC_Expr {e : PySem.Expr} {pos : Pos} {Q : Flow → Shared → Prop} (h : wpC (model prog w) A (eval e env) (fun _ _ => False) E s) (hi : interactive env = false := by rfl) (hs : swapsWith e none pos.line env = pure false := by rfl) :
    wpC (model prog w) A (exec (.Expr e pos) env) Q E s := by
  rw [arm_exec_Expr]
  refine wpC_then (wpAny_standAt ?_)
  rw [hi]
  simp only [Bool.false_eq_true, if_false]
  rw [hs]
  refine wpC_bind (wpC_pure ?_)
  exact wpC_bind (wpC_mono h (fun _ _ f => f.elim) fun _ _ x => x)
end
section
variable {Z : Zone} {A : Around} {O : Addr → Prop} {s : Shared} {outer : List Env} {R : Result → Shared → Prop}
theorem call_divzero (G : ZT Z) {a : Int} {vs : List Value} (hA : A.handled = none) (hdep : A.depth + 5 < recursionLimit)
    (hfr : A.frames = some outer) (K : FrOk O s.heap outer) (W : Wd Z O s) (r : Reps O s.heap s.toks [.int a, .int 0] vs)
    (hup : ∀ e h' tk, Up Z O outer e (.type "ZeroDivisionError") .nil s.heap h' → s.toks ≤ tk → R (.error (.ref e)) { s with heap := h', toks := tk }) :
    codeAny (model Z.prog Z.w) A (.call (.ref 73) ⟨vs, []⟩) R s := by
  have r' := r
  simp only [Reps] at r'
  obtain ⟨v1, _, rfl, r1, v2, _, rfl, r2, rfl⟩ := r'
  refine fn_enterG (d := .val .none) (ns := ["a", "b"]) False (fun cls x => cls = .type "ZeroDivisionError" ∧ x = .nil) G.toZoneOk W (dep0 hdep) hfr K (G.K 73 _ rfl) rfl (codeRec_of (Frag.In.keeps G.K W.zone) rfl) rfl rfl (by decide) (by decide) (by decide) rfl rfl rfl r (fun _ => rfl) (fun _ => rfl) ?_ (fun v h' tk f _ _ _ => f.elim) (fun cls x e h' tk hb u le => by
    obtain ⟨rfl, rfl⟩ := hb
    exact hup e h' tk u le)
  intro L h₁ t₁ X hfr' hLn Q E kret kup
  have ok := envOk_of X rfl rfl rfl
  refine x_ift X (Tst.cast (tst_cmp (ev_local rfl) ev_int op_eqi) (by simp)) fun h₂ t₂ X₂ => ?_
  refine Xs.cons (raise_class0 hA excClass_ZeroDivisionError PySem.F.excCall_ZeroDivisionError (by rw [isSubtype_type]; kernel_rfl) ?_ fun h' e m => ?_)
  · exact Name_function_global ok.fn rfl (loadGlobal_builtin (ok.gl ▸ X₂.wd.ns G.g) (mg_none_of G.K G.g rfl) (X₂.wd.ns G.b) ((G.boot "ZeroDivisionError" (by decide)).trans rfl) ⟨rfl, rfl⟩) (by decide)
  · exact kup _ _ e h₂ h' t₂ _ _ ⟨rfl, rfl⟩ X₂ (RaisedAt.of_made0 (Heap.MadeExc.of m))
end
end Mine

open PySem PySem.W PyProof.Rows PySem.Calls
set_option Elab.async false
set_option linter.all false
set_option maxRecDepth 100000
namespace Mine
theorem exm_zz (P : Params) : exmOne (KK P) (.type "ZeroDivisionError") (.type "ZeroDivisionError") = some true := by kernel_rfl
/-- str of the exception caught: a builtin one, made without a word -/
theorem ev_str0 {Z : Zone} {A : Around} {env : Env} {O : Addr → Prop} {ρ : Rho} (G : ZT Z) {l : List Env} {base hc h₆ : Heap} {e : Addr} {a0 : Value} {T : String} {n : String} {y : PySem.Str} (FX : PySem.ExcStrFacts T n) (a : Air Z O l base e (.type T) a0 .nil hc h₆) (hL : h₆.get? env.locals = none ∨ ∃ o es n, h₆.get? env.locals = some o ∧ o.data = .dict es n)
    (ok : EnvOk env) (hu : A.units + 2 < cLine) {p1 p2 pos : Pos}
    (hg : get ρ y = some (.val (.ref e))) (hy : env.kindOf y = some .local := by rfl) (hyd : (y == ("__debug__" : PySem.Str)) = false := by decide) (hl : env.kindOf "str" = some .globalImplicit := by rfl) (hm : nsIn (KK Z.w.params) mainGlobals "str" = some none := by rfl)
    (he : eval (.Call (.Name "str" p1) [.Name y p2] [] pos) env = (do callWith pos (← eval (.Name "str" p1) env) [] (backTo pos (starEach [.Name y p2] env)) (backToKw pos (keywordEach [] env))) := by rfl)
    (s1 : starEach [.Name y p2] env = (false, eval (.Name y p2) env) :: starEach [] env := by rfl) :
    Ev Z A env O (Now Z h₆ env.locals) [] ρ (.Call (.Name "str" p1) [.Name y p2] [] pos) (.str "") :=
  ev_callTS (ev_b G.toZK ok hm rfl (by decide) hl) (evs_cons (ev_local hg ok.fn hy hyd) evs_nil s1) (fun s vs X r Q E k => by
    simp only [Reps, Rep] at r
    obtain ⟨_, _, rfl, rfl, rfl⟩ := r
    have hne : ∀ {b : Addr} {o : Obj}, h₆.get? b = some o → (∀ es n, o.data ≠ .dict es n) → b ≠ env.locals := fun {b o} ho hd q => by
      subst q
      rcases hL with z | ⟨o', es, n, z, zd⟩
      · rw [z] at ho; cases ho
      · rw [z] at ho; cases ho; exact hd es n zd
    obtain ⟨t, rfl, ot, nt, hot, htc, htd⟩ := a.arg
    obtain ⟨oe, vs, hoe, hec, hed, he0⟩ := a.fly.first
    have nE : ¬ isTab Z e := by
      rintro ⟨q, hq, rfl⟩
      obtain ⟨_, ps, g, _⟩ := a.tab q hq
      have := a.fly.2.1
      rw [g] at this; cases this
    have nT : ¬ isTab Z t := by
      rintro ⟨q, hq, rfl⟩
      obtain ⟨_, ps, g, _⟩ := a.tab q hq
      have := a.fly.1 _ _ g
      rw [this] at hot; cases hot; cases htd
    have e1 := X.base e oe ⟨hoe, nE, hne hoe fun es n z => by rw [hed] at z; cases z⟩
    have e2 := X.base t ot ⟨hot, nT, hne hot fun es n z => by rw [htd] at z; cases z⟩
    refine PySem.P.str_of_exc_none FX hu (t0 := t) ⟨oe, vs, e1, hec, hed, he0⟩ ⟨ot, nt, e2, htc, htd⟩ ?_
    exact k _ s.heap (s.toks + 1) (Grow.refl X.tabs) (Nat.le_succ _) (by simp only [Rep]; exact ⟨_, rfl⟩)) he s1 rfl
section
variable {Z : Zone} {A : Around} {O : Addr → Prop} {s : Shared} {outer : List Env} {R : Result → Shared → Prop}
theorem call_barred (G : ZT Z) {a : Int} {vs : List Value} (hA : A.handled = none) (hdep : A.depth + 10 < recursionLimit) (hun : A.units + 100 < cLine)
    (hfr : A.frames = some outer) (K : FrOk O s.heap outer) (W : Wd Z O s) (r : Reps O s.heap s.toks [.int a, .int 0] vs)
    (hret : ∀ v h' tk, GrowS Z O (· ∈ frs outer) s.heap h' → s.toks ≤ tk → Rep O h' tk (.bool true) v → R (.ok (.ret v)) { s with heap := h', toks := tk }) :
    codeC (model Z.prog Z.w) A (.call (.ref 186) ⟨vs, []⟩) R s := by
  have r' := r
  simp only [Reps] at r'
  obtain ⟨v1, _, rfl, r1, v2, _, rfl, r2, rfl⟩ := r'
  have hFt : ∀ b ∈ frs outer, ¬ isTab Z b := fun b hb => K.notTab W.tabs hb
  refine fn_enterGC (d := .bool true) (ns := ["number", "nought"]) True (fun _ _ => False) G.toZoneOk W (dep0 hdep) hfr K (G.K 186 _ rfl) rfl (codeRec_of (Frag.In.keeps G.K W.zone) rfl) rfl rfl (by decide) (by decide) (by decide) rfl rfl rfl r (fun _ => rfl) (fun _ => rfl) ?_ (fun v h' tk _ g le r => hret v h' tk g le r) (fun _ _ _ _ _ f => f.elim)
  intro L h₁ t₁ X hfr' hLn Q E kret kup
  have ok := envOk_of X rfl rfl rfl
  have X₀ := X.lessB (B := fun b o => Stood Z s.heap b o ∧ b ∉ frs outer) (fun b o e => e.1) (fun b o e => ⟨X.zone b o e, fun f => W.OZ b o (K.dict f).1 e⟩)
  refine wpC_execs_cons (wpC_Try_except (wpC_execs_cons (wpC_Expr (wpC_callF X₀ (X₀.zone _ _ (G.K 73 _ rfl)) rfl (ev_g G.toZK ok rfl) (evs_cons (ev_local rfl) (evs_cons (ev_local rfl) evs_nil)) fun h₂ t₂ vs' X₂ g₂ le₂ r₂ => ?_))))
  have s2 : ∀ b o, ¬ isTab Z b → s.heap.get? b = some o → h₂.get? b = some o := fun b o n e => g₂.1 b o n (X.base b o ⟨e, n⟩)
  have K₂ := FrOk.push X₂ rfl (show ScopeKind.function ≠ ScopeKind.module by decide) K (fun b q => .inl q) fun b o hb e => s2 b o (hFt b hb) e
  have hF : ∀ b, b ∈ frs (callEnv _ L 186 :: outer) → (fun b => O b ∨ b = L) b ∧ (∀ o, ¬ (Stood Z s.heap b o ∧ b ∉ frs outer)) ∧ ∃ o es n, h₂.get? b = some o ∧ o.data = .dict es n := fun b hb => by
    obtain ⟨h1, h2⟩ := K₂.dict hb
    refine ⟨h1, fun o e => ?_, h2⟩
    obtain ⟨env', he', hf'⟩ := mem_frs.mp hb
    rcases List.mem_cons.mp he' with rfl | he'
    · cases hf'; have := e.1.1; rw [hLn] at this; cases this
    · exact e.2 (mem_frs.mpr ⟨env', he', hf'⟩)
  refine wpC_call (codeC_of_any (call_divzero G hA (dep (a := A.depth) (n := 6) hdep) hfr' K₂ X₂.wd r₂ fun e h' tk u le => ?_))
  refine land_up hfr' rfl K₂ u fun base a0 h₅ air => ?_
  have zk := air.zone K₂ X₂.wd.zone X₂.OH
  have ns : h₅.Ns mainGlobals Z.mg := Ns.at_ G.g fun o q => zk _ o q
  have nsb : h₅.Ns builtinsNs Z.mb := Ns.at_ G.b fun o q => zk _ o q
  have kk : (KK Z.w.params).In h₅ := fun b o q => zk b o (G.K b o q)
  refine hand_as (c := .type "ZeroDivisionError") (fun Q' E' q => Name_function_global ok.fn rfl (loadGlobal_builtin ns (mg_none_of G.K G.g rfl) nsb ((G.boot "ZeroDivisionError" (by decide)).trans rfl) q) (by decide)) (exm_one kk air.looks (exm_zz _)) fun E1 E2 E3 => ?_
  refine air_lands K₂ air fun h₆ air₆ => ?_
  have X₆ := X₂.resume air₆.growS hF le
  have hLd : ∃ o es n, h₆.get? L = some o ∧ o.data = .dict es n := by
    obtain ⟨m, ⟨o, es, n, ho, hd, _⟩, _⟩ := X₆.loc
    exact ⟨o, es, n, ho, hd⟩
  refine sname_local X₆ rfl rfl (d := .val (.ref e)) (by simp only [Rep]) fun h₇ t₇ k₇ X₇ => ?_
  refine Xs.run ?_
  refine x_ret X₇ (d := .bool true) (Ev.cast (ev_cmp (ev_str0 G PySem.F.excStr_ZeroDivisionError air₆ (.inr hLd) ok (by show A.units + 3 + 2 < cLine; omega) rfl) ev_str op_eqs) (by rfl)) fun v h₈ t₈ X₈ r₈ => ?_
  obtain ⟨m, hn, _⟩ := X₈.loc
  refine wpAny_nameGoes rfl hn rfl fun h₉ m' hn' hs' => ?_
  have nt := Ns.notTab X₈.tabs hn
  refine kret v h₉ (t₈ + 1) trivial (out_growS (O := fun b => O b ∨ b = L) s2 air₆.growS (fun b o q => hs'.extBut b o q.2.2 (X₈.base b o q)) hLn rfl hFt (X₈.tabs.same (.inr rfl) nt hs'.extBut)) ?_
  exact r₈.same (.inr rfl) hs'.extBut (Nat.le_succ _)
end
end Mine

open PySem PySem.W PyProof.Rows PySem.Calls
set_option Elab.async false
set_option linter.all false
set_option maxRecDepth 100000
namespace Mine
noncomputable def noE : Value → Shared → Prop := fun _ _ => False
section
variable {M : Model} {A : Around} {E : Value → Shared → Prop} {s : Shared} {env : Env}
theorem wpC_standIf {α : Type} {c : Prop} [Decidable c] {pos : Pos} {k : PUnit → Sem α} {Q : α → Shared → Prop} (h : wpC M A (k ()) Q E s) :
    wpC M A (if c then (standAt pos >>= k) else k ()) Q E s := by
  split
  · exact wpC_then (wpAny_standAt h)
  · exact h
theorem wpC_comprehension_free {e : PySem.Expr} {scope : Scope} {pos : Pos} {newAcc first : Sem Value} {g : Comprehension} {gs : List Comprehension} {cl : List (PySem.Str × Addr)} {use : Option (Value → Sem Unit)}
    {Q : Value → Shared → Prop}
    (hcl : clausesOf e = g :: gs) (hs : ∀ x, foldedSetIterable g.iter env x = pure x) (hclos : closureFor scope env = pure cl)
    (hkind : scope.kind = .function) (hnames : ∀ x ∈ scope.names, x.2 = .local → scope.names.lookup x.1 = some .local)
    (h : wpAny M A first (fun x s₁ => wpAny M A (pyIter x) (fun it s₂ => wpAny M A newAcc (fun acc s₃ =>
      wpAny M A (newFunctionEnv scope env.globals cl [] env.qual none .none (some env)) (fun cenv s₄ =>
        codeC M A (.compStart e 0 it acc { cenv with scope := relabel scope env }) (compPost M A E use Q acc cenv.locals) s₄) E s₃) E s₂) E s₁) E s) :
    wpC M A (comprehension e scope env pos newAcc false first use) Q E s := by
  unfold comprehension
  rw [hclos, hcl]
  refine wpC_then (wpAny_mono h (fun x s₁ h₁ => wpC_then (wpAny_standAt (wpC_then (wpAny_of_eq (hs x) (wpC_then (wpAny_holding (wpAny_mono h₁ (fun it s₂ h₂ =>
    wpC_standIf (wpC_then (wpAny_mono h₂ (fun acc s₃ h₃ => wpC_then (wpAny_pure (wpC_then (wpAny_mono h₃ (fun cenv s₄ h₄ => ?_) fun _ _ h' => h')))) fun _ _ h' => h')))
      fun _ _ h' => h'))))))) fun _ _ h' => h')
  dsimp only
  have hv : ∀ x ∈ (scope.names.filter fun x => (x.2 == .local || x.2 == .cell) && x.1 != (".0" : PySem.Str)).reverse, x.2 = .local →
      Env.kindOf { cenv with scope := relabel scope env } x.1 = some .local := fun x hx hl => lookup_relabel_local (hnames x (List.mem_filter.mp (List.mem_reverse.mp hx)).1 hl)
  have hv' : ∀ x ∈ (scope.names.filter fun x => (x.2 == .local || x.2 == .cell) && x.1 != (".0" : PySem.Str)).reverse.drop 1 ++ (scope.names.filter fun x => (x.2 == .local || x.2 == .cell) && x.1 != (".0" : PySem.Str)).reverse.take 1,
      x.2 = .local → Env.kindOf { cenv with scope := relabel scope env } x.1 = some .local := fun x hx hl => by
    rcases List.mem_append.mp hx with h1 | h1
    · exact hv x (List.mem_of_mem_drop h1) hl
    · exact hv x (List.mem_of_mem_take h1) hl
  refine wpC_holding (wpC_bind (wpC_attempt (wpC_holding (wpC_run (codeC_mono h₄ fun r s' hr => ?_)))))
  cases r with
  | ok f =>
    cases use with
    | none =>
      obtain ⟨m, hn, hr⟩ := hr
      exact wpC_of_any (wpAny_bind (wpAny_holding (wpAny_comp_letGo (cenv := { cenv with scope := relabel scope env }) hkind _ s' m hv hn fun h' m' _ hs' => wpAny_pure (hr h' hs'))))
    | some u =>
      refine wpC_of_any (wpAny_bind (wpAny_rule (wpAny_bind (wpAny_holding (wpAny_mono hr (fun _ s'' hr' => ?_) fun _ _ h' => h')))))
      obtain ⟨m, hn, hr'⟩ := hr'
      exact wpAny_bind (wpAny_comp_letGo (cenv := { cenv with scope := relabel scope env }) hkind _ s'' m hv' hn fun h' m' _ hs' => wpAny_pure (hr' h' hs'))
  | error x =>
    have hr' : ∃ m, s'.heap.Ns cenv.locals m ∧ ∀ h', Heap.SameBut cenv.locals s'.heap h' → ∀ cenv' : Env, cenv'.locals = cenv.locals → wpAny M A (passOn "comprehension.variables-let-go" x cenv' : Sem Value) (fun _ _ => False) E { s' with heap := h' } := by cases use <;> exact hr
    obtain ⟨m, hn, hr⟩ := hr'
    exact wpC_of_any (wpAny_bind (wpAny_holding (wpAny_comp_letGo (cenv := { cenv with scope := relabel scope env }) hkind _ s' m hv hn fun h' m' _ hs' => wpAny_mono (hr h' hs' _ rfl) (fun _ _ f => f.elim) fun _ _ y => y)))
end
section
variable {prog : Program} {w : World} {A : Around} {E : Value → Shared → Prop} {R : Result → Shared → Prop} {s : Shared}
theorem codeC_compLoop_list {elt target iter : PySem.Expr} {scope : Scope} {pos : Pos} {it acc : Value} {env : Env} (I : Nat → Shared → Prop)
    (turn : ∀ n s, I n s → wpAny (model prog w) A (pyNext it) (fun r s₁ => match r with
      | none => R (.ok .next) s₁
      | some v => wpAny (model prog w) A (letOwnedTupleGo target it v) (fun _ s₁' => wpAny (model prog w) A (assign target env v) (fun _ s₂ =>
          wpC (model prog w) A (eval elt env) (fun x s₄ =>
              wpAny (model prog w) A (call (.builtin "list.append") [acc, x]) (fun _ s₅ => ∃ m, m < n ∧ I m s₅) noE s₄) noE s₂) noE s₁') noE s₁) noE s)
    (n : Nat) (h : I n s) : codeC (model prog w) A (.compLoop (.ListComp elt [⟨target, iter, [], 0⟩] scope pos) 0 it acc env) R s := by
  refine codeC_loop rfl I (fun n s hI => ?_) n h
  show wpC _ A ((compTurn (.ListComp elt [⟨target, iter, [], 0⟩] scope pos) 0 it acc env).onRaise (fun x => do noteFrame x env; theTreesLotGoes x)) _ _ s
  refine wpC_onRaise (wpC_mono (E := noE) ?_ (fun _ _ q => q) fun _ _ f => f.elim)
  rw [compTurn_list1]
  refine wpC_then (wpAny_standAt (wpC_then (wpAny_mono (turn n s hI) (fun r s₁ h₁ => ?_) fun _ _ h' => h')))
  cases r with
  | none => exact wpC_pure h₁
  | some v =>
    refine wpC_then (wpAny_mono h₁ (fun _ s₁' h₁' => ?_) fun _ _ h' => h')
    refine wpC_then (wpAny_mono h₁' (fun _ s₂ h₂ => ?_) fun _ _ h' => h')
    exact wpC_bind (wpC_bind (wpC_mono h₂ (fun x s₄ h₄ => wpC_then (wpAny_mono h₄ (fun _ s₅ h₅ => wpC_pure (wpC_pure ⟨rfl, h₅⟩)) fun _ _ h' => h')) fun _ _ h' => h'))
theorem codeC_compStart_list {elt target iter : PySem.Expr} {ifs : List PySem.Expr} {rest : List Comprehension} {scope : Scope} {pos : Pos} {it acc : Value} {env : Env}
    (h0 : codeC (model prog w) A (.compLoop (.ListComp elt (⟨target, iter, ifs, 0⟩ :: rest) scope pos) 0 it acc env) R s)
    (h : wpAny (model prog w) A (pyIter it) (fun it' s' => codeC (model prog w) A (.compLoop (.ListComp elt (⟨target, iter, ifs, 0⟩ :: rest) scope pos) 0 it' acc env) R s')
      noE s) :
    codeC (model prog w) A (.compStart (.ListComp elt (⟨target, iter, ifs, 0⟩ :: rest) scope pos) 0 it acc env) R s := by
  refine codeC_of_tree ?_
  show wpC _ _ ((compStart (.ListComp elt (⟨target, iter, ifs, 0⟩ :: rest) scope pos) 0 it acc env).onRaise (fun x => do noteFrame x env; standAt theWindowsPlace)) _ _ s
  refine wpC_onRaise (wpC_mono (E := noE) ?_ (fun _ _ q => q) fun _ _ f => f.elim)
  unfold compStart
  show wpC _ _ (ask >>= _) _ _ s
  refine wpC_then (wpAny_askSetting ?_)
  split
  · first
      | exact wpC_then (wpAny_pure (wpC_pure (And.intro rfl h0)))
      | exact wpC_pure (And.intro rfl h0)
  · first
      | exact wpC_then (wpAny_rule (wpC_then (wpAny_standAt (wpC_then (wpAny_mono h (fun it' s' h' => wpC_pure (And.intro rfl h')) fun _ _ x => x)))))
      | (refine wpC_then (wpAny_rule ?_); show wpC _ _ (standAt iter.pos >>= _) _ _ s; exact wpC_then (wpAny_standAt (wpC_then (wpAny_mono h (fun it' s' h' => wpC_pure (And.intro rfl h')) fun _ _ x => x))))
end
end Mine

open PySem PySem.W PyProof.Rows PySem.Calls
set_option Elab.async false
set_option linter.all false
set_option maxRecDepth 100000
namespace Mine
/-- the frames, but for their slots -/
noncomputable def SlotsIn (fs : List Env) (h h' : Heap) : Prop := ∀ b o, b ∈ frs fs → h.get? b = some o → ∃ sl, h'.get? b = some { o with slots := sl }
theorem FrOk.slots {O O' : Addr → Prop} {h h' : Heap} {fs : List Env} (K : FrOk O h fs) (hO : ∀ b, O b → O' b) (sl : SlotsIn fs h h') : FrOk O' h' fs := fun env he => by
  obtain ⟨hk, L, o, es, n, hL, hO', ho, hd⟩ := K env he
  obtain ⟨sl', e⟩ := sl L o (mem_frs.mpr ⟨env, he, hL⟩) ho
  exact ⟨hk, L, _, es, n, hL, hO _ hO', e, hd⟩
theorem SlotsIn.keep {h h' : Heap} {fs : List Env} (k : ∀ b o, b ∈ frs fs → h.get? b = some o → h'.get? b = some o) : SlotsIn fs h h' := fun b o hb e => ⟨o.slots, k b o hb e⟩
theorem SlotsIn.trans {h h' h'' : Heap} {fs : List Env} (x : SlotsIn fs h h') (y : SlotsIn fs h' h'') : SlotsIn fs h h'' := fun b o hb e => by
  obtain ⟨sl, e1⟩ := x b o hb e
  obtain ⟨sl2, e2⟩ := y b _ hb e1
  exact ⟨sl2, e2⟩
section
variable {Z : Zone} {A : Around} {env : Env} {O O' : Addr → Prop} {B : Addr → Obj → Prop} {own own' : List (Addr × List D)} {ρ ρ' : Rho} {s : Shared} {E : Value → Shared → Prop} {h' h₁ : Heap} {tk t₁ : Nat}
/-- the comprehension's walk, up to its end; its element may raise and catch -/
theorem comp_coreC {elt target iter : PySem.Expr} {scope : Scope} {pos : Pos} {cl : List (PySem.Str × Addr)} {N : Nat} {P : Nat → D} {use : Option (Value → Sem Unit)} {Q : Value → Shared → Prop} {newPos : Pos} (fs : List Env) (d : Nat → D) (ρ₀ : Rho) (ρa : Nat → Rho) (X : St Z env O B own ρ s)
    (K : FrOk O s.heap fs)
    (hi : It Z A env O B own ρ target iter N P) (hN : N ≤ sizeLine) (hclos : closureFor scope env = pure cl) (hcell : ∀ y ∈ scope.names, y.2 ≠ .cell) (hkind : scope.kind = .function) (hnames : ∀ y ∈ scope.names, y.2 = .local → scope.names.lookup y.1 = some .local)
    (h0 : ∀ C x d, get ρ₀ x = some d → (compEnvC scope cl C env).kindOf x ≠ some .local) (hcl : ∀ x c, cl.lookup x = some c → env.kindOf x ≠ some .local ∧ env.cells.lookup x = some c ∧ ∀ d, get ρ₀ x = some d → get ρ x = some d)
    (hsub : ∀ i, SubR (ρa i) ρ₀)
    (ha : ∀ i, i < N → ∀ C O' B' own', (∀ b, O b → O' b) → Asg Z A (compEnvC scope cl C env) O' B' own' ρ₀ (assign target (compEnvC scope cl C env)) (P i) (ρa i))
    (he : ∀ i, i < N → ∀ C O' B' own' (s' : Shared), (∀ b, O b → O' b) → FrOk O' s'.heap fs → (∀ b o, B' b o → b ∉ frs fs) → St Z (compEnvC scope cl C env) O' B' own' (ρa i) s' → ∀ Q : Value → Shared → Prop,
      (∀ v h' tk, GrowS Z O' (· ∈ frs fs) s'.heap h' → s'.toks ≤ tk → Rep O' h' tk (d i) v → Q v { s' with heap := h', toks := tk }) → wpC (model Z.prog Z.w) A (eval elt (compEnvC scope cl C env)) Q noE s')
    (fin : ∀ Dl C h' tk, GrowS Z O (· ∈ frs fs) s.heap h' → s.toks ≤ tk → s.heap.get? C = none → s.heap.get? Dl = none → C ≠ Dl → (∃ m, h'.Ns C m) → Tab Z (fun b => O b ∨ b = C) h' → Rep (fun b => O b ∨ b = C) h' tk (.lst ((List.range N).map d)) (.ref Dl) →
      compPost (model Z.prog Z.w) A E use Q (.ref Dl) C (.ok .next) { s with heap := h', toks := tk })
    (hs : ∀ x, foldedSetIterable iter env x = pure x := by intro _; rfl) :
    wpC (model Z.prog Z.w) A (comprehension (.ListComp elt [⟨target, iter, [], 0⟩] scope pos) scope env newPos (newList []) false (eval iter env) use) Q E s := by
  have hFt : ∀ b ∈ frs fs, ¬ isTab Z b := fun b hb => K.notTab X.tabs hb
  refine wpC_comprehension_free rfl hs hclos hkind hnames (hi.run s X _ _ fun I fp wr S h₁ t₁ O' T' g le tt hS0 hO hwr hfp => ?_)
  refine wpAny_newObj_type (wpAny_newFunctionEnv hcell (by intro y hy; simp at hy) (fun h₂ hns hsb => ?_) hkind)
  dsimp only at hns hsb ⊢
  generalize hH2 : h₁.push { cls := .type "list", dict := none, data := .seq ([] : List Value).toArray } = H2 at hns hsb ⊢
  have hC : H2.objs.size = h₁.objs.size + 1 := by rw [← hH2, Heap.size_push]
  generalize hDl : h₁.objs.size = Dl at *
  generalize hCC : H2.objs.size = C at *
  have hDC : Dl ≠ C := by rw [hC]; exact Nat.ne_of_lt (Nat.lt_succ_self _)
  have hDf : h₁.get? Dl = none := by rw [← hDl]; exact get_size _
  have hCf : h₁.get? C = none := get_ge (by rw [hDl, hC]; exact Nat.le_succ _)
  have hCf2 : H2.get? C = none := by rw [← hCC]; exact get_size _
  have k1 : ∀ b o, h₁.get? b = some o → h₂.get? b = some o := fun b o e => hsb.extBut b o (get_ne e hCf) (Heap.get?_push_of_some _ (hH2 ▸ Heap.get?_push_of_some _ e))
  have hacc : h₂.PlainList Dl #[] := ⟨0, hsb.extBut _ _ hDC (Heap.get?_push_of_some _ (hH2 ▸ hDl ▸ Heap.get?_push_size _ rfl))⟩
  let O2 : Addr → Prop := fun b => O' b ∨ b = Dl ∨ b = C
  let Bc : Addr → Obj → Prop := fun b o => h₁.get? b = some o ∧ ¬ isTab Z b ∧ ¬ wr b ∧ b ∉ frs fs
  let cenv := compEnvC scope cl C env
  let ys : Nat → List D := fun i => (List.range i).map d
  have hO2 : ∀ b, O b → O2 b := fun b q => .inl ((hO b).mpr (.inl q))
  have oldW : ∀ b o, s.heap.get? b = some o → ¬ wr b := fun b o e q => by rw [(hwr b q).1] at e; cases e
  have oldS : ∀ b o, s.heap.get? b = some o → b ≠ Dl ∧ b ≠ C := fun b o e => by
    obtain ⟨o', e'⟩ := g.2.1 b o e
    exact ⟨get_ne e' hDf, get_ne e' hCf⟩
  have old : ∀ b o, s.heap.get? b = some o → O2 b → O b := fun b o e q => by
    rcases q with q | q | q
    · exact ((hO b).mp q).elim id fun z => absurd z (oldW b o e)
    · exact absurd q (oldS b o e).1
    · exact absurd q (oldS b o e).2
  -- the frames' addresses are old ones
  have Fold : ∀ b, b ∈ frs fs → ∃ o, s.heap.get? b = some o := fun b hb => by
    obtain ⟨_, o, _, _, e, _⟩ := K.dict hb
    exact ⟨o, e⟩
  have FO : ∀ b, b ∈ frs fs → O b := fun b hb => (K.dict hb).1
  have Fwr : ∀ b, b ∈ frs fs → ¬ wr b := fun b hb => by obtain ⟨o, e⟩ := Fold b hb; exact oldW b o e
  have FD : ∀ b, b ∈ frs fs → b ≠ Dl ∧ b ≠ C := fun b hb => by obtain ⟨o, e⟩ := Fold b hb; exact oldS b o e
  have sl1 : SlotsIn fs s.heap h₁ := SlotsIn.keep fun b o hb e => g.1 b o (hFt b hb) e
  have wrT : ∀ b, wr b → O2 b ∧ ¬ isTab Z b := fun b q => ⟨.inl ((hO b).mpr (.inr q)), fun z => by
    obtain ⟨o, e⟩ := X.Oex b (X.tabs.isO z)
    exact oldW b o e q⟩
  have wrB : ∀ b, wr b → ∀ o, ¬ Bc b o := fun b q o e => e.2.2.1 q
  have wrne : ∀ b, wr b → b ≠ Dl ∧ b ≠ C := fun b q => by
    obtain ⟨o, e⟩ := (hwr b q).2
    exact ⟨get_ne e hDf, get_ne e hCf⟩
  have tab2 : Tab Z O2 h₂ := Tab.fresh tt k1 (fun b q => q.imp id fun z => z.elim (fun z => z ▸ hDf) fun z => z ▸ hCf) (fun b q => .inl q)
  have g2 : Grow Z O2 s.heap h₂ := ⟨fun b o n e => k1 b o (g.1 b o n e), fun b o e => by obtain ⟨o', e'⟩ := g.2.1 b o e; exact ⟨o', k1 b o' e'⟩, tab2⟩
  have hne : ∀ x c, cl.lookup x = some c → env.kindOf x ≠ some .local ∧ env.cells.lookup x = some c := fun x c h => ⟨(hcl x c h).1, (hcl x c h).2.1⟩
  have hzB : ∀ b o, Z.H.get? b = some o → Bc b o := fun b o e => by
    have e1 := X.wd.zone b o e
    exact ⟨g.1 b o (fun q => X.OH b o (X.tabs.isO q) e) e1, fun q => X.OH b o (X.tabs.isO q) e, oldW b o e1, fun q => X.OH b o (FO b q) e⟩
  have X₀ : St Z cenv O2 Bc [(Dl, ys 0)] ρ₀ { s with heap := h₂, toks := t₁ } := {
    base := fun b o e => k1 b o e.1
    zone := hzB
    OH := fun b o q e => by
      have e1 := X.wd.zone b o e
      exact X.OH b o (old b o e1 q) e
    tabB := fun b o q e => e.2.1 q
    LB := fun o e => by have := e.1; rw [show cenv.locals = C from rfl, hCf] at this; cases this
    ownB := fun q hq o e => by
      simp only [List.mem_cons, List.not_mem_nil, or_false] at hq
      subst hq
      have := e.1; rw [hDf] at this; cases this
    ownD := by simp
    Oex := fun b q => by
      rcases q with q | q | q
      · rcases (hO b).mp q with q | q
        · obtain ⟨o, e⟩ := X.Oex b q
          exact g2.2.1 b o e
        · obtain ⟨o, e⟩ := (hwr b q).2; exact ⟨o, k1 b o e⟩
      · obtain ⟨n, e⟩ := hacc; exact ⟨_, q ▸ e⟩
      · obtain ⟨o, _, _, e, _⟩ := hns; exact ⟨o, q ▸ e⟩
    tabs := tab2
    pos := Nat.lt_of_lt_of_le X.pos le
    OL := .inr (.inr rfl)
    loc := ⟨_, hns, fun x d hk hg => (h0 C x d hg hk).elim⟩
    cel := fun x c hx hc => by
      obtain ⟨hk, hl, hg⟩ := hcl x c hc
      obtain ⟨ov, hv, rr⟩ := X.cel x c hk hl
      have hnt := Cell.notTab X.tabs hv
      obtain ⟨o, ho, hd⟩ := hv
      exact ⟨ov, ⟨o, g2.1 _ o hnt ho, hd⟩, fun d hg' => by
        obtain ⟨v, e, q⟩ := rr d (hg d hg')
        exact ⟨v, e, (q.more old).grow g2 le⟩⟩
    ownd := fun q hq => by
      simp only [List.mem_cons, List.not_mem_nil, or_false] at hq
      subst hq
      exact ⟨.inr (.inl rfl), [], hacc, by simp [ys, Reps]⟩ }
  have T := T' O2 (fun b q => .inl q) (fun b q => q.imp id fun z => z.elim (fun z => z ▸ hDf) fun z => z ▸ hCf)
  have hB0 : ∀ b o, ¬ O2 b → h₁.get? b = some o → Bc b o := fun b o n e => ⟨e, fun q => n (.inl (tt.isO q)), fun q => n (.inl ((hO b).mpr (.inr q))), fun q => n (hO2 b (FO b q))⟩
  have loop : codeC (model Z.prog Z.w) A (.compLoop (.ListComp elt [⟨target, iter, [], 0⟩] scope pos) 0 I (.ref Dl) cenv) (compPost (model Z.prog Z.w) A E use Q (.ref Dl) C) { s with heap := h₂, toks := t₁ } := by
    refine codeC_compLoop_list (fun n s' => ∃ h' tk, s' = { s with heap := h', toks := tk } ∧ ∃ i, i ≤ N ∧ n = N - i ∧ t₁ ≤ tk ∧ S i h' ∧ SlotsIn fs h₁ h' ∧ St Z cenv O2 Bc [(Dl, ys i)] ρ₀ s') ?_ N ⟨h₂, t₁, rfl, 0, Nat.zero_le _, rfl, Nat.le_refl _, T.frame _ _ _ hS0 fun b _ o e => k1 b o e, SlotsIn.keep fun b o _ e => k1 b o e, X₀⟩
    rintro n _ ⟨h', tk, rfl, i, hi', rfl, htk, hS, hsl, X'⟩
    by_cases hlt : i < N
    · have hold : ∀ b o, ¬ O2 b → h₁.get? b = some o → h'.get? b = some o := fun b o n e => X'.base b o (hB0 b o n e)
      refine T.item i _ _ _ _ hlt hS hold X'.Oex htk (fun v s' h => h) fun v h₂ t₂ hS₂ k₂ le₂ r₂ => ?_
      have hsl₂ : SlotsIn fs h₁ h₂ := hsl.trans (SlotsIn.keep fun b o hb e => k₂ b o (Fwr b hb) e)
      have X₃ : St Z cenv O2 Bc [(Dl, ys i)] ρ₀ { s with heap := h₂, toks := t₂ } := X'.wrd k₂ wrT wrB (fun q => (wrne _ q).2 rfl) (fun x c hx hc q => by
        obtain ⟨hk, hl, _⟩ := hcl x c hc
        obtain ⟨ov, ⟨o, e, _⟩, _⟩ := X.cel x c hk hl
        exact oldW _ o e q) (fun q hq w => by
        simp only [List.mem_cons, List.not_mem_nil, or_false] at hq
        subst hq; exact (wrne _ w).1 rfl) le₂ (fun b h => h) (fun q hq => hO2 _ (X.tabs q hq).1) X'.OL (fun p hp => (X'.ownd p hp).1) (fun b _ q => T.ex _ _ hS₂ b q)
      let Bi : Addr → Obj → Prop := fun b o => Bc b o ∨ (wr b ∧ h₂.get? b = some o)
      let Bf : Addr → Obj → Prop := fun b o => Bi b o ∨ (b ∈ frs fs ∧ h₂.get? b = some o)
      have X₄ : St Z cenv O2 Bi [(Dl, ys i)] ρ₀ { s with heap := h₂, toks := t₂ } := X₃.setB (fun b o e => .inl e) (fun b o e => e.elim (X₃.base b o) fun z => z.2) (fun b o q e => e.elim (X₃.tabB b o q) fun z => (wrT b z.1).2 q) (fun o e => e.elim (X₃.LB o) fun z => (wrne _ z.1).2 rfl) (fun q hq o e => e.elim (X₃.ownB q hq o) fun z => by
        simp only [List.mem_cons, List.not_mem_nil, or_false] at hq
        subst hq; exact (wrne _ z.1).1 rfl)
      have X₄' : St Z cenv O2 Bf [(Dl, ys i)] ρ₀ { s with heap := h₂, toks := t₂ } := X₄.setB (fun b o e => .inl e) (fun b o e => e.elim (X₄.base b o) fun z => z.2) (fun b o q e => e.elim (X₄.tabB b o q) fun z => hFt b z.1 q) (fun o e => e.elim (X₄.LB o) fun z => (FD _ z.1).2 rfl) (fun q hq o e => e.elim (X₄.ownB q hq o) fun z => by
        simp only [List.mem_cons, List.not_mem_nil, or_false] at hq
        subst hq; exact (FD _ z.1).1 rfl)
      have BiF : ∀ b o, Bi b o → b ∉ frs fs := fun b o e hb => e.elim (fun z => z.2.2.2 hb) fun z => Fwr b hb z.1
      have back : ∀ (h₄ : Heap) (t₄ : Nat), t₁ ≤ t₄ → SlotsIn fs h₁ h₄ → St Z cenv O2 Bi [(Dl, ys (i + 1))] (ρa i) { s with heap := h₄, toks := t₄ } → ∃ m, m < N - i ∧ ∃ h' tk, ({ s with heap := h₄, toks := t₄ } : Shared) = { s with heap := h', toks := tk } ∧ ∃ i, i ≤ N ∧ m = N - i ∧ t₁ ≤ tk ∧ S i h' ∧ SlotsIn fs h₁ h' ∧ St Z cenv O2 Bc [(Dl, ys i)] ρ₀ { s with heap := h₄, toks := t₄ } := fun h₄ t₄ le₄ hsl₄ X₆ => by
        refine ⟨N - (i + 1), by omega, h₄, t₄, rfl, i + 1, hlt, rfl, le₄, ?_, hsl₄, (X₆.lessB (fun b o e => .inl e) hzB).sub (hsub i)⟩
        refine T.frame _ _ _ hS₂ fun b hb' o e => ?_
        rcases hfp b hb' with q | ⟨q, o', e'⟩
        · exact X₆.base b o (.inr ⟨q, e⟩)
        · have hbc : Bc b o' := ⟨e', fun z => q (tt.isO z), fun z => q ((hO b).mpr (.inr z)), fun z => q ((hO b).mpr (.inl (FO b z)))⟩
          have := X₃.base b o' hbc
          obtain rfl : o' = o := Option.some.inj (this.symm.trans e)
          exact X₆.base b o' (.inl hbc)
      refine wpAny_with_toks (n := t₁) (Nat.le_trans htk le₂) ((ha i hlt C O2 Bf _ hO2).run _ v X₄' r₂ _ _ fun h₃ t₃ k₃ X₅' => fun le₃ => ?_)
      have hsl₃ : SlotsIn fs h₁ h₃ := hsl₂.trans (SlotsIn.keep fun b o hb e => X₅'.base b o (.inr ⟨hb, e⟩))
      have X₅ : St Z cenv O2 Bi [(Dl, ys i)] (ρa i) { s with heap := h₃, toks := t₃ } := X₅'.lessB (fun b o e => .inl e) (fun b o e => .inl (hzB b o e))
      have K₃ : FrOk O2 h₃ fs := K.slots hO2 (sl1.trans hsl₃)
      refine he i hlt C O2 Bi _ _ hO2 K₃ BiF X₅ _ fun x h₅ t₅ g₅ le₅ r₅ => ?_
      have X₇ : St Z cenv O2 Bi [(Dl, ys i)] (ρa i) { s with heap := h₅, toks := t₅ } := X₅.growS g₅ (fun b hb => ⟨hO2 b (FO b hb), fun o e => BiF b o e hb, (K₃.dict hb).2⟩) le₅
      have hsl₅ : SlotsIn fs h₁ h₅ := hsl₃.trans fun b o hb e => g₅.slots b o hb e
      obtain ⟨_, vs2, hl2, rs2⟩ := X₇.ownd (Dl, ys i) (.head _)
      have hlen : vs2.length = (ys i).length := rs2.length
      refine wpAny_list_append_plain hl2 (fun h₆ hl₆ hs₆ => ?_) (by
        have : (ys i).length = i := by simp [ys]
        simp; omega)
      have X₈ := X₇.own_upd (own₁ := []) (own₂ := []) (ds' := ys i ++ [d i]) (tk := t₅) (vs' := vs2 ++ [x]) hs₆ (Nat.le_refl _) (by simpa using hl₆) (Reps.append rs2 (by simp only [Reps]; exact ⟨x, [], rfl, r₅, rfl⟩))
      have e : ys i ++ [d i] = ys (i + 1) := by simp [ys, List.range_succ]
      rw [e] at X₈
      exact back h₆ t₅ (Nat.le_trans le₃ le₅) (hsl₅.trans (SlotsIn.keep fun b o hb e => hs₆.extBut b o (FD b hb).1 e)) X₈
    · obtain rfl : i = N := by omega
      refine T.done _ _ _ hS fun h₃ t₃ k₃ le₃ => ?_
      have hsl₃ : SlotsIn fs s.heap h₃ := sl1.trans (hsl.trans (SlotsIn.keep fun b o hb e => k₃ b o (Fwr b hb) e))
      have X₃ : St Z cenv (fun b => (O b ∨ b = C) ∨ b = Dl) Bc [(Dl, ys i)] ρ₀ { s with heap := h₃, toks := t₃ } := X'.wrd k₃ wrT wrB (fun q => (wrne _ q).2 rfl) (fun x c hx hc q => by
        obtain ⟨hk, hl, _⟩ := hcl x c hc
        obtain ⟨ov, ⟨o, e, _⟩, _⟩ := X.cel x c hk hl
        exact oldW _ o e q) (fun q hq w => by
        simp only [List.mem_cons, List.not_mem_nil, or_false] at hq
        subst hq; exact (wrne _ w).1 rfl) le₃ (fun b h => h.elim (fun h => h.elim (hO2 b) fun z => .inr (.inr z)) fun z => .inr (.inl z)) (fun q hq => .inl (.inl (X.tabs q hq).1)) (.inl (.inr rfl)) (fun q hq => by
        simp only [List.mem_cons, List.not_mem_nil, or_false] at hq
        subst hq; exact .inr rfl) (fun b q q' => by
        rcases q with (q | q) | q
        · obtain ⟨o, e⟩ := X.Oex b q
          exact absurd q' (oldW b o e)
        · exact absurd q (wrne _ q').2
        · exact absurd q (wrne _ q').1)
      have nD : ¬ (O Dl ∨ Dl = C) := fun q => q.elim (fun q => by
        obtain ⟨o, e⟩ := X.Oex _ q
        exact (oldS _ o e).1 rfl) hDC
      obtain ⟨X₄, r₄⟩ := X₃.drop (own := []) (O := fun b => O b ∨ b = C) (fun b => Iff.rfl) nD (.inr rfl) (fun p hp => nomatch hp) (fun q hq => .inl (X.tabs q hq).1)
      have old2 : ∀ b o, ¬ isTab Z b → b ∉ frs fs → s.heap.get? b = some o → h₃.get? b = some o := fun b o n nf e => X₄.base b o ⟨g.1 b o n e, n, oldW b o e, nf⟩
      have nC : ∀ o, s.heap.get? C ≠ some o := fun o e => (oldS _ o e).2 rfl
      refine fin Dl C h₃ t₃ ⟨old2, fun b o hb e => hsl₃ b o hb e, X₄.tabs.drop (fun b q => .inl q) (fun q hq => (X.tabs q hq).1)⟩ (Nat.le_trans le (Nat.le_trans htk le₃)) ?_ ?_ hDC.symm (let ⟨m, hm, _⟩ := X₄.loc; ⟨m, hm⟩) X₄.tabs r₄
      · cases e : s.heap.get? C with
        | none => rfl
        | some o => exact absurd e (nC o)
      · cases e : s.heap.get? Dl with
        | none => rfl
        | some o => exact absurd rfl (oldS _ o e).1
  exact codeC_compStart_list loop (T.self 0 _ _ _ (T.frame _ _ _ hS0 fun b _ o e => k1 b o e) loop)
end
end Mine

open PySem PySem.W PyProof.Rows PySem.Calls
set_option Elab.async false
set_option linter.all false
set_option maxRecDepth 100000
namespace Mine
section
variable {Z : Zone} {A : Around} {env : Env} {O O' : Addr → Prop} {B : Addr → Obj → Prop} {own own' : List (Addr × List D)} {ρ ρ' : Rho} {s : Shared} {E : Value → Shared → Prop} {h' h₁ : Heap} {tk t₁ : Nat} {F : Addr → Prop}
theorem GrowS.ex {h : Heap} (g : GrowS Z O F h h') (b : Addr) (o : Obj) (e : h.get? b = some o) : ∃ o', h'.get? b = some o' := by
  by_cases ht : isTab Z b
  · obtain ⟨q, hq, rfl⟩ := ht
    obtain ⟨_, ps, g, _⟩ := g.tab q hq
    exact ⟨_, g⟩
  · by_cases hf : F b
    · obtain ⟨sl, e⟩ := g.slots b o hf e; exact ⟨_, e⟩
    · exact ⟨o, g.keep b o ht hf e⟩
theorem Rep.more' {h : Heap} {T : Nat} {d : D} {v : Value} (r : Rep O h T d v) (hN : ∀ b o, h.get? b = some o → O' b → O b) : Rep O' h T d v := r.more hN
/-- more addresses to keep away from, new since; the frames may have changed their slots -/
theorem St.moreS (X : St Z env O B own ρ s) (g : GrowS Z O F s.heap h') (hF : ∀ b, F b → O b ∧ (∀ o, ¬ B b o) ∧ ∃ o es n, s.heap.get? b = some o ∧ o.data = .dict es n) (t : Tab Z O' h') (le : s.toks ≤ tk) (hN : ∀ b, O' b → O b ∨ (s.heap.get? b = none ∧ ∃ o, h'.get? b = some o)) (hk : ∀ b, O b → O' b) : St Z env O' B own ρ { s with heap := h', toks := tk } := by
  have old : ∀ b o, s.heap.get? b = some o → O' b → O b := fun b o e q => (hN b q).elim id fun z => by rw [z.1] at e; cases e
  have g' : GrowS Z O' F s.heap h' := ⟨g.keep, g.slots, t⟩
  have hFO : ∀ b, F b → O' b := fun b q => hk b (hF b q).1
  have X₁ := X.growS g hF le
  exact {
    base := X₁.base
    zone := X.zone
    OH := fun b o hb e => X.OH b o (old b o (X.base b o (X.zone b o e)) hb) e
    tabB := X.tabB
    LB := X.LB
    ownB := X.ownB
    ownD := X.ownD
    Oex := fun b hb => (hN b hb).elim (X₁.Oex b) fun z => z.2
    tabs := t
    pos := Nat.lt_of_lt_of_le X.pos le
    OL := hk _ X.OL
    loc := by
      obtain ⟨m, hm, rr⟩ := X.loc
      refine ⟨m, g.ns hm (Ns.notTab X.tabs hm), fun x d hk' hg => ?_⟩
      obtain ⟨v, e, p⟩ := rr x d hk' hg
      exact ⟨v, e, g'.rep hFO le (p.more old)⟩
    cel := fun x c hx hc => by
      obtain ⟨ov, hv, rr⟩ := X.cel x c hx hc
      have hnt := Cell.notTab X.tabs hv
      obtain ⟨o, ho, hd⟩ := hv
      refine ⟨ov, ⟨o, g.keep _ o hnt (fun q => ?_) ho, hd⟩, fun d hg => by obtain ⟨v, e, p⟩ := rr d hg; exact ⟨v, e, g'.rep hFO le (p.more old)⟩⟩
      obtain ⟨_, _, o', es, n, e', hd'⟩ := hF c q
      rw [ho] at e'; cases e'; rw [hd] at hd'; cases hd'
    ownd := fun p hp => by
      obtain ⟨ho, vs', hl', rr⟩ := X.ownd p hp
      have hnt := Plain.notTab X.tabs hl'
      obtain ⟨n, e⟩ := hl'
      refine ⟨hk _ ho, vs', ⟨n, g.keep _ _ hnt (fun q => ?_) e⟩, g'.reps hFO le (rr.more old)⟩
      obtain ⟨_, _, o', es, n', e', hd'⟩ := hF p.1 q
      rw [e] at e'; cases e'; cases hd' }
theorem x_compC {elt target iter : PySem.Expr} {scope : Scope} {pos spos py : Pos} {y : PySem.Str} {cl : List (PySem.Str × Addr)} {N : Nat} {P : Nat → D} {rest : List Stmt} {Q : Flow → Shared → Prop} {ρ₁ : Rho} (fs : List Env) (d : Nat → D) (ρ₀ : Rho) (ρa : Nat → Rho) (X : St Z env O B own ρ s)
    (K : FrOk O s.heap fs) (hFB : ∀ b ∈ frs fs, ∀ o, ¬ B b o)
    (hi : It Z A env O B own ρ target iter N P) (hN : N ≤ sizeLine) (hclos : closureFor scope env = pure cl) (hcell : ∀ y ∈ scope.names, y.2 ≠ .cell) (hkind : scope.kind = .function) (hnames : ∀ y ∈ scope.names, y.2 = .local → scope.names.lookup y.1 = some .local)
    (h0 : ∀ C x d, get ρ₀ x = some d → (compEnvC scope cl C env).kindOf x ≠ some .local) (hcl : ∀ x c, cl.lookup x = some c → env.kindOf x ≠ some .local ∧ env.cells.lookup x = some c ∧ ∀ d, get ρ₀ x = some d → get ρ x = some d)
    (hsub : ∀ i, SubR (ρa i) ρ₀)
    (ha : ∀ i, i < N → ∀ C O' B' own', (∀ b, O b → O' b) → Asg Z A (compEnvC scope cl C env) O' B' own' ρ₀ (assign target (compEnvC scope cl C env)) (P i) (ρa i))
    (he : ∀ i, i < N → ∀ C O' B' own' (s' : Shared), (∀ b, O b → O' b) → FrOk O' s'.heap fs → (∀ b o, B' b o → b ∉ frs fs) → St Z (compEnvC scope cl C env) O' B' own' (ρa i) s' → ∀ Q : Value → Shared → Prop,
      (∀ v h' tk, GrowS Z O' (· ∈ frs fs) s'.heap h' → s'.toks ≤ tk → Rep O' h' tk (d i) v → Q v { s' with heap := h', toks := tk }) → wpC (model Z.prog Z.w) A (eval elt (compEnvC scope cl C env)) Q noE s')
    (hasg : ∀ O' B', Asg Z A env O' B' own ρ (assign (.Name y py) env) (.lst ((List.range N).map d)) ρ₁)
    (k : ∀ h' tk, St Z env O B own ρ₁ { s with heap := h', toks := tk } → wpC (model Z.prog Z.w) A (execs rest env) Q E { s with heap := h', toks := tk })
    (hs : ∀ x, foldedSetIterable iter env x = pure x := by intro _; rfl)
    (hsw : swapsWith (.ListComp elt [⟨target, iter, [], 0⟩] scope pos) (some (.Name y py)) spos.line env = pure true := by rfl) :
    wpC (model Z.prog Z.w) A (execs (.Assign [.Name y py] (.ListComp elt [⟨target, iter, [], 0⟩] scope pos) spos :: rest) env) Q E s := by
  refine wpC_execs_cons ?_
  rw [exec_Assign_Name_used _ _ _ _ hsw]
  refine wpC_then (wpAny_standAt (wpC_bind ?_))
  show wpC _ A (do let _ ← comprehension (.ListComp elt [⟨target, iter, [], 0⟩] scope pos) scope env _ (newList []) false (eval iter env) (some (assign (.Name y py) env))) _ _ s
  have hF : ∀ b, b ∈ frs fs → O b ∧ (∀ o, ¬ B b o) ∧ ∃ o es n, s.heap.get? b = some o ∧ o.data = .dict es n := fun b hb => ⟨(K.dict hb).1, hFB b hb, (K.dict hb).2⟩
  refine wpC_bind (comp_coreC (use := some (assign (.Name y py) env)) fs d ρ₀ ρa X K hi hN hclos hcell hkind hnames h0 hcl hsub ha he (fun Dl C h₁ t₁ g le nC nD hCD hn tt r => ?_) hs)
  obtain ⟨m, hm⟩ := hn
  have hnt : ¬ isTab Z C := fun z => by
    obtain ⟨o, e⟩ := X.Oex C (X.tabs.isO z)
    rw [nC] at e; cases e
  have nOC : ¬ O C := fun q => by
    obtain ⟨o, e⟩ := X.Oex C q
    rw [nC] at e; cases e
  obtain ⟨oC, esC, epC, eC, rC⟩ := hm
  have X₁ : St Z env (fun b => O b ∨ b = C) B own ρ { s with heap := h₁, toks := t₁ } := X.moreS g hF tt le (fun b q => q.imp id fun (z : b = C) => ⟨by rw [z]; exact nC, oC, by rw [z]; exact eC⟩) (fun b q => .inl q)
  have hBC : ∀ o, ¬ B C o := fun o e => by have := X.base C o e; rw [nC] at this; cases this
  have hCL : env.locals ≠ C := fun z => nOC (z ▸ X.OL)
  have hCown : ∀ p ∈ own, p.1 ≠ C := fun p hp z => nOC (z ▸ (X.ownd p hp).1)
  have X₂ : St Z env (fun b => O b ∨ b = C) (fun b o => B b o ∨ (b = C ∧ o = oC)) own ρ { s with heap := h₁, toks := t₁ } := X₁.setB (fun b o e => .inl e) (fun b o e => e.elim (X₁.base b o) fun z => by rw [z.1, z.2]; exact eC) (fun b o q e => e.elim (X₁.tabB b o q) fun z => hnt (z.1 ▸ q)) (fun o e => e.elim (X₁.LB o) fun z => hCL z.1) (fun p hp o e => e.elim (X₁.ownB p hp o) fun z => hCown p hp z.1)
  show wpAny _ A (assign (.Name y py) env (.ref Dl)) _ _ _
  refine (hasg _ _).run _ _ X₂ r _ _ fun h₂ t₂ k₂ X₃ => ?_
  refine ⟨m, ⟨oC, esC, epC, X₃.base C oC (.inr ⟨rfl, rfl⟩), rC⟩, fun h₃ hs₃ => wpC_pure (wpC_pure ?_)⟩
  have ke := hs₃.extBut
  have X₄ : St Z env (fun b => O b ∨ b = C) B own ρ₁ { s with heap := h₂, toks := t₂ } := X₃.lessB (fun b o e => .inl e) X.zone
  have X₅ : St Z env O B own ρ₁ { s with heap := h₃, toks := t₂ } := X₄.wrd (wr := fun b => b = C) (fun b o n e => ke b o n e) (fun b q => ⟨.inr q, q ▸ hnt⟩) (fun b q o e => hBC o (q ▸ e)) hCL (fun x c hx hc q => by
    obtain ⟨ov, ⟨o, e, _⟩, _⟩ := X.cel x c hx hc
    rw [q, nC] at e; cases e) hCown (Nat.le_refl _) (fun b q => .inl q) (fun q hq => (X.tabs q hq).1) X.OL (fun p hp => (X.ownd p hp).1) (fun b q q' => absurd (q' ▸ q) nOC)
  exact k h₃ t₂ X₅
end
end Mine

open PySem PySem.W PyProof.Rows PySem.Calls
set_option Elab.async false
set_option linter.all false
set_option maxRecDepth 100000
namespace Mine
open PySem.Builtin PySem.Builtin._codecs
noncomputable def asciiB (x : PySem.Str) : Array UInt8 := (x.cps.toList.map (·.toUInt8)).toArray
theorem foldl_bytes : ∀ (l : List Nat) (acc : Array UInt8), l.foldl (fun acc y => acc ++ [y.toUInt8].toArray) acc = acc ++ (l.map (·.toUInt8)).toArray
  | [], acc => by simp
  | c :: l, acc => by
    rw [List.foldl_cons, foldl_bytes l]
    apply Array.ext'
    simp
theorem nar_some {τ : Type} {P : Prop} [Decidable P] {o : Option Nat} {a : Nat} {b : Nat → Bool} {U D : τ} {Y Z : Nat → τ} (hP : ¬ P) (ho : o = some a) (hb : b a = false) :
    (if P then U else match (generalizing := false) o with | some x => if (!b x) = true then Y x else Z x | _ => D) = Y a := by
  subst ho; rw [if_neg hP]; simp [hb]
theorem nar_none {τ : Type} {P : Prop} [Decidable P] {o : Option Nat} {U D : τ} {Y : Nat → τ} (hP : ¬ P) (ho : o = none) :
    (if P then U else match (generalizing := false) o with | some x => Y x | _ => D) = D := by
  subst ho; rw [if_neg hP]
theorem narrow_is (id : String) (c : TextCodec) (self : Value) (x : PySem.Str) : ∃ F : Nat → Nat × Array UInt8 × Faults → Sem (ForInStep (Nat × Array UInt8 × Faults)),
    encodeNarrow id c none self x = (do let s ← forIn [0:x.length] ((0, #[], {}) : Nat × Array UInt8 × Faults) F; pure s.2.1) ∧
    ∀ i s, ¬ s.2.1.size > sizeLine → (∀ a, x.cps[s.1]? = some a → c.bad a = false → F i s = pure (.yield (s.1 + ((x.cps.extract s.1 x.cps.size).findIdx? c.bad).getD (x.cps.extract s.1 x.cps.size).size,
      ((x.cps.extract s.1 x.cps.size).extract 0 (((x.cps.extract s.1 x.cps.size).findIdx? c.bad).getD (x.cps.extract s.1 x.cps.size).size)).foldl (fun acc y => acc ++ (c.bytesOf y).toArray) s.2.1, s.2.2))) ∧
      (x.cps[s.1]? = none → F i s = pure (.done s)) := by
  refine ⟨_, rfl, fun i s hs => ⟨fun a ha hb => ?_, fun ha => ?_⟩⟩
  · exact nar_some hs ha hb
  · exact nar_none hs ha
theorem two_turns {σ : Type} {F : Nat → σ → Sem (ForInStep σ)} {a b : σ} (h1 : ∀ i, F i a = pure (.yield b)) (h2 : ∀ i, F i b = pure (.done b)) (n : Nat) : forIn [0:n + 1] a F = pure b := by
  rw [Std.Legacy.Range.forIn_eq_forIn_range', Std.Legacy.Range.size, show (n + 1 - 0 + 1 - 1) / 1 = n + 1 by simp, List.range'_succ, List.forIn_cons, h1, pure_bind]
  cases n with
  | zero => rfl
  | succ n => simp only [List.range'_succ, List.forIn_cons, h2, pure_bind]
theorem encode_ascii (id : String) (self : Value) (x : PySem.Str) (ha : ∀ c ∈ x.cps.toList, c < 128) (hl : x.length ≤ sizeLine) : encodeNarrow id asciiCodec none self x = pure (asciiB x) := by
  have hbad : ∀ c ∈ x.cps.toList, asciiCodec.bad c = false := fun c hc => decide_eq_false (Nat.not_le_of_lt (ha c hc))
  have hnone : x.cps.findIdx? asciiCodec.bad = none := Array.findIdx?_eq_none_iff.mpr fun c hc => hbad c (Array.mem_def.mp hc)
  have hout : x.cps.foldl (fun acc y => acc ++ (asciiCodec.bytesOf y).toArray) #[] = asciiB x := by
    rw [← Array.foldl_toList, show (fun (acc : Array UInt8) y => acc ++ (asciiCodec.bytesOf y).toArray) = (fun acc y => acc ++ [y.toUInt8].toArray) from rfl, foldl_bytes, Array.empty_append]
    rfl
  have hsz : (asciiB x).size = x.length := by unfold asciiB Str.length; rw [List.size_toArray, List.length_map, Array.length_toList]
  obtain ⟨F, e, f⟩ := narrow_is id asciiCodec self x
  rw [e]
  rcases hn : x.length with _ | n
  · have : asciiB x = #[] := by rw [← Array.size_eq_zero_iff, hsz, hn]
    rw [this, Std.Legacy.Range.forIn_eq_forIn_range']; rfl
  · have h0 : x.cps[0]? = some (x.cps[0]'(by show 0 < x.length; rw [hn]; exact Nat.succ_pos n)) := Array.getElem?_eq_getElem _
    have q := fun i => (f i (0, #[], {}) (Nat.not_lt_zero _)).1 _ h0 (hbad _ (Array.getElem_mem_toList _))
    have hex : x.cps.extract 0 x.cps.size = x.cps := Array.extract_size
    simp only [hex, hnone, hout, Option.getD_none, Nat.zero_add] at q
    rw [two_turns q (fun i => (f i _ (Nat.not_lt_of_le (by rw [hsz]; exact hl))).2 (Array.getElem?_eq_none (Nat.le_refl _)))]
    rfl
section
variable {Z : Zone} {A : Around} {env : Env} {O O' : Addr → Prop} {B : Addr → Obj → Prop} {own own' : List (Addr × List D)} {ρ ρ' : Rho} {s : Shared} {E : Value → Shared → Prop} {h' h₁ : Heap} {tk t₁ : Nat}
theorem encode_tree2 (x : PySem.Str) (t u : Tok) : Builtin.«str.encode» ⟨[.str x t, .str "ascii" u], []⟩ = (do ret (← encodeRoad "str.encode" (.str x t) x (Str.ofString "ascii") none)) := by kernel_rfl
theorem cp_encode {x : PySem.Str} {t u : Tok} (W : Wd Z O s) (ha : ∀ c ∈ x.cps.toList, c < 128) (hl : x.length ≤ sizeLine) : Cp Z A O (call (.builtin "str.encode") [.str x t, .str "ascii" u]) s (.bytes (asciiB x)) := fun Q E k => by
  refine wpAny_call_entry F.slot_str_encode (typeIs_str _ _ _) F.entry_str_encode ?_ (F.args_str_encode_2 _ _)
  have e : encodeRoad "str.encode" (.str x t) x (Str.ofString "ascii") none = (do mkBytes (← encodeNarrow "str.encode" asciiCodec none (.str x t) x)) := by
    first | rfl | (unfold encodeRoad; rfl) | (unfold encodeRoad; simp only []; rfl) | decide
  rw [encode_tree2, e, encode_ascii _ _ _ ha hl, pure_bind]
  refine wpAny_bind (wpAny_mkBytes ?_ ?_)
  · exact wpAny_pure ⟨_, rfl, k _ s.heap _ (Grow.refl W.tabs) (Nat.le_succ _) (by simp only [Rep]; exact ⟨_, rfl⟩)⟩
  · have : (asciiB x).size = x.length := by simp [asciiB, Str.length]
    omega
theorem ev_encode {o e : PySem.Expr} {apos pos : Pos} {pl : Sem Bool} {x : PySem.Str} (ho : Ev Z A env O B own ρ o (.str x)) (h1 : Ev Z A env O B own ρ e (.str "ascii")) (ha : ∀ c ∈ x.cps.toList, c < 128) (hl : x.length ≤ sizeLine)
    (he : eval (.Call (.Attribute o (Str.ofString "encode") apos) [e] [] pos) env = (do
      let ov ← eval o env
      standAt apos.atName
      let (f, first) ← holding [ov] (getMethod ov (Str.ofString "encode") pl)
      callWith pos f first (backTo pos (starEach [e] env)) []) := by rfl)
    (hs : starEach [e] env = (false, eval e env) :: starEach [] env := by rfl) : Ev Z A env O B own ρ (.Call (.Attribute o (Str.ofString "encode") apos) [e] [] pos) (.bytes (asciiB x)) :=
  ev_meth (id := "str.encode") ho (evs_cons h1 evs_nil hs) (fun s v W r Q E k => by
    obtain ⟨t, rfl⟩ := r.strs
    with_reducible exact GM.of (.str x t) (typeIs_str _ _ _) F.slot_str_encode F.type_str_encode GM.noRef k) (fun s v vs W r rs => by
    obtain ⟨t, rfl⟩ := r.strs
    simp only [Reps, Rep] at rs
    obtain ⟨_, _, rfl, ⟨u, rfl⟩, rfl⟩ := rs
    exact cp_encode W ha hl) he hs rfl
theorem op_neB {x y : Array UInt8} : Op2 Z A O (compareOp .NotEq) (.bytes x) (.bytes y) (.bool (x.toList != y.toList)) := .mk fun s v1 v2 W r1 r2 Q E k => by
  simp only [Rep] at r1 r2
  obtain ⟨t, rfl⟩ := r1
  obtain ⟨u, rfl⟩ := r2
  exact ne_bytes (k _ s.heap s.toks (Grow.refl W.tabs) (Nat.le_refl _) (by simp only [Rep]))
theorem op_inD {d : D} {ds : List D} (p1 : d.py = true) (p2 : D.pys ds = true) (hxs : PyData.canLayAll0 (toPys ds) = true) (hd : (toPy d).canLay0 = true) (hu : A.units + 1 + min (PyData.depthAll (toPys ds)) (toPy d).depth < cLine) : Op2 Z A O (compareOp .In) d (.lst ds) (.bool ((toPys ds).any fun y => PyData.eqv y (toPy d))) := .mk fun s v1 v2 W r1 r2 Q E k => by
  obtain ⟨as, q1⟩ := r1.reads d p1
  obtain ⟨bs, q2⟩ := r2.reads (.lst ds) (by simpa [D.py] using p2)
  exact PySem.SeqAt.in_list_reads (by simpa [toPy] using q2) q1 hxs hd hu (k _ s.heap s.toks (Grow.refl W.tabs) (Nat.le_refl _) (by simp only [Rep]))
theorem reps_ints {h : Heap} {T : Nat} : ∀ {ns : List Int} {vs : List Value}, Reps O h T (ns.map .int) vs → IntsAre vs ns
  | [], _, r => by simp only [List.map_nil, Reps] at r; subst r; exact .nil
  | n :: ns, _, r => by
    simp only [List.map_cons, Reps, Rep] at r
    obtain ⟨_, vs, rfl, ⟨t, rfl⟩, r2⟩ := r
    exact .cons n t (reps_ints r2)
theorem ints_reps {h : Heap} {T : Nat} : ∀ {ns : List Int} {vs : List Value}, IntsAre vs ns → Reps O h T (ns.map .int) vs
  | _, _, .nil => by simp [Reps]
  | _, _, .cons n t r => by simp only [List.map_cons, Reps, Rep]; exact ⟨_, _, rfl, ⟨t, rfl⟩, ints_reps r⟩
/-- sorted(a list of ints) -/
theorem ev_sorted {f e : PySem.Expr} {pos : Pos} {ns : List Int} (hf : Ev Z A env O B own ρ f (.val (.builtin "sorted"))) (h1 : Ev Z A env O B own ρ e (.lst (ns.map .int))) (h64 : ns.length < 64) {ms : List Int} (hm : ∀ l : List Int, l.Perm ns → l.Pairwise (· ≤ ·) → l = ms)
    (he : eval (.Call f [e] [] pos) env = (do callWith pos (← eval f env) [] (backTo pos (starEach [e] env)) (backToKw pos (keywordEach [] env))) := by rfl) (s1 : starEach [e] env = (false, eval e env) :: starEach [] env := by rfl) :
    Ev Z A env O B own ρ (.Call f [e] [] pos) (.lst (ms.map .int)) :=
  ev_call hf (evs_cons h1 evs_nil s1) (fun s vs W r Q E k => by
    simp only [Reps, Rep] at r
    obtain ⟨_, _, rfl, ⟨a, vs, rfl, no, ⟨o, e, hc, n, hd⟩, rs⟩, rfl⟩ := r
    have hI := reps_ints rs
    have hl : s.heap.IsList a vs.toArray := ⟨o, e, hc, n, hd⟩
    refine sorted_ints hl hI (by have := rs.length; simp at this; omega) fun out ns' a1 a2 a3 => ?_
    obtain rfl := hm ns' a2 a3
    obtain ⟨c, hat⟩ := sortedAll_at s.heap vs out
    refine k _ _ s.toks (Grow.of W.tabs fun _ _ => sortedAll_old) (Nat.le_refl _) ?_
    simp only [Rep]
    refine ⟨_, out.toList, rfl, W.new (get_ge (Nat.le_succ _)), ⟨_, hat, rfl, c, by simp [seqObj]⟩, ints_reps a1⟩) he s1 rfl
/-- max(a list of ints) -/
theorem ev_max {f e : PySem.Expr} {pos : Pos} {ns : List Int} {m : Int} (hA : A.handled = none) (hf : Ev Z A env O B own ρ f (.val (.builtin "max"))) (h1 : Ev Z A env O B own ρ e (.lst (ns.map .int))) (hne : 0 < ns.length) (hm : ∀ x ∈ ns, (∀ y ∈ ns, y ≤ x) → x = m)
    (he : eval (.Call f [e] [] pos) env = (do callWith pos (← eval f env) [] (backTo pos (starEach [e] env)) (backToKw pos (keywordEach [] env))) := by rfl) (s1 : starEach [e] env = (false, eval e env) :: starEach [] env := by rfl) :
    Ev Z A env O B own ρ (.Call f [e] [] pos) (.int m) :=
  ev_call hf (evs_cons h1 evs_nil s1) (fun s vs W r => Cp.of W fun Q E k => by
    simp only [Reps, Rep] at r
    obtain ⟨_, _, rfl, ⟨a, vs, rfl, no, ⟨o, e, hc, n, hd⟩, rs⟩, rfl⟩ := r
    obtain ⟨xs, hx, hn⟩ : ∃ xs : Array (Int × Tok), vs.toArray = intItems xs ∧ xs.toList.map (·.1) = ns := by
      have hI := reps_ints rs
      clear e hd h1 hm hne rs k
      induction hI with
      | nil => exact ⟨#[], by simp [intItems], rfl⟩
      | cons n t _ ih =>
        obtain ⟨xs, hx, hn⟩ := ih
        refine ⟨#[(n, t)] ++ xs, ?_, by simp [hn]⟩
        rw [List.toArray_cons, hx]
        apply Array.ext'
        simp [intItems]
    have hl : s.heap.IsList a (intItems xs) := ⟨o, e, hc, n, by rw [← hx]; exact hd⟩
    have hsz : xs.size = ns.length := by rw [← hn]; simp
    refine max_intList hA hl (by omega) fun v h' tk hv hk => ?_
    obtain ⟨t, rfl⟩ := intItems_at hv
    obtain ⟨h1, h2⟩ := argBest_gt (numAt xs) (xs.size - 1)
    have hat : ∀ j, j < xs.size → numAt xs j ∈ ns := fun j hj => by
      rw [← hn]
      simp only [numAt]
      rw [Array.getElem?_eq_getElem hj]
      simp only [Option.map_some, Option.getD_some, List.mem_map]
      exact ⟨xs[j], by simp, rfl⟩
    have := hm _ (hat (argBest (fun i j => decide (numAt xs i > numAt xs j)) (xs.size - 1)) (Nat.lt_of_le_of_lt h1 (Nat.sub_lt (hsz ▸ hne) Nat.one_pos))) fun y hy => by
      rw [← hn] at hy
      obtain ⟨p, hp, rfl⟩ := List.mem_map.mp hy
      obtain ⟨j, hj, e⟩ := List.getElem_of_mem hp
      simp only [Array.length_toList] at hj
      have h3 := h2 j (Nat.le_sub_one_of_lt hj)
      have : numAt xs j = p.1 := by
        simp only [numAt]
        rw [Array.getElem?_eq_getElem hj]
        simp only [Array.getElem_toList] at e
        simp [e]
      rw [this] at h3
      exact h3
    refine k _ h' tk hk fun _ => ?_
    rw [this]
    simp only [Rep]
    exact ⟨t, rfl⟩) he s1 rfl
end
end Mine

open PySem PySem.W PyProof.Rows PySem.Calls
set_option Elab.async false
set_option linter.all false
set_option maxRecDepth 100000
namespace Mine
section
variable {Z : Zone} {A : Around} {env : Env} {O O' : Addr → Prop} {B : Addr → Obj → Prop} {own own' : List (Addr × List D)} {ρ ρ' : Rho} {s : Shared} {E : Value → Shared → Prop} {h' h₁ : Heap} {tk t₁ : Nat}
/-- three lists made and named in one assignment -/
theorem x_own3z {e1 e2 e3 e4 : PySem.Expr} {ds1 ds2 ds3 : List D} {d4 : D} {x1 x2 x3 x4 : PySem.Str} {p1 p2 p3 p4 tp vp pos : Pos} {kk kv : Nat} {rest : List Stmt} {Q : Flow → Shared → Prop} (hA : A.handled = none) (X : St Z env O B own ρ s)
    (h1 : ∀ O' own', EvNew Z A env O' B own' ρ e1 ds1) (h2 : ∀ O' own', EvNew Z A env O' B own' ρ e2 ds2) (h3 : ∀ O' own', EvNew Z A env O' B own' ρ e3 ds3) (h4 : ∀ O' own', Ev Z A env O' B own' ρ e4 d4)
    (f1 : ds1.all D.flat = true) (f2 : ds2.all D.flat = true) (f3 : ds3.all D.flat = true)
    (k : ∀ a1 a2 a3 h' tk, (¬ O a1) → (¬ (O a2 ∨ a2 = a1)) → (¬ ((O a3 ∨ a3 = a1) ∨ a3 = a2)) → (∀ o, ¬ B a1 o) → (∀ o, ¬ B a2 o) → (∀ o, ¬ B a3 o) →
      St Z env (fun b => ((O b ∨ b = a1) ∨ b = a2) ∨ b = a3) B ((a3, ds3) :: (a2, ds2) :: (a1, ds1) :: own) ((x4, d4) :: (x3, .val (.ref a3)) :: (x2, .val (.ref a2)) :: (x1, .val (.ref a1)) :: ρ) { s with heap := h', toks := tk } → Xs Z A rest env Q E { s with heap := h', toks := tk })
    (hf : env.scope.kind = .function) (k1 : env.kindOf x1 = some .local) (k2 : env.kindOf x2 = some .local) (k3 : env.kindOf x3 = some .local) (k4 : env.kindOf x4 = some .local)
    (s1 : starEach [e1, e2, e3, e4] env = (false, eval e1 env) :: starEach [e2, e3, e4] env) (s2 : starEach [e2, e3, e4] env = (false, eval e2 env) :: starEach [e3, e4] env) (s3 : starEach [e3, e4] env = (false, eval e3 env) :: starEach [e4] env) (s4 : starEach [e4] env = (false, eval e4 env) :: starEach [] env)
    (hs : swapsWithSole [.Tuple [.Name x1 p1, .Name x2 p2, .Name x3 p3, .Name x4 p4] kk tp] (.Tuple [e1, e2, e3, e4] kv vp) pos.line env = pure false) (hw : swappedStores [.Tuple [.Name x1 p1, .Name x2 p2, .Name x3 p3, .Name x4 p4] kk tp] (.Tuple [e1, e2, e3, e4] kv vp) env = pure none) :
    Xs Z A (.Assign [.Tuple [.Name x1 p1, .Name x2 p2, .Name x3 p3, .Name x4 p4] kk tp] (.Tuple [e1, e2, e3, e4] kv vp) pos :: rest) env Q E s := by
  refine Xs.cons (PyProof.Rows.Assign_Tuple (wpAny_Tuple (wpAny_items_cons ((h1 O own).run s X _ _ fun a1 vs1 h₁ t₁ g₁ le₁ hn1 hl1 r₁ => ?_) s1)) hs hw)
  have X₁ := X.own_new g₁ le₁ hn1 hl1 f1 r₁
  refine wpAny_items_cons ((h2 _ _).run _ X₁ _ _ fun a2 vs2 h₂ t₂ g₂ le₂ hn2 hl2 r₂ => ?_) s2
  have X₂ := X₁.own_new g₂ le₂ hn2 hl2 f2 r₂
  refine wpAny_items_cons ((h3 _ _).run _ X₂ _ _ fun a3 vs3 h₃ t₃ g₃ le₃ hn3 hl3 r₃ => ?_) s3
  have X₃ := X₂.own_new g₃ le₃ hn3 hl3 f3 r₃
  refine wpAny_items_cons ((h4 _ _).run _ X₃ _ _ fun v4 h₄ t₄ g₄ le₄ r₄ => wpAny_items_nil ⟨by simp [sizeLine], ?_⟩) s4
  have X₄ := X₃.grow g₄ le₄
  have g₅ := Grow.push (Z := Z) (h := h₄) X₄.tabs { cls := .type "tuple", data := .seq [.ref a1, .ref a2, .ref a3, v4].toArray }
  have X₅ := X₄.grow g₅ (Nat.le_refl _)
  have r₅ : Rep (fun b => ((O b ∨ b = a1) ∨ b = a2) ∨ b = a3) (h₄.push { cls := .type "tuple", data := .seq [.ref a1, .ref a2, .ref a3, v4].toArray }) t₄ (.tup [.val (.ref a1), .val (.ref a2), .val (.ref a3), d4]) (.ref h₄.objs.size) := by
    simp only [Rep]
    refine ⟨_, [.ref a1, .ref a2, .ref a3, v4], rfl, X₄.wd.fresh, ⟨_, Heap.get?_push_size _ rfl, rfl, 0, rfl⟩, ?_⟩
    simp only [Reps, Rep]
    exact ⟨_, _, rfl, rfl, _, _, rfl, rfl, _, _, rfl, rfl, _, _, rfl, r₄.grow g₅ (Nat.le_refl _), rfl⟩
  have asg : Asg Z A env (fun b => ((O b ∨ b = a1) ∨ b = a2) ∨ b = a3) B ((a3, ds3) :: (a2, ds2) :: (a1, ds1) :: own) ρ (assign (.Tuple [.Name x1 p1, .Name x2 p2, .Name x3 p3, .Name x4 p4] kk tp) env) (.tup [.val (.ref a1), .val (.ref a2), .val (.ref a3), d4]) ((x4, d4) :: (x3, .val (.ref a3)) :: (x2, .val (.ref a2)) :: (x1, .val (.ref a1)) :: ρ) :=
    asg_tup hA (asgs_cons (asg_name hf k1) (asgs_cons (asg_name hf k2) (asgs_cons (asg_name hf k3) (asgs_cons (asg_name hf k4) asgs_nil))))
  refine asg.run _ _ X₅ r₅ _ _ fun h₆ t₆ _ X₆ => ?_
  exact k a1 a2 a3 h₆ t₆ (X.wd.new hn1) (X₁.wd.new hn2) (X₂.wd.new hn3) (fun o e => by rw [X.base _ o e] at hn1; cases hn1) (fun o e => by rw [X₁.base _ o e] at hn2; cases hn2) (fun o e => by rw [X₂.base _ o e] at hn3; cases hn3) X₆
theorem x_own3 {h₀ : Heap} {t₀ : Nat} {e1 e2 e3 e4 : PySem.Expr} {ds1 ds2 ds3 : List D} {d4 : D} {x1 x2 x3 x4 : PySem.Str} {p1 p2 p3 p4 tp vp pos : Pos} {kk kv : Nat} {rest : List Stmt} {Q : Flow → Shared → Prop} (hA : A.handled = none) (X : St Z env O B own ρ { s with heap := h₀, toks := t₀ })
    (h1 : ∀ O' own', EvNew Z A env O' B own' ρ e1 ds1) (h2 : ∀ O' own', EvNew Z A env O' B own' ρ e2 ds2) (h3 : ∀ O' own', EvNew Z A env O' B own' ρ e3 ds3) (h4 : ∀ O' own', Ev Z A env O' B own' ρ e4 d4)
    (f1 : ds1.all D.flat = true) (f2 : ds2.all D.flat = true) (f3 : ds3.all D.flat = true)
    (k : ∀ a1 a2 a3 h' tk, (¬ O a1) → (¬ (O a2 ∨ a2 = a1)) → (¬ ((O a3 ∨ a3 = a1) ∨ a3 = a2)) → (∀ o, ¬ B a1 o) → (∀ o, ¬ B a2 o) → (∀ o, ¬ B a3 o) →
      St Z env (fun b => ((O b ∨ b = a1) ∨ b = a2) ∨ b = a3) B ((a3, ds3) :: (a2, ds2) :: (a1, ds1) :: own) ((x4, d4) :: (x3, .val (.ref a3)) :: (x2, .val (.ref a2)) :: (x1, .val (.ref a1)) :: ρ) { s with heap := h', toks := tk } → Xs Z A rest env Q E { s with heap := h', toks := tk })
    (hf : env.scope.kind = .function := by rfl) (k1 : env.kindOf x1 = some .local := by rfl) (k2 : env.kindOf x2 = some .local := by rfl) (k3 : env.kindOf x3 = some .local := by rfl) (k4 : env.kindOf x4 = some .local := by rfl)
    (s1 : starEach [e1, e2, e3, e4] env = (false, eval e1 env) :: starEach [e2, e3, e4] env := by rfl) (s2 : starEach [e2, e3, e4] env = (false, eval e2 env) :: starEach [e3, e4] env := by rfl) (s3 : starEach [e3, e4] env = (false, eval e3 env) :: starEach [e4] env := by rfl) (s4 : starEach [e4] env = (false, eval e4 env) :: starEach [] env := by rfl)
    (hs : swapsWithSole [.Tuple [.Name x1 p1, .Name x2 p2, .Name x3 p3, .Name x4 p4] kk tp] (.Tuple [e1, e2, e3, e4] kv vp) pos.line env = pure false := by rfl) (hw : swappedStores [.Tuple [.Name x1 p1, .Name x2 p2, .Name x3 p3, .Name x4 p4] kk tp] (.Tuple [e1, e2, e3, e4] kv vp) env = pure none := by rfl) :
    Xs Z A (.Assign [.Tuple [.Name x1 p1, .Name x2 p2, .Name x3 p3, .Name x4 p4] kk tp] (.Tuple [e1, e2, e3, e4] kv vp) pos :: rest) env Q E { s with heap := h₀, toks := t₀ } := x_own3z hA X h1 h2 h3 h4 f1 f2 f3 k hf k1 k2 k3 k4 s1 s2 s3 s4 hs hw
end
end Mine

open PySem PySem.W PyProof.Rows PySem.Calls
set_option Elab.async false
set_option linter.all false
set_option maxRecDepth 100000
namespace Mine
section
variable {prog : Program} {w : World} {A : Around} {E : Value → Shared → Prop} {s : Shared} {R : Result → Shared → Prop}
theorem codeC_call_function {a : Addr} {args : Args} {o : Obj} {fd : FuncData} {body : List Stmt} (hroom : A.depth < recursionLimit)
    (ho : s.heap.get? a = some o)
    (hd' : o.data = .func fd) (hco : fd.scope.isCoroutine = false) (hgen : fd.scope.isGenerator = false) (hbody : fd.body = .stmts body) (hcd : s.heap.CodeRec fd.code fd.qualname)
    (h : wpAny (model prog w) A.in1 (bindArgs fd args) (fun binds s₁ =>
      wpAny (model prog w) A.in1 (newFunctionEnv fd.scope fd.globals fd.closure binds (fd.qualname ++ ".<locals>.") (some a) fd.code none fd.builtins)
        (fun env s₂ => s₂.heap.NoLimit ∧ codeC (model prog w) A (.func body env) R s₂) (fun e s' => R (.error e) s') s₁) (fun e s' => R (.error e) s') s) :
    codeC (model prog w) A (.call (.ref a) args) R s := by
  refine codeC_of_tree (wpC_of_any ?_)
  show wpAny _ A.in1 (callAny (.ref a) args) _ _ s
  simp only [callAny]
  refine wpAny_bind (wpAny_load ho ?_)
  obtain ⟨c, oc, vs, tq, hc, hoc, hdc, hq⟩ := hcd
  simp only [hd', callFunction, hco, hgen, hbody, hc]
  rw [hc] at h
  refine wpAny_bind (m := field (.ref c) 1) (wpAny_field hoc hdc hq (wpAny_bind (wpAny_pure ?_)))
  exact wpAny_bind (wpAny_mono h (fun binds s₁ h₁ => wpAny_bind (wpAny_mono h₁ (fun env s₂ h₂ => wpAny_bind (wpAny_enterFrame h₂.1 hroom
    (wpAny_pure (And.intro rfl h₂.2)))) fun _ _ h' => h')) fun _ _ h' => h')
end
section
variable {M : Model} {A : Around} {E : Value → Shared → Prop} {s : Shared}
/-- the making of a def's names with cells, of which the first is a local: a token is taken -/
theorem newFunctionEnv_toks {scope : Scope} {globals : Addr} {x : PySem.Str} {v : Value} {binds : List (PySem.Str × Value)} {qual : PySem.Str} {func : Option Addr} {code : Value} {builtins : Addr} {Q : Env → Shared → Prop}
    (hk : scope.kind = .function) (hx : scope.names.lookup x = some .local)
    (hkind : ∀ x ∈ binds, scope.names.lookup x.1 = some .local ∨ (scope.names.lookup x.1 = some .cell ∧ ((cellsFrom (s.heap.objs.size + 1) scope.names []).lookup x.1).isSome = true))
    (hQ : ∀ env, env = newEnv scope s.heap.objs.size globals (cellsFrom (s.heap.objs.size + 1) scope.names []) qual func code none builtins →
      ∀ s', s.toks < s'.toks → InCallC s env.locals (bindL env.kindOf ((x, v) :: binds) fun _ => none) env.cells (bindC env.kindOf ((x, v) :: binds) fun _ => none) s' → Q env s') :
    wpAny M A (newFunctionEnv scope globals [] ((x, v) :: binds) qual func code none builtins) Q E s := by
  simp only [newFunctionEnv, Option.isSome_none, Bool.false_eq_true, if_false]
  refine wpAny_bind (wpAny_alloc ?_)
  refine wpAny_bind (wpAny_layCells _ (fun name kind cells => by cases hkc : kind == NameKind.cell <;> simp [hkc]) _ _ _ _ ?_)
  have ok := cellsFrom_ok scope.names (s.heap.push { cls := .type "frame", data := .dict #[] }) (s.heap.objs.size + 1) [] ⟨fun _ _ hm => (nomatch hm), List.Pairwise.nil⟩ (by rw [Heap.size_push]; exact Nat.le_refl _)
  rw [Heap.size_push] at ok
  rw [show ({ s with heap := s.heap.push { cls := .type "frame", data := .dict #[] } } : Shared).heap.objs.size = s.heap.objs.size + 1 from Heap.size_push ..]
  have X₀ : InCallC s s.heap.objs.size (fun _ => none) (cellsFrom (s.heap.objs.size + 1) scope.names []) (fun _ => none) { s with heap := pushCells (s.heap.push { cls := .type "frame", data := .dict #[] }) scope.names } :=
    ⟨⟨⟨_, _, rfl⟩, (Heap.Ns.new s.heap (.type "frame")).keeps (pushCells_keeps _ _), fun b o e => pushCells_keeps _ _ b o (Heap.get?_push_of_some _ e), Nat.le_refl _⟩,
      fun n c hc => (ok.empty n c (mem_of_lookup hc)).1, ok.apart, fun n c hm => (ok.empty n c hm).2⟩
  refine wpAny_bind ?_
  rw [List.forIn_cons]
  have hl : (newEnv scope s.heap.objs.size globals (cellsFrom (s.heap.objs.size + 1) scope.names []) qual func code none builtins).kindOf x = some .local := hx
  refine wpAny_bind (wpAny_bind (wpAny_storeName_local hl X₀.toInCall.ns (fun h' hn' hs' => wpAny_pure ?_) (by show (scope.kind == .class || (scope.kind == .module && _)) = false; rw [hk]; rfl)))
  have X₁ : InCallC s s.heap.objs.size (fun y => if y = x then some v else none) (cellsFrom (s.heap.objs.size + 1) scope.names []) (fun _ => none) { s with heap := h', toks := s.toks + 1 } := by
    refine ⟨⟨⟨h', _, rfl⟩, hn', fun b o e => ?_, X₀.toInCall.fresh⟩, fun k c hc => ?_, X₀.apart, X₀.above⟩
    · exact hs'.extBut b o (Nat.ne_of_lt (Nat.lt_of_lt_of_le (Heap.lt_size e) X₀.toInCall.fresh)) (X₀.toInCall.keep b o e)
    · exact (X₀.cell k c hc).sameBut hs' (Nat.ne_of_gt (X₀.above k c (mem_of_lookup hc)))
  refine wpAny_with_toks (n := s.toks + 1) (Nat.le_refl _) (wpAny_bindParams (s₀ := s) (env := newEnv scope s.heap.objs.size globals (cellsFrom (s.heap.objs.size + 1) scope.names []) qual func code none builtins)
    _ (fun _ _ _ => rfl) hk binds _ _ _ _ X₁ hkind fun s' X' hle => wpAny_pure (hQ _ rfl s' hle ?_))
  unfold bindL bindC; rw [if_pos hl, if_pos hl]; exact X'
end
section
variable {Z : Zone} {A : Around} {O : Addr → Prop} {s : Shared} {h' : Heap}
/-- the world at law's door: as Wd, but with no word of the tokens -/
structure Wd0 (Z : Zone) (O : Addr → Prop) (s : Shared) : Prop where
  zone : ∀ b o, Z.H.get? b = some o → s.heap.get? b = some o
  OZ : ∀ b o, O b → Z.H.get? b ≠ some o
  Oex : ∀ b, O b → ∃ o, s.heap.get? b = some o
  tabs : Tab Z O s.heap
theorem Wd0.ns (W : Wd0 Z O s) {a : Addr} {m : PySem.Str → Option Value} (x : Z.H.Ns a m) : s.heap.Ns a m := Ns.at_ x fun o e => W.zone _ o e
/-- entering a def with cells, in the restricted calculus; it never raises -/
theorem fn_enterCC {f : Addr} {o : Obj} {fd : FuncData} {body : List Stmt} {v : Value} {x : PySem.Str} {d : D} {R : Result → Shared → Prop} (P : Value → Prop) (G : ZoneOk Z) (W : Wd0 Z O s) (hroom : A.depth < recursionLimit)
    (hf : s.heap.get? f = some o) (hd : o.data = .func fd) (hcd : s.heap.CodeRec fd.code fd.qualname) (hb : fd.body = .stmts body) (hbind : bindArgs fd ⟨[v], []⟩ = pure [(x, v)]) (hclo : fd.closure = [])
    (hx : fd.scope.names.lookup x = some .local)
    (hco : fd.scope.isCoroutine = false) (hgen : fd.scope.isGenerator = false) (hk : fd.scope.kind = .function)
    (r : Reps O s.heap s.toks [d] [v])
    (h : ∀ (L : Addr) (h₁ : Heap) (t₁ : Nat), s.heap.get? L = none → St Z (callEnvC fd L f) (OC O (callEnvC fd L f)) (Stood Z s.heap) [] [(x, d)] { s with heap := h₁, toks := t₁ } →
      (∀ x c, (callEnvC fd L f).cells.lookup x = some c → (∀ o, ¬ Stood Z s.heap c o) ∧ ∀ y, (callEnvC fd L f).cells.lookup y = some c → y = x) →
      ∀ (Q : Flow → Shared → Prop),
        (∀ v h' tk, (∀ b o, Stood Z s.heap b o → h'.get? b = some o) → Tab Z (OC O (callEnvC fd L f)) h' → P v → Q (.ret v) { s with heap := h', toks := tk }) →
        wpC (model Z.prog Z.w) (A.deeper (callEnvC fd L f)) (execs body (callEnvC fd L f)) Q noE { s with heap := h₁, toks := t₁ })
    (kk : ∀ v h' tk, (∀ b o, Stood Z s.heap b o → h'.get? b = some o) → (∀ q ∈ Z.tl, ∃ ps, h'.get? q.P = some (tabObj ps)) → P v → s.toks ≤ tk → R (.ok (.ret v)) { s with heap := h', toks := tk }) :
    codeC (model Z.prog Z.w) A (.call (.ref f) ⟨[v], []⟩) R s := by
  have hns : ([x] : List PySem.Str).Nodup := List.nodup_cons.mpr ⟨List.not_mem_nil, List.nodup_nil⟩
  have hlim : s.heap.NoLimit := by
    obtain ⟨mc, hn, e⟩ := G.nolimit
    exact ⟨mc, W.ns hn, e⟩
  refine codeC_with_toks (n := s.toks) (Nat.le_refl _) (codeC_call_function hroom hf hd hco hgen hb hcd ?_)
  rw [hbind, hclo]
  refine wpAny_pure (newFunctionEnv_toks hk hx (fun _ q => nomatch q) fun env he s₁ hlt X₁ => ?_)
  have hle := Nat.le_of_lt hlt
  subst he
  refine ⟨hlim.keeps X₁.toInCall.keep, codeC_func ?_⟩
  obtain ⟨h₁, t₁, rfl, hk₁⟩ := X₁.done
  have fresh : s.heap.get? s.heap.objs.size = none := get_size _
  have new : ∀ b o, s.heap.get? b = some o → b ≠ s.heap.objs.size := fun b o e q => by rw [q, fresh] at e; cases e
  have newC : ∀ b o, s.heap.get? b = some o → ∀ x, (callEnvC fd s.heap.objs.size f).cells.lookup x ≠ some b := fun b o e x q => by
    have l := X₁.above x b (mem_of_lookup q)
    have := Heap.lt_size e
    exact absurd (Nat.lt_trans this l) (Nat.lt_irrefl _)
  have hmore : ∀ b o, s.heap.get? b = some o → OC O (callEnvC fd s.heap.objs.size f) b → O b := fun b o e q => q.elim id fun z => z.elim (fun z => absurd z (new b o e)) fun ⟨x, z⟩ => absurd z (newC b o e x)
  have hgr : Grow Z (OC O (callEnvC fd s.heap.objs.size f)) s.heap h₁ := Grow.of (W.tabs.more hmore fun b q => .inl q) hk₁
  have X₀ : St Z (callEnvC fd s.heap.objs.size f) (OC O (callEnvC fd s.heap.objs.size f)) (Stood Z s.heap) [] [(x, d)] { s with heap := h₁, toks := t₁ } := {
    base := fun b o e => hk₁ b o e.1
    zone := fun b o e => ⟨W.zone b o e, fun q => W.OZ b o (W.tabs.isO q) e⟩
    OH := fun b o hb e => hb.elim (fun q => W.OZ b o q e) fun q => q.elim (fun q => new b o (W.zone b o e) q) fun ⟨x, q⟩ => newC b o (W.zone b o e) x q
    tabB := fun b o q e => e.2 q
    LB := fun o e => new _ o e.1 rfl
    ownB := fun p hp => nomatch hp
    ownD := List.nodup_nil
    Oex := fun b hb => by
      rcases hb with hb | rfl | ⟨x, hx⟩
      · obtain ⟨o, e⟩ := W.Oex b hb; exact ⟨o, hk₁ b o e⟩
      · obtain ⟨o, _, _, e, _⟩ := X₁.toInCall.ns; exact ⟨o, e⟩
      · obtain ⟨o, e, _⟩ := X₁.cell x b hx; exact ⟨o, e⟩
    tabs := hgr.2.2
    pos := Nat.lt_of_le_of_lt (Nat.zero_le _) hlt
    OL := .inr (.inl rfl)
    loc := ⟨_, X₁.toInCall.ns, fun x d' hx hg => by
      obtain ⟨v, e, r'⟩ := bindL_ok r hns x d' hx hg
      exact ⟨v, e, (r'.more hmore).grow hgr hle⟩⟩
    cel := fun x c hx hc => ⟨_, X₁.cell x c hc, fun d' hg => by
      obtain ⟨v, e, r'⟩ := bindC_ok r hns x d' hx hg
      exact ⟨v, e, (r'.more hmore).grow hgr hle⟩⟩
    ownd := fun p hp => nomatch hp }
  refine wpC_mono (h s.heap.objs.size h₁ t₁ fresh X₀ (fun x c hc => ⟨fun o e => newC c o e.1 x hc, fun y hy => name_of_addr X₁.apart (mem_of_lookup hy) (mem_of_lookup hc)⟩) (fun f s' => s.toks ≤ s'.toks → R (.ok (.ret (match f with | .ret v => v | _ => .none))) s') fun v h' tk hB hT hv => ?_) (fun f s' q => q) fun _ _ f => f.elim
  intro hle'
  exact kk v h' tk hB (fun q hq => by obtain ⟨_, ps, e, _⟩ := hT q hq; exact ⟨ps, e⟩) hv hle'
end
end Mine

open PySem PySem.W PyProof.Rows PySem.Calls
set_option Elab.async false
set_option linter.all false
set_option maxRecDepth 100000
namespace Mine
noncomputable def lawFd (P : Params) : Option FuncData := match (KK P).lookup 191 with
  | some o => (match o.data with
    | .func fd => some fd
    | _ => none)
  | none => none
noncomputable def lawBody (P : Params) : List Stmt := match lawFd P with
  | some fd => (match fd.body with
    | .stmts b => b
    | _ => [])
  | none => []
noncomputable def lawEnv (P : Params) (L : Addr) : Env := match lawFd P with
  | some fd => callEnvC fd L 191
  | none => ⟨⟨.function, [], false, false, []⟩, L, 0, [], "", none, .none, none, 0⟩
section
variable {Z : Zone} {A : Around} {O : Addr → Prop} {B : Addr → Obj → Prop} {s : Shared} {E : Value → Shared → Prop} {Q : Flow → Shared → Prop} {L : Addr}
/-- law's own cells -/
structure CellsOk (P : Params) (L : Addr) (O : Addr → Prop) (B : Addr → Obj → Prop) : Prop where
  all : ∀ x c, (lawEnv P L).cells.lookup x = some c → O c ∧ (∀ o, ¬ B c o) ∧ ∀ y, (lawEnv P L).cells.lookup y = some c → y = x
theorem CellsOk.asg {P : Params} (H : CellsOk P L O B) {own : List (Addr × List D)} {ρ : Rho} {x : PySem.Str} {c : Addr} {d : D} (hc : (lawEnv P L).cells.lookup x = some c) (hx : (lawEnv P L).kindOf x = some .cell := by rfl) : Asg Z A (lawEnv P L) O B own ρ (fun v => storeName (lawEnv P L) x v) d ((x, d) :: ρ) :=
  asg_storeC hc (H.all x c hc).1 (H.all x c hc).2.1 (H.all x c hc).2.2 rfl hx
theorem CellsOk.name {P : Params} (H : CellsOk P L O B) {own : List (Addr × List D)} {ρ : Rho} {x : PySem.Str} {p : Pos} {c : Addr} {d : D} (hc : (lawEnv P L).cells.lookup x = some c) (hx : (lawEnv P L).kindOf x = some .cell := by rfl) : Asg Z A (lawEnv P L) O B own ρ (assign (.Name x p) (lawEnv P L)) d ((x, d) :: ρ) :=
  asg_nameC hc (H.all x c hc).1 (H.all x c hc).2.1 (H.all x c hc).2.2 rfl hx
theorem lawOk (P : Params) (L : Addr) : EnvOk (lawEnv P L) := ⟨rfl, rfl, rfl⟩
theorem item_at {cs : List Int} {k : Nat} (h8 : cs.length = 8) (h : k < 8) : (cs.map D.int)[(Int.ofNat k).toNat]? = some (.int (cel cs k)) := by
  show (cs.map D.int)[k]? = _
  rw [List.getElem?_map, List.getElem?_eq_getElem (by omega)]
  unfold cel
  rw [List.getD_eq_getElem?_getD, List.getElem?_eq_getElem (by omega)]; rfl
theorem Ev.castI {env : Env} {own : List (Addr × List D)} {ρ : Rho} {e : PySem.Expr} {a b : Int} (h : Ev Z A env O B own ρ e (.int a)) (q : a = b) : Ev Z A env O B own ρ e (.int b) := q ▸ h
/-- the first statements of law: cells, and the fraction as it is drawn -/
theorem segA1 (G : ZT Z) {xs : List Int} (hx : xs.length ≤ sizeLine) (hA : A.handled = none) (hdep : A.depth + 20 < recursionLimit) (H : CellsOk Z.w.params L O B) (X : St Z (lawEnv Z.w.params L) O B [] [("script", .lst (xs.map .int))] s)
    (k : ∀ h' tk, St Z (lawEnv Z.w.params L) O B [] [("lower", .int (lo0 (lawCells xs))), ("upper", .int (up0 (lawCells xs))), ("cells", .lst ((lawCells xs).map .int))] { s with heap := h', toks := tk } → Q .next { s with heap := h', toks := tk }) :
    Xs Z A ((lawBody Z.w.params).take 2) (lawEnv Z.w.params L) Q E s := by
  have ok := lawOk Z.w.params L
  have h8 : (lawCells xs).length = 8 := cellsUp_len _ _
  refine x_assign X (ev_fn (G.K 160 _ rfl) rfl (fn_law_cells G.toZL hx) hA (dep hdep) (ev_g G.toZK ok rfl) (evs_cons (ev_local rfl) evs_nil)) (H.asg rfl) fun h₂ t₂ X₂ => ?_
  refine x_tup X₂ (ev_tup (evs_cons (ev_bin (ev_bin (ev_item (ev_cell rfl rfl) ev_int (by decide) (by decide) (item_at h8 (k := 0) (by decide))) ev_int (op_mod (by decide))) ev_int op_sub) (evs_cons (ev_bin (ev_bin (ev_bin (ev_item (ev_cell rfl rfl) ev_int (by decide) (by decide) (item_at h8 (k := 0) (by decide))) ev_int (op_div (by decide) (by decide))) ev_int (op_mod (by decide))) ev_int op_add) evs_nil)))
    (asg_tup hA (asgs_cons (H.name rfl) (asgs_cons (H.name rfl) asgs_nil))) fun h₃ t₃ X₃ => x_nil (k _ _ (X₃.sub ⟨rfl, rfl, rfl, trivial⟩))
end
end Mine

open PySem PySem.W PyProof.Rows PySem.Calls
set_option Elab.async false
set_option linter.all false
set_option maxRecDepth 100000
namespace Mine
noncomputable def shP (cs : List Int) (i : Nat) : Bool := (up0 cs).fmod (1 + (i : Int)) == 0 && (lo0 cs).fmod (1 + (i : Int)) == 0
noncomputable def shL (cs : List Int) : List Int := ((List.range (lo0 cs + 1 - 1).toNat).filter (shP cs)).map fun (i : Nat) => 1 + (i : Int)
theorem shP_iff (cs : List Int) (i : Nat) : shP cs i = true ↔ (1 + (i : Int)) ∣ up0 cs ∧ (1 + (i : Int)) ∣ lo0 cs := by
  unfold shP
  rw [Bool.and_eq_true, beq_iff_eq, beq_iff_eq, Int.fmod_eq_emod_of_nonneg _ (by omega), Int.fmod_eq_emod_of_nonneg _ (by omega)]
  exact ⟨fun h => ⟨Int.dvd_of_emod_eq_zero h.1, Int.dvd_of_emod_eq_zero h.2⟩, fun h => ⟨Int.emod_eq_zero_of_dvd h.1, Int.emod_eq_zero_of_dvd h.2⟩⟩
theorem shr_mem (cs : List Int) : shr cs ∈ shL cs := by
  have h2 := lo0_ok cs
  have hs := (frac_ok cs).1
  have d1 : shr cs ∣ up0 cs := Int.gcd_dvd_left ..
  have d2 : shr cs ∣ lo0 cs := Int.gcd_dvd_right ..
  have hle := Int.le_of_dvd (Int.lt_of_lt_of_le (by decide) h2.1) d2
  refine List.mem_map.mpr ⟨(shr cs - 1).toNat, List.mem_filter.mpr ⟨List.mem_range.mpr (pred_lt hs hle), ?_⟩, pred_nat hs⟩
  rw [shP_iff, pred_nat hs]
  exact ⟨d1, d2⟩
theorem shr_max (cs : List Int) (x : Int) (hx : x ∈ shL cs) (h : ∀ y ∈ shL cs, y ≤ x) : x = shr cs := by
  have h2 := lo0_ok cs
  obtain ⟨i, hi, rfl⟩ := List.mem_map.mp hx
  obtain ⟨_, hp⟩ := List.mem_filter.mp hi
  obtain ⟨d1, d2⟩ := (shP_iff cs i).mp hp
  have h3 := shared_max (up := up0 cs) (lo := lo0 cs) (by omega) (by omega) d1 d2
  have h4 := h _ (shr_mem cs)
  have : shr cs = (Int.gcd (up0 cs) (lo0 cs) : Nat) := rfl
  omega
theorem get_two {a b x : PySem.Str} {u v d : D} (h : get [(a, u), (b, v)] x = some d) : x = a ∨ x = b := by
  rcases get_put h with ⟨e, _⟩ | ⟨_, h⟩
  · exact .inl e
  · rcases get_put h with ⟨e, _⟩ | ⟨_, h⟩
    · exact .inr e
    · cases h
theorem look_two {a b x : PySem.Str} {u v c : Addr} (h : [(a, u), (b, v)].lookup x = some c) : (x = a ∧ c = u) ∨ (x = b ∧ c = v) := by
  have := mem_of_lookup h
  simp only [List.mem_cons, Prod.mk.injEq, List.not_mem_nil, or_false] at this
  exact this
section
variable {Z : Zone} {A : Around} {O : Addr → Prop} {B : Addr → Obj → Prop} {s : Shared} {E : Value → Shared → Prop} {Q : Flow → Shared → Prop} {L : Addr}
theorem segA2 (G : ZT Z) {cs : List Int} (hA : A.handled = none) (H : CellsOk Z.w.params L O B) (X : St Z (lawEnv Z.w.params L) O B [] [("lower", .int (lo0 cs)), ("upper", .int (up0 cs)), ("cells", .lst (cs.map .int))] s)
    (k : ∀ h' tk, St Z (lawEnv Z.w.params L) O B [] [("lower", .int (lov cs)), ("upper", .int (upv cs)), ("cells", .lst (cs.map .int))] { s with heap := h', toks := tk } → Q .next { s with heap := h', toks := tk }) :
    Xs Z A (((lawBody Z.w.params).drop 2).take 2) (lawEnv Z.w.params L) Q E s := by
  have ok := lawOk Z.w.params L
  have h2 := lo0_ok cs
  have hs := (frac_ok cs).1
  have hsl : (shr cs).natAbs < 2 ^ 64 := by
    have := Int.le_of_dvd (Int.lt_of_lt_of_le (by decide) h2.1) (show shr cs ∣ lo0 cs from Int.gcd_dvd_right ..)
    exact na_pow (k := 64) (Int.le_of_lt hs) (Int.lt_of_le_of_lt (Int.le_trans this h2.2) (by decide))
  refine x_assign X (ev_max (ns := shL cs) (m := shr cs) hA (ev_b G.toZK ok rfl rfl) (Ev.cast (ev_comp (shP cs) (fun (i : Nat) => .int (1 + (i : Int))) [("lower", .int (lo0 cs)), ("upper", .int (up0 cs))] (fun (i : Nat) => [("d", .int (1 + (i : Int))), ("lower", .int (lo0 cs)), ("upper", .int (up0 cs))])
    (it_range2 (hi := lo0 cs + 1) hA (ev_b G.toZK ok rfl rfl) ev_int (ev_bin (ev_cell rfl rfl) ev_int op_add) (by decide) (by decide) (by omega) (by omega)) (by simp only [sizeLine]; omega) rfl (by decide) rfl (by decide)
    (fun C x d hg => by rcases get_two hg with rfl | rfl <;> exact fun h => by cases h)
    (fun x c h => by rcases look_two h with ⟨rfl, rfl⟩ | ⟨rfl, rfl⟩ <;> exact ⟨(fun h => by cases h), rfl, fun d hg => (by cases hg; rfl)⟩)
    (fun i => ⟨rfl, rfl, trivial⟩) (fun i hi C O' B' own' hO => asg_name) (fun i hi C O' B' own' hO => ?_) (fun i hi hp C O' B' own' hO => ev_local rfl)) ?_)
    (List.length_pos_of_mem (shr_mem cs)) (shr_max cs)) asg_store fun h₂ t₂ X₂ => ?_
  · exact tsts_one (tst_and (tst_cmp (ev_bin (ev_cell rfl rfl) (ev_local rfl) (op_mod (by omega))) ev_int op_eqi) fun _ => tst_cmp (ev_bin (ev_cell rfl rfl) (ev_local rfl) (op_mod (by omega))) ev_int op_eqi)
  · unfold shL
    rw [List.map_map]; rfl
  refine x_tup X₂ (ev_tup (evs_cons (ev_bin (ev_cell rfl rfl) (ev_local rfl) (op_div (Int.ne_of_gt hs) hsl)) (evs_cons (ev_bin (ev_cell rfl rfl) (ev_local rfl) (op_div (Int.ne_of_gt hs) hsl)) evs_nil)))
    (asg_tup hA (asgs_cons (H.name rfl) (asgs_cons (H.name rfl) asgs_nil))) fun h₃ t₃ X₃ => x_nil (k _ _ (X₃.sub ⟨rfl, rfl, rfl, trivial⟩))
end
end Mine

open PySem PySem.W PyProof.Rows PySem.Calls
set_option Elab.async false
set_option linter.all false
set_option maxRecDepth 100000
namespace Mine
/-- law's names before the loop over the servers -/
noncomputable def rhoL (cs : List Int) (a1 a2 a3 : Addr) (room liars : Int) : Rho :=
  [("room", .int room), ("liars", .int liars), ("sign", .int (sgn cs)), ("rows", .val (.ref a1)), ("sent", .val (.ref a2)), ("dues", .val (.ref a3)), ("ends", .lst [.cst "\n", .cst "\r", .cst "\r\n"]), ("sizes", .lst ((List.range 6).map fun i => .int (siz cs i))), ("lower", .int (lov cs)), ("upper", .int (upv cs)), ("cells", .lst (cs.map .int))]
section
variable {Z : Zone} {A : Around} {O : Addr → Prop} {B : Addr → Obj → Prop} {s : Shared} {E : Value → Shared → Prop} {Q : Flow → Shared → Prop} {L : Addr}
theorem size_at (cs : List Int) (i : Nat) : ((P11.map fun p => D.int (p : Nat))[(((cel cs 1) + 5 * ((0 : Int) + (i : Int))).fmod 11).toNat]?) = some (.int (siz cs i : Nat)) := by
  have h := fmod_lt (a := cel cs 1) (b := 11) (by decide)
  have e : ((cel cs 1) + 5 * ((0 : Int) + (i : Int))).fmod 11 = (((cOf cs + 5 * i) % 11 : Nat) : Int) := by
    unfold cOf
    rw [Int.fmod_eq_emod_of_nonneg _ (by decide)] at h ⊢
    rw [Int.fmod_eq_emod_of_nonneg _ (by decide), Int.zero_add]
    show _ = (((cel cs 1 % 11).toNat : Int) + 5 * (i : Int)) % 11
    rw [Int.toNat_of_nonneg (Int.emod_nonneg _ (by decide)), Int.emod_add_emod]
  rw [e, Int.toNat_natCast, List.getElem?_map]
  unfold siz
  rw [List.getD_eq_getElem?_getD, List.getElem?_eq_getElem (show (cOf cs + 5 * i) % 11 < P11.length from Nat.mod_lt _ (by decide))]
  rfl
theorem segA3 (G : ZT Z) {cs : List Int} (h8 : cs.length = 8) (hA : A.handled = none) (H : CellsOk Z.w.params L O B) (X : St Z (lawEnv Z.w.params L) O B [] [("lower", .int (lov cs)), ("upper", .int (upv cs)), ("cells", .lst (cs.map .int))] s)
    (k : ∀ a1 a2 a3 h' tk, (¬ O a1) → (¬ (O a2 ∨ a2 = a1)) → (¬ ((O a3 ∨ a3 = a1) ∨ a3 = a2)) →
      St Z (lawEnv Z.w.params L) (fun b => ((O b ∨ b = a1) ∨ b = a2) ∨ b = a3) B [(a3, []), (a2, [.str ".."]), (a1, [.str "."])] (rhoL cs a1 a2 a3 4 1) { s with heap := h', toks := tk } → Q .next { s with heap := h', toks := tk }) :
    Xs Z A (((lawBody Z.w.params).drop 4).take 4) (lawEnv Z.w.params L) Q E s := by
  have ok := lawOk Z.w.params L
  refine x_assign X (d := .lst (P11.map fun p => D.int (p : Nat))) (ev_lst (evs_cons ev_int (evs_cons ev_int (evs_cons ev_int (evs_cons ev_int (evs_cons ev_int (evs_cons ev_int (evs_cons ev_int (evs_cons ev_int (evs_cons ev_int (evs_cons ev_int (evs_cons ev_int evs_nil))))))))))) (by simp [sizeLine, P11])) (H.asg rfl) fun h₂ t₂ X₂ => ?_
  refine x_comp (fun _ => true) (fun i => .int (siz cs i)) [("primes", .lst (P11.map fun p => D.int (p : Nat))), ("cells", .lst (cs.map .int))] (fun (i : Nat) => [("k", .int ((0 : Int) + (i : Int))), ("primes", .lst (P11.map fun p => D.int (p : Nat))), ("cells", .lst (cs.map .int))]) X₂
    (it_range1 (n := 6) hA (ev_b G.toZK ok rfl rfl) ev_int (by decide) (by decide)) (by simp [sizeLine]) rfl (by decide) rfl (by decide)
    (fun C x d hg => by rcases get_two hg with rfl | rfl <;> exact fun h => by cases h)
    (fun x c h => by rcases look_two h with ⟨rfl, rfl⟩ | ⟨rfl, rfl⟩ <;> exact ⟨(fun h => by cases h), rfl, fun d hg => (by cases hg; rfl)⟩)
    (fun i => ⟨rfl, rfl, trivial⟩) (fun i hi C O' B' own' hO => asg_name) (fun i hi C O' B' own' hO => tsts_nil) (fun i hi hp C O' B' own' hO => ?_) (fun O' B' => asg_name) fun h₃ t₃ X₃ => ?_
  · have hm := fmod_lt (a := (cel cs 1) + 5 * ((0 : Int) + (i : Int))) (b := 11) (by decide)
    exact ev_item (ev_cell rfl rfl) (ev_bin (ev_bin (ev_item (ev_cell rfl rfl) ev_int (by decide) (by decide) (item_at h8 (k := 1) (by decide))) (ev_bin ev_int (ev_local rfl) (op_mul (by decide))) op_add) ev_int (op_mod (by decide))) hm.1 (by omega) (size_at cs i)
  have e5 : ((List.range (6 : Int).toNat).filter fun _ => true).map (fun i => D.int (siz cs i)) = (List.range 6).map fun i => .int (siz cs i) := rfl
  rw [e5] at X₃
  refine x_swap (names := ["sign", "room", "liars"]) hA X₃ (ev_tup (evs_cons (ev_bin ev_int (ev_bin ev_int (ev_bin (ev_bin (ev_item (ev_cell rfl rfl) ev_int (by decide) (by decide) (item_at h8 (k := 1) (by decide))) ev_int (op_div (by decide) (by decide))) ev_int (op_mod (by decide))) (op_mul (by decide))) op_sub) (evs_cons ev_int (evs_cons ev_int evs_nil))))
    (asgs_cons asg_bind (asgs_cons asg_bind (asgs_cons asg_bind asgs_nil))) fun h₄ t₄ X₄ => ?_
  refine x_own3 hA X₄ (fun O' own' => evn_lst (evs_cons ev_str evs_nil)) (fun O' own' => evn_lst (evs_cons ev_str evs_nil)) (fun O' own' => evn_lst evs_nil) (fun O' own' => ev_lst (evs_cons ev_cst (evs_cons ev_cst (evs_cons ev_cst evs_nil)))) rfl rfl rfl fun a1 a2 a3 h₅ t₅ n1 n2 n3 _ _ _ X₅ => x_nil (k a1 a2 a3 h₅ t₅ n1 n2 n3 (X₅.sub ?_))
  exact ⟨rfl, rfl, rfl, rfl, rfl, rfl, rfl, rfl, rfl, rfl, rfl, trivial⟩
end
end Mine

open PySem PySem.W PyProof.Rows PySem.Calls
set_option Elab.async false
set_option linter.all false
set_option maxRecDepth 100000
namespace Mine
noncomputable def lawLoop (P : Params) : List Stmt := match (lawBody P).drop 8 with
  | .For _ _ b _ _ :: _ => b
  | _ => []
theorem liars_ok (cs : List Int) : ∀ i, 0 < liarsAt cs i ∧ liarsAt cs i ≤ 151 ^ i
  | 0 => by simp [liarsAt]
  | i + 1 => by
    obtain ⟨h1, h2⟩ := liars_ok cs i
    have hb := siz_big cs i
    have h3 : liarsAt cs i * siz cs i ≤ 151 ^ i * 151 := Int.mul_le_mul h2 (Int.ofNat_le.mpr hb.2) (Int.natCast_nonneg _) (Int.le_of_lt (Int.pow_pos (by decide)))
    have h4 : 0 < liarsAt cs i * siz cs i := Int.mul_pos h1 (Int.ofNat_lt.mpr (Nat.lt_of_lt_of_le (by decide) hb.1))
    have h5 : (151 : Int) ^ i ≤ 151 ^ i * 151 := by
      have : (0 : Int) < 151 ^ i := Int.pow_pos (by decide)
      omega
    have e : (151 : Int) ^ (i + 1) = 151 ^ i * 151 := Int.pow_succ ..
    rw [e]
    have e2 : liarsAt cs (i + 1) = if spo cs i then liarsAt cs i else if lie cs i then liarsAt cs i * siz cs i else liarsAt cs i := rfl
    rw [e2]
    split
    · exact ⟨h1, Int.le_trans h2 h5⟩
    · split
      · exact ⟨h4, h3⟩
      · exact ⟨h1, Int.le_trans h2 h5⟩
section
variable {Z : Zone} {A : Around} {O : Addr → Prop} {B : Addr → Obj → Prop} {own : List (Addr × List D)} {s : Shared} {E : Value → Shared → Prop} {Q : Flow → Shared → Prop} {L : Addr}
noncomputable def rhoI (cs : List Int) (a1 a2 a3 : Addr) (i : Nat) : Rho := ("cell", .int (cel cs (i + 2))) :: ("size", .int (siz cs i)) :: rhoL cs a1 a2 a3 (roomAt cs i) (liarsAt cs i)
noncomputable def rhoM (cs : List Int) (a1 a2 a3 : Addr) (i : Nat) : Rho := ("port", .int (portAt cs i)) :: ("spoiled", .bool (spo cs i)) :: ("cell", .int (cel cs (i + 2))) :: ("size", .int (siz cs i)) :: rhoL cs a1 a2 a3 (roomAt cs (i + 1)) (liarsAt cs (i + 1))
theorem step_spo (cs : List Int) {i : Nat} (hs : spo cs i = true) : roomAt cs (i + 1) = roomAt cs i - 1 ∧ liarsAt cs (i + 1) = liarsAt cs i ∧ portAt cs i = resAt cs i := by
  have e1 : roomAt cs (i + 1) = if spo cs i then roomAt cs i - 1 else if lie cs i then roomAt cs i - 2 else roomAt cs i := rfl
  have e2 : liarsAt cs (i + 1) = if spo cs i then liarsAt cs i else if lie cs i then liarsAt cs i * siz cs i else liarsAt cs i := rfl
  rw [e1, e2, hs]
  unfold portAt
  rw [hs]
  exact ⟨rfl, rfl, rfl⟩
theorem step_lie (cs : List Int) {i : Nat} (hs : spo cs i = false) (hl : lie cs i = true) : roomAt cs (i + 1) = roomAt cs i - 2 ∧ liarsAt cs (i + 1) = liarsAt cs i * siz cs i ∧ portAt cs i = (resAt cs i + 1 + ((cel cs (i + 2)).fdiv 4).fmod (siz cs i - 1)).fmod (siz cs i) := by
  have e1 : roomAt cs (i + 1) = if spo cs i then roomAt cs i - 1 else if lie cs i then roomAt cs i - 2 else roomAt cs i := rfl
  have e2 : liarsAt cs (i + 1) = if spo cs i then liarsAt cs i else if lie cs i then liarsAt cs i * siz cs i else liarsAt cs i := rfl
  rw [e1, e2, hs, hl]
  unfold portAt
  rw [hs, hl]
  exact ⟨rfl, rfl, rfl⟩
theorem step_no (cs : List Int) {i : Nat} (hs : spo cs i = false) (hl : lie cs i = false) : roomAt cs (i + 1) = roomAt cs i ∧ liarsAt cs (i + 1) = liarsAt cs i ∧ portAt cs i = resAt cs i := by
  have e1 : roomAt cs (i + 1) = if spo cs i then roomAt cs i - 1 else if lie cs i then roomAt cs i - 2 else roomAt cs i := rfl
  have e2 : liarsAt cs (i + 1) = if spo cs i then liarsAt cs i else if lie cs i then liarsAt cs i * siz cs i else liarsAt cs i := rfl
  rw [e1, e2, hs, hl]
  unfold portAt
  rw [hs, hl]
  exact ⟨rfl, rfl, rfl⟩
theorem loopB1 (G : ZT Z) {cs : List Int} {a1 a2 a3 : Addr} {i : Nat} (hi : i < 6) (hA : A.handled = none) (X : St Z (lawEnv Z.w.params L) O B own (rhoI cs a1 a2 a3 i) s)
    (k : ∀ h' tk, St Z (lawEnv Z.w.params L) O B own (rhoM cs a1 a2 a3 i) { s with heap := h', toks := tk } → Q .next { s with heap := h', toks := tk }) :
    Xs Z A ((lawLoop Z.w.params).take 5) (lawEnv Z.w.params L) Q E s := by
  have ok := lawOk Z.w.params L
  obtain ⟨_, _, _, l0, l30, _⟩ := frac_ok cs
  have hb := siz_big cs i
  have hbit : Builtin.Int.intBits (liarsAt cs i) ≤ 64 := intBits_of_lt (k := 64) (Int.le_of_lt (liars_ok cs i).1) (by
    have h1 := (liars_ok cs i).2
    have h2 : (151 : Int) ^ i ≤ 151 ^ 6 := by
      rw [show ((151 : Int) ^ i) = ((151 ^ i : Nat) : Int) by rw [Int.natCast_pow]; rfl]
      exact Int.ofNat_le.mpr (Nat.pow_le_pow_right (by decide) (Nat.le_of_lt hi))
    have : (151 : Int) ^ 6 < 2 ^ 64 := by decide
    omega)
  refine x_assign X (ev_cell rfl rfl) asg_store fun h₁ t₁ X₁ => ?_
  have X₁' := X₁.sub (ρ' := ("port", .int (upv cs + (0 : Nat) * siz cs i)) :: rhoI cs a1 a2 a3 i) ⟨by show some (D.int _) = some (D.int _); rw [show upv cs + ((0 : Nat) : Int) * (siz cs i : Int) = upv cs by simp], rfl, rfl, rfl, rfl, rfl, rfl, rfl, rfl, rfl, rfl, rfl, rfl, rfl, trivial⟩
  have tk := turn_ok cs i
  refine x_while (turnAt cs i) (fun _ => own) (fun j => ("port", .int (upv cs + (j : Nat) * siz cs i)) :: rhoI cs a1 a2 a3 i) X₁' (fun j hj => ?_) ?_ (fun j hj s X Q E kk => ?_) fun h₂ t₂ X₂ => ?_
  · refine Tst.cast (tst_int (ev_bin (ev_local rfl) (ev_cell rfl rfl) (op_mod (Int.ne_of_gt l0)))) ?_
    have := tk.1 j hj
    rw [Int.fmod_eq_emod_of_nonneg _ (Int.le_of_lt l0)]
    simpa using this
  · refine Tst.cast (tst_int (ev_bin (ev_local rfl) (ev_cell rfl rfl) (op_mod (Int.ne_of_gt l0)))) ?_
    have := tk.2.1
    rw [Int.fmod_eq_emod_of_nonneg _ (Int.le_of_lt l0)]
    simpa using this
  · refine x_aug X (ev_local rfl) (ev_local rfl) op_iadd asg_store fun h₃ t₃ X₃ => x_nil (kk _ _ (X₃.sub ⟨?_, rfl, rfl, rfl, rfl, rfl, rfl, rfl, rfl, rfl, rfl, rfl, rfl, rfl, trivial⟩))
    show some (D.int _) = some (D.int _)
    rw [show ((j + 1 : Nat) : Int) * (siz cs i : Int) = j * siz cs i + siz cs i by rw [Int.natCast_add, Int.add_mul]; simp, ← Int.add_assoc]
  refine x_assign X₂ (ev_bin (ev_bin (ev_local rfl) (ev_cell rfl rfl) (op_div (Int.ne_of_gt l0) (na_pow (k := 64) (Int.le_of_lt l0) (Int.lt_of_le_of_lt l30 (by decide))))) (ev_local rfl) (op_mod (Int.ne_of_gt (Int.ofNat_lt.mpr (Nat.lt_of_lt_of_le (by decide) hb.1))))) asg_store fun h₃ t₃ X₃ => ?_
  refine x_assign X₃ (ev_and2 (ev_cmp (ev_bin (ev_local rfl) ev_int (op_mod (by decide))) ev_int op_eqi) fun _ => ev_cmp (ev_local rfl) ev_int op_gt) asg_store fun h₄ t₄ X₄ => ?_
  have X₅ := X₄.sub (ρ' := ("port", .int (resAt cs i)) :: ("spoiled", .bool (spo cs i)) :: rhoI cs a1 a2 a3 i) ⟨rfl, rfl, rfl, rfl, rfl, rfl, rfl, rfl, rfl, rfl, rfl, rfl, rfl, rfl, rfl, trivial⟩
  refine x_if (b := spo cs i) X₅ (tst_bool (ev_local rfl)) fun h₆ t₆ X₆ => ?_
  cases hs : spo cs i with
  | true =>
    obtain ⟨e1, e2, e3⟩ := step_spo cs hs
    rw [if_pos rfl]
    refine x_aug X₆ (ev_local rfl) ev_int op_isub asg_store fun h₇ t₇ X₇ => x_nil (x_nil (k _ _ (X₇.sub ?_)))
    exact ⟨by rw [e3]; rfl, rfl, rfl, rfl, by rw [e1]; rfl, by rw [e2]; rfl, rfl, rfl, rfl, rfl, rfl, rfl, rfl, rfl, rfl, trivial⟩
  | false =>
    rw [if_neg (by decide)]
    refine x_if (b := lie cs i) X₆ (tst_and (tst_cmp (ev_bin (ev_local rfl) ev_int (op_mod (by decide))) ev_int op_eqi) fun _ => tst_cmp (ev_local rfl) ev_int op_gt) fun h₇ t₇ X₇ => ?_
    cases hl : lie cs i with
    | true =>
      obtain ⟨e1, e2, e3⟩ := step_lie cs hs hl
      rw [if_pos rfl]
      refine x_swap (names := ["room", "liars", "port"]) hA X₇ (ev_tup (evs_cons (ev_bin (ev_local rfl) ev_int op_sub) (evs_cons (ev_bin (ev_local rfl) (ev_local rfl) (op_mul hbit)) (evs_cons (ev_bin (ev_bin (ev_bin (ev_local rfl) ev_int op_add) (ev_bin (ev_bin (ev_local rfl) ev_int (op_div (by decide) (by decide))) (ev_bin (ev_local rfl) ev_int op_sub) (op_mod (by omega))) op_add) (ev_local rfl) (op_mod (by omega))) evs_nil))))
        (asgs_cons asg_bind (asgs_cons asg_bind (asgs_cons asg_bind asgs_nil))) fun h₈ t₈ X₈ => x_nil (x_nil (x_nil (k _ _ (X₈.sub ?_))))
      exact ⟨by rw [e3]; rfl, rfl, rfl, rfl, by rw [e1]; rfl, by rw [e2]; rfl, rfl, rfl, rfl, rfl, rfl, rfl, rfl, rfl, rfl, trivial⟩
    | false =>
      obtain ⟨e1, e2, e3⟩ := step_no cs hs hl
      rw [if_neg (by decide)]
      refine x_nil (x_nil (x_nil (k _ _ (X₇.sub ?_))))
      exact ⟨by rw [e3]; rfl, rfl, rfl, rfl, by rw [e1]; rfl, by rw [e2]; rfl, rfl, rfl, rfl, rfl, rfl, rfl, rfl, rfl, rfl, trivial⟩
end
end Mine

open PySem PySem.W PyProof.Rows PySem.Calls
set_option Elab.async false
set_option linter.all false
set_option maxRecDepth 100000
namespace Mine
theorem repl_len (x z : PySem.Str) (c : Nat) : (Txt.replace x ⟨#[c]⟩ z).length ≤ x.length * (z.length + 1) := by
  have e : ∀ y : PySem.Str, y.length = y.cps.toList.length := fun y => by simp [Str.length]
  rw [e, replace_rep, e x]
  exact flat_len (fun k => by
    split
    · rw [e z]; omega
    · simp) _
theorem rep2_len (a b : Nat) (z : List Nat) : ∀ n (l : List Nat), l.length ≤ n → (rep2 a b z l).length ≤ l.length * (z.length + 1)
  | 0, [], _ => by simp [rep2]
  | n + 1, [], _ => by simp [rep2]
  | n + 1, [c], _ => by simp [rep2]
  | n + 1, x :: y :: r, h => by
    have h1 := rep2_len a b z n r (by simp at h; omega)
    have h2 := rep2_len a b z n (y :: r) (by simpa using h)
    rw [rep2]
    simp only [List.length_cons, Nat.add_mul] at h2 ⊢
    split
    · rw [List.length_append]; omega
    · rw [List.length_cons]; omega
theorem repl2_len (x z : PySem.Str) (a b : Nat) : (Txt.replace x ⟨#[a, b]⟩ z).length ≤ x.length * (z.length + 1) := by
  have e : ∀ y : PySem.Str, y.length = y.cps.toList.length := fun y => by simp [Str.length]
  rw [e, replace_two, e x, e z]
  exact rep2_len _ _ _ _ _ (Nat.le_refl _)
theorem num_len {n : Int} (h0 : 0 ≤ n) (h1 : n < 10 ^ 10) : (Str.ofString (toString n)).length ≤ 20 := by
  have := (num_val h0 h1).2.2
  simpa [dg, Str.length] using this
theorem num_ne {n : Int} (h0 : 0 ≤ n) (h1 : n < 10 ^ 10) {x : PySem.Str} {c : Nat} (hx : x = ⟨#[c]⟩) (hc : c < 48 ∨ 57 < c) : (x == Str.ofString (toString n)) = false := by
  rw [beq_eq_false_iff_ne]
  intro e
  have h := (num_val h0 h1).1.free hc
  refine h ?_
  show c ∈ (Str.ofString (toString n)).cps.toList
  rw [← e, hx]
  simp
section
variable {Z : Zone} {A : Around} {O : Addr → Prop} {B : Addr → Obj → Prop} {s : Shared} {E : Value → Shared → Prop} {Q : Flow → Shared → Prop} {L : Addr}
noncomputable def rowsD (cs : List Int) (i : Nat) : List D := .str "." :: (List.range i).map fun j => .str (itemAt cs j).row
noncomputable def sentD (cs : List Int) (i : Nat) : List D := .str ".." :: (List.range i).map fun j => .str (itemAt cs j).sent
noncomputable def dueL (cs : List Int) (i : Nat) : List D := (List.range i).map (duesD cs)
noncomputable def ownL (cs : List Int) (a1 a2 a3 : Addr) (i : Nat) : List (Addr × List D) := [(a3, dueL cs i), (a2, sentD cs i), (a1, rowsD cs i)]
theorem rows_succ (cs : List Int) (i : Nat) : rowsD cs i ++ [.str (itemAt cs i).row] = rowsD cs (i + 1) := by unfold rowsD; rw [List.range_succ, List.map_append]; rfl
theorem sent_succ (cs : List Int) (i : Nat) : sentD cs i ++ [.str (itemAt cs i).sent] = sentD cs (i + 1) := by unfold sentD; rw [List.range_succ, List.map_append]; rfl
theorem due_succ (cs : List Int) (i : Nat) : dueL cs i ++ [duesD cs i] = dueL cs (i + 1) := by unfold dueL; rw [List.range_succ, List.map_append]; rfl
theorem dress_len (cs : List Int) (i : Nat) : 1 ≤ (dressAt cs i).length ∧ (dressAt cs i).length ≤ 30 := by
  have := row_fact (item_ok cs i).d
  exact ⟨this.1, this.2.1⟩
theorem ends_at {k : Int} (h0 : 0 ≤ k) (h3 : k < 3) : ([D.cst "\n", .cst "\r", .cst "\r\n"] : List D)[k.toNat]? = some (.cst (endS k.toNat)) := by
  rcases (show k = 0 ∨ k = 1 ∨ k = 2 by omega) with rfl | rfl | rfl <;> rfl
theorem ends_len (k : Nat) : (endS k).length ≤ 2 := by
  unfold endS
  split
  · decide
  · split <;> decide
theorem ends_ne (k : Nat) {x : PySem.Str} (h : x = "@" ∨ x = "#") : (x == endS k) = false := by
  unfold endS
  rcases h with rfl | rfl
  · split
    · decide
    · split <;> decide
  · split
    · decide
    · split <;> decide
theorem slice_len {d : PySem.Str} (h1 : 1 ≤ d.length) (h2 : d.length ≤ 30) : (Txt.slice d (some 1) none).length ≤ 30 := by
  have e : ∀ y : PySem.Str, y.length = y.cps.toList.length := fun y => by simp [Str.length]
  rw [e, show (Txt.slice d (some 1) none).cps.toList = d.cps.toList.drop 1 from slice_from h1, List.length_drop, ← e]
  exact Nat.le_trans (Nat.sub_le _ _) h2
theorem p_len {d : PySem.Str} {n : Int} (h1 : 1 ≤ d.length) (h2 : d.length ≤ 30) (n0 : 0 ≤ n) (n1 : n < 10 ^ 10) : (Txt.replace (Txt.slice d (some 1) none) "P" (Str.ofString (toString n))).length ≤ 630 := by
  have h := repl_len (Txt.slice d (some 1) none) (Str.ofString (toString n)) 80
  have h3 : (Txt.slice d (some 1) none).length * ((Str.ofString (toString n)).length + 1) ≤ 30 * 21 := Nat.mul_le_mul (slice_len h1 h2) (Nat.add_le_add_right (num_len n0 n1) 1)
  exact Nat.le_trans h h3
theorem text_len {d : PySem.Str} {n m : Int} (h1 : 1 ≤ d.length) (h2 : d.length ≤ 30) (hn : Nums n m) : (textS d n m).length ≤ 13230 := by
  have h := repl_len (Txt.replace (Txt.slice d (some 1) none) "P" (Str.ofString (toString n))) (Str.ofString (toString m)) 77
  have h3 : (Txt.replace (Txt.slice d (some 1) none) "P" (Str.ofString (toString n))).length * ((Str.ofString (toString m)).length + 1) ≤ 630 * 21 := Nat.mul_le_mul (p_len h1 h2 hn.n0 hn.n1) (Nat.add_le_add_right (num_len hn.m0 hn.m1) 1)
  exact Nat.le_trans h h3
theorem room_fits {a b A B : Nat} (ha : a ≤ A) (hb : b ≤ B) (h : A + (A + 1) * B ≤ 16777216) : a + (a + 1) * b ≤ 16777216 := by
  have : (a + 1) * b ≤ (A + 1) * B := Nat.mul_le_mul (Nat.add_le_add_right ha 1) hb
  exact Nat.le_trans (Nat.add_le_add ha this) h
noncomputable def rhoT (cs : List Int) (a1 a2 a3 : Addr) (i : Nat) : Rho := ("text", .str (textS (dressAt cs i) (portAt cs i + moreAt cs i) (siz cs i - portAt cs i + moreAt cs i))) :: ("dress", .str (dressAt cs i)) :: ("more", .int (moreAt cs i)) :: ("end", .int (endI cs i)) :: rhoM cs a1 a2 a3 i
theorem loopB2 (G : ZT Z) {cs : List Int} {a1 a2 a3 : Addr} {i : Nat} (hA : A.handled = none) (hdep : A.depth + 20 < recursionLimit) (X : St Z (lawEnv Z.w.params L) O B (ownL cs a1 a2 a3 i) (rhoM cs a1 a2 a3 i) s)
    (k : ∀ h' tk, St Z (lawEnv Z.w.params L) O B (ownL cs a1 a2 a3 i) (rhoT cs a1 a2 a3 i) { s with heap := h', toks := tk } → Q .next { s with heap := h', toks := tk }) :
    Xs Z A (((lawLoop Z.w.params).drop 5).take 3) (lawEnv Z.w.params L) Q E s := by
  have ok := lawOk Z.w.params L
  have hb := siz_big cs i
  have hp := port_ok cs i
  have hm := more_ok cs i
  have hd := dress_len cs i
  have hdl := slice_len hd.1 hd.2
  obtain ⟨⟨b1, b2⟩, ⟨b3, b4⟩, b5, b6⟩ := big hb.2 hp hm.1 hm.2.1
  have n1 := num_len (n := portAt cs i + moreAt cs i) b1 b2
  have n2 := num_len (n := siz cs i - portAt cs i + moreAt cs i) b3 b4
  refine x_swap (names := ["more", "end"]) hA X (ev_tup (evs_cons (ev_bin (ev_local rfl) (ev_bin (ev_bin (ev_local rfl) ev_int (op_div (by decide) (by decide))) ev_int (op_mod (by decide))) (op_mul (intBits_le_64 nat_lo (nat_ul hb.2)))) (evs_cons (ev_bin (ev_bin (ev_local rfl) (ev_bin ev_int ev_int (op_pow (by decide) (by decide))) (op_div (by decide) (by decide))) ev_int (op_mod (by decide))) evs_nil)))
    (asgs_cons asg_bind (asgs_cons asg_bind asgs_nil)) fun h₁ t₁ X₁ => ?_
  refine x_assign X₁ (ev_fn (G.K 167 _ rfl) rfl (fn_law_dress G.toZL) hA (dep hdep) (ev_g G.toZK ok rfl) (evs_cons (ev_local rfl) (evs_cons (ev_local rfl) evs_nil))) asg_store fun h₂ t₂ X₂ => ?_
  have X₃ := X₂.sub (ρ' := ("dress", .str (dressAt cs i)) :: ("more", .int (moreAt cs i)) :: ("end", .int (endI cs i)) :: rhoM cs a1 a2 a3 i) ⟨rfl, rfl, rfl, rfl, rfl, rfl, rfl, rfl, rfl, rfl, rfl, rfl, rfl, rfl, rfl, rfl, rfl, rfl, trivial⟩
  refine x_assign X₃ (ev_repl (ev_repl (ev_sfrom (ev_local rfl) ev_int (le_by hd.2)) (a2_strint (ev_b G.toZK ok rfl rfl) (ev_bin (ev_local rfl) (ev_local rfl) op_add) b5) (num_ne b1 b2 (c := 80) rfl (by decide)) ?_)
    (a2_strint (ev_b G.toZK ok rfl rfl) (ev_bin (ev_bin (ev_local rfl) (ev_local rfl) op_sub) (ev_local rfl) op_add) b6) (num_ne b3 b4 (c := 77) rfl (by decide)) ?_) asg_store fun h₄ t₄ X₄ => x_nil (k _ _ X₄)
  · exact room_fits hdl n1 (by decide)
  · exact room_fits (p_len hd.1 hd.2 b1 b2) n2 (by decide)
end
end Mine

open PySem PySem.W PyProof.Rows PySem.Calls
set_option Elab.async false
set_option linter.all false
set_option maxRecDepth 100000
namespace Mine
section
variable {Z : Zone} {A : Around} {O : Addr → Prop} {B : Addr → Obj → Prop} {s : Shared} {E : Value → Shared → Prop} {Q : Flow → Shared → Prop} {L : Addr}
theorem end_ok (cs : List Int) (i : Nat) : 0 ≤ endI cs i ∧ endI cs i < 3 := fmod_lt (by decide)
theorem end_next (cs : List Int) (i : Nat) : ((endI cs i + 1).fmod 3).toNat = ((endI cs i).toNat + 1) % 3 := by
  rw [Int.fmod_eq_emod_of_nonneg _ (by decide)]
  exact end_n (end_ok cs i).1
theorem due_last (cs : List Int) (i : Nat) : (sentD cs (i + 1))[(sentD cs (i + 1)).length - 1]? = some (.str (itemAt cs i).sent) := by
  rw [← sent_succ]; simp
theorem mul3 {a b A B : Nat} (ha : a ≤ A) (hb : b ≤ B) : a * (b + 1) ≤ A * (B + 1) := Nat.mul_le_mul ha (Nat.add_le_add_right hb 1)
theorem loopB3 (G : ZT Z) {cs : List Int} {a1 a2 a3 : Addr} {i : Nat} (hi : i < 6) (hA : A.handled = none) (X : St Z (lawEnv Z.w.params L) O B (ownL cs a1 a2 a3 i) (rhoT cs a1 a2 a3 i) s)
    (k : ∀ h' tk, St Z (lawEnv Z.w.params L) O B (ownL cs a1 a2 a3 (i + 1)) (rhoL cs a1 a2 a3 (roomAt cs (i + 1)) (liarsAt cs (i + 1))) { s with heap := h', toks := tk } → Q .next { s with heap := h', toks := tk }) :
    Xs Z A ((lawLoop Z.w.params).drop 8) (lawEnv Z.w.params L) Q E s := by
  have ok := lawOk Z.w.params L
  have hb := siz_big cs i
  have hp := port_ok cs i
  have hm := more_ok cs i
  have hd := dress_len cs i
  have he := end_ok cs i
  have hit := item_ok cs i
  have hn := fmod_lt (a := endI cs i + 1) (b := 3) (by decide)
  have lt := text_len hd.1 hd.2 hit.nm
  have lt : (textS (dressAt cs i) (portAt cs i + moreAt cs i) (siz cs i - portAt cs i + moreAt cs i)).length ≤ 13230 := lt
  generalize hT : textS (dressAt cs i) (portAt cs i + moreAt cs i) (siz cs i - portAt cs i + moreAt cs i) = T at lt
  have hrow : (itemAt cs i).row = Txt.replace (Txt.replace T "@" (endS (endI cs i).toNat)) "#" (endS ((endI cs i + 1).fmod 3).toNat) := by
    rw [end_next, ← hT]; rfl
  have hsent : (itemAt cs i).sent = Txt.replace (Txt.replace (Txt.replace T "@." "\r\n..") "@" "\r\n") "#" "\r\n" := by
    rw [← hT]; rfl
  have X₀ := X.sub (ρ' := ("text", .str T) :: ("dress", .str (dressAt cs i)) :: ("more", .int (moreAt cs i)) :: ("end", .int (endI cs i)) :: rhoM cs a1 a2 a3 i) ⟨by rw [← hT]; rfl, rfl, rfl, rfl, rfl, rfl, rfl, rfl, rfl, rfl, rfl, rfl, rfl, rfl, rfl, rfl, rfl, rfl, rfl, trivial⟩
  have r1 : (Txt.replace T "@" (endS (endI cs i).toNat)).length ≤ 39690 := Nat.le_trans (repl_len T _ 64) (mul3 lt (ends_len _))
  have s1 : (Txt.replace T "@." "\r\n..").length ≤ 66150 := Nat.le_trans (repl2_len T _ 64 46) (mul3 lt (show (Str.ofString "\r\n..").length ≤ 4 by decide))
  have s2 : (Txt.replace (Txt.replace T "@." "\r\n..") "@" "\r\n").length ≤ 198450 := Nat.le_trans (repl_len _ _ 64) (mul3 s1 (show (Str.ofString "\r\n").length ≤ 2 by decide))
  have dl : ((dueL cs i).length : Nat) = i := by simp [dueL]
  refine x_appO (own₁ := [(a3, dueL cs i), (a2, sentD cs i)]) (own₂ := []) (d := .str (itemAt cs i).row) X₀ (ev_local rfl) (Ev.cast (ev_repl (ev_repl (ev_local rfl) (a2_item rfl (ev_local rfl) he.1 (Int.lt_trans he.2 (by decide)) (ends_at he.1 he.2)) (ends_ne _ (.inl rfl)) (room_fits lt (ends_len _) (by decide)))
    (a2_item rfl (ev_bin (ev_bin (ev_local rfl) ev_int op_add) ev_int (op_mod (by decide))) hn.1 (Int.lt_trans hn.2 (by decide)) (ends_at hn.1 hn.2)) (ends_ne _ (.inr rfl)) (room_fits r1 (ends_len _) (by decide))) (by rw [hrow])) (by simp [rowsD, sizeLine]; omega) fun h₁ t₁ X₁ => ?_
  rw [rows_succ] at X₁
  refine x_appO (own₁ := [(a3, dueL cs i)]) (own₂ := [(a1, rowsD cs (i + 1))]) (d := .str (itemAt cs i).sent) X₁ (ev_local rfl) (Ev.cast (ev_repl (ev_repl (ev_repl (ev_local rfl) a2_const (by decide) (room_fits lt (show (Str.ofString "\r\n..").length ≤ 4 by decide) (by decide))) a2_const (by decide) (room_fits s1 (show (Str.ofString "\r\n").length ≤ 2 by decide) (by decide))) a2_const (by decide) (room_fits s2 (show (Str.ofString "\r\n").length ≤ 2 by decide) (by decide))) (by rw [hsent])) (by simp [sentD, sizeLine]; omega) fun h₂ t₂ X₂ => ?_
  rw [sent_succ] at X₂
  have fz : fitsSsize 0 = true := by decide
  refine x_assign (d := dueD cs i) X₂ (ev_tup (evs_cons (ev_sitem (ev_local rfl) ev_int fz (by omega) (by omega)) (evs_cons (ev_ife (tst_cmp (ev_sitem (ev_local rfl) ev_int fz (by omega) (by omega)) ev_str op_eqs) (fun hv => Ev.cast ev_str (by rw [if_pos hv])) (fun hv => Ev.cast (ev_lastO (a := a2) (ds := sentD cs (i + 1)) (d := .str (itemAt cs i).sent) (ev_local rfl) (.tail _ (.head _)) (ev_un ev_int op_neg) (due_last cs i)) (by rw [hv, if_neg (by decide)]))) evs_nil))) asg_store fun h₃ t₃ X₃ => ?_
  refine x_assign (d := fineD cs i) X₃ (ev_tup (evs_cons (Ev.cast (d' := .str (hostS i)) (ev_bin ev_str (ev_strint (ev_b G.toZK ok rfl rfl) (ev_lenO (a := a3) (ds := dueL cs i) (ev_b G.toZK ok rfl rfl) (ev_local rfl) (.head _) (by rw [dl]; omega)) (by rw [dl]; omega)) (op_adds ?_)) (by rw [dl]; rfl)) (evs_cons (ev_ife (b := hasM (dressAt cs i)) (tst_cmp ev_str (ev_local rfl) op_ins) (fun hv => Ev.cast (d' := .int (toldAt cs i)) (ev_bin (ev_bin (ev_local rfl) (ev_local rfl) op_sub) (ev_local rfl) op_sub) (by unfold toldAt; rw [if_pos hv])) (fun hv => Ev.cast (ev_bin (ev_local rfl) (ev_local rfl) op_add) (by unfold toldAt; rw [hv, if_neg (by decide)]))) evs_nil))) asg_store fun h₄ t₄ X₄ => ?_
  · have := num_len (n := (((dueL cs i).length : Nat) : Int)) (by omega) (by rw [dl]; omega)
    have e : (Str.ofString "host").length = 4 := by decide
    simp only [sizeLine]
    have e2 : (Str.ofString (toString (((dueL cs i).length : Nat) : Int))).length ≤ 20 := this
    omega
  refine x_appO (own₁ := []) (own₂ := [(a2, sentD cs (i + 1)), (a1, rowsD cs (i + 1))]) (d := duesD cs i) X₄ (ev_local rfl) (ev_ife (b := spo cs i) (tst_bool (ev_local rfl)) (fun hv => Ev.cast (ev_local rfl) (by unfold duesD; rw [if_pos hv])) (fun hv => Ev.cast (ev_local rfl) (by unfold duesD; rw [hv, if_neg (by decide)]))) (by simp only [sizeLine]; omega) fun h₅ t₅ X₅ => ?_
  rw [due_succ] at X₅
  exact x_nil (k _ _ (X₅.sub ⟨rfl, rfl, rfl, rfl, rfl, rfl, rfl, rfl, rfl, rfl, rfl, trivial⟩))
end
end Mine

open PySem PySem.W PyProof.Rows PySem.Calls
set_option Elab.async false
set_option linter.all false
set_option maxRecDepth 100000
namespace Mine
section
variable {Z : Zone} {A : Around} {env : Env} {O : Addr → Prop} {B : Addr → Obj → Prop} {s : Shared} {E : Value → Shared → Prop} {Q : Flow → Shared → Prop} {L : Addr}
theorem xs_app {S1 S2 : List Stmt} (h : Xs Z A S1 env (fun f s' => match f with | .next => Xs Z A S2 env Q E s' | f => Q f s') E s) : Xs Z A (S1 ++ S2) env Q E s := by
  refine ⟨?_⟩
  rw [execs_app]
  refine wpAny_bind (wpAny_mono h.run (fun f s' hf => ?_) fun _ _ e => e)
  cases f with
  | next => exact hf.run
  | _ => exact wpAny_pure hf
theorem nth_sizes (cs : List Int) {i : Nat} (h : i < 6) : nth ((List.range 6).map fun i => D.int (siz cs i)) i = .int (siz cs i) := by
  unfold nth
  rw [List.getD_eq_getElem?_getD, List.getElem?_map, List.getElem?_range h]; rfl
theorem nth_cells {cs : List Int} (h8 : cs.length = 8) {i : Nat} (h : i < 6) : nth ((cs.map D.int).drop 2) i = .int (cel cs (i + 2)) := by
  unfold nth cel
  rw [List.getD_eq_getElem?_getD, List.getElem?_drop, List.getElem?_map, List.getElem?_eq_getElem (by omega), List.getD_eq_getElem?_getD, List.getElem?_eq_getElem (by omega)]
  simp [Nat.add_comm]
theorem segB (G : ZT Z) {cs : List Int} (h8 : cs.length = 8) {a1 a2 a3 : Addr} (hA : A.handled = none) (hdep : A.depth + 20 < recursionLimit) (X : St Z (lawEnv Z.w.params L) O B (ownL cs a1 a2 a3 0) (rhoL cs a1 a2 a3 4 1) s)
    (k : ∀ h' tk, St Z (lawEnv Z.w.params L) O B (ownL cs a1 a2 a3 6) (rhoL cs a1 a2 a3 (roomAt cs 6) (liarsAt cs 6)) { s with heap := h', toks := tk } → Q .next { s with heap := h', toks := tk }) :
    Xs Z A (((lawBody Z.w.params).drop 8).take 1) (lawEnv Z.w.params L) Q E s := by
  have ok := lawOk Z.w.params L
  have e6 : min ((List.range 6).map fun i => D.int (siz cs i)).length ((cs.map D.int).drop 2).length = 6 := by
    rw [List.length_map, List.length_range, List.length_drop, List.length_map, h8]; rfl
  refine x_for (ownL cs a1 a2 a3) (fun i => rhoL cs a1 a2 a3 (roomAt cs i) (liarsAt cs i)) (fun i => ("cell", nth ((cs.map D.int).drop 2) i) :: ("size", nth ((List.range 6).map fun i => D.int (siz cs i)) i) :: rhoL cs a1 a2 a3 (roomAt cs i) (liarsAt cs i)) (fun i => rfl) X
    (it_zip hA (ev_b G.toZK ok rfl rfl) (ev_local rfl) (ev_from (n := 2) (ev_cell rfl rfl) ev_int (by rw [List.length_map, h8]; decide))) (fun i hi O' B' => asg_tup hA (asgs_cons asg_name (asgs_cons asg_name asgs_nil))) (fun i hi O' B' hO' hB' s X Q E kk => ?_) fun h₆ t₆ X₆ => ?_
  · rw [e6] at hi
    rw [nth_sizes cs hi, nth_cells h8 hi] at X
    show Xs Z A ((lawLoop Z.w.params).take 5 ++ (((lawLoop Z.w.params).drop 5).take 3 ++ (lawLoop Z.w.params).drop 8)) (lawEnv Z.w.params L) Q E s
    refine xs_app (loopB1 G hi hA X fun h₁ t₁ X₁ => ?_)
    refine xs_app (loopB2 G hA hdep X₁ fun h₂ t₂ X₂ => ?_)
    exact loopB3 G hi hA X₂ fun h₃ t₃ X₃ => kk _ _ X₃
  · rw [e6] at X₆
    exact x_nil (k _ _ X₆)
end
end Mine

open PySem PySem.W PyProof.Rows PySem.Calls
set_option Elab.async false
set_option linter.all false
set_option maxRecDepth 100000
namespace Mine
section
variable {Z : Zone} {A : Around} {env : Env} {O O' : Addr → Prop} {B : Addr → Obj → Prop} {own own' : List (Addr × List D)} {ρ ρ' : Rho} {s : Shared} {E : Value → Shared → Prop} {h' h₁ : Heap} {tk t₁ : Nat}
theorem ev_resub {kind : Nat} {code : Array Nat} {L R : List Nat} {G : Nat → List Nat} {dR dL d : D} {a : Addr} {o e1 e2 : PySem.Expr} {apos pos : Pos} {pl : Sem Bool} (P : PatAt Z.H a code kind) (ho : Ev Z A env O B own ρ o (.val (.ref a))) (ha : Evs Z A env O B own ρ pos [e1, e2] [dR, dL])
    (hdR : ∀ h T v, Rep O h T dR v → Txv kind v R) (hdL : ∀ h T v, Rep O h T dL v → Txv kind v L) (hdd : ∀ h T v, Txv kind v (G 0) → Rep O h T d v) (hR : R.length ≤ 2) (h92 : 92 ∉ R) (hL : L.length ≤ 100000) (hG : ∀ p, p ≤ L.length → Turn code L R G p) (hJ : ∀ A, JoinRule Z.prog Z.w A kind)
    (he : eval (.Call (.Attribute o (Str.ofString "sub") apos) [e1, e2] [] pos) env = (do
      let ov ← eval o env
      standAt apos.atName
      let (f, first) ← holding [ov] (getMethod ov (Str.ofString "sub") pl)
      callWith pos f first (backTo pos (starEach [e1, e2] env)) []) := by rfl)
    (hs : starEach [e1, e2] env = (false, eval e1 env) :: starEach [e2] env := by rfl) (hp : (backTo pos (starEach [e2] env)).any (·.1) = false := by rfl) : Ev Z A env O B own ρ (.Call (.Attribute o (Str.ofString "sub") apos) [e1, e2] [] pos) d := .mk fun s X Q E k => by
  refine MethodCall_ (pl := pl) (ho.run s X _ _ fun v h₁ t₁ g₁ le₁ r₁ => ?_) he
  simp only [Rep] at r₁
  subst r₁
  have X₁ := X.grow g₁ le₁
  have P₁ : PatAt h₁ a code kind := P.keep X₁.wd.zone
  obtain ⟨oa, eoa, hc, hdi⟩ := P₁.isPat
  refine getMethod_builtin (T := "re.Pattern") ⟨oa, eoa, hc⟩ plain_pat slot_sub type_sub (fun b e => by cases e; exact ⟨oa, eoa, hdi⟩) ?_
  have ha2 := ha.run _ X₁
  rw [hs] at ha2 ⊢
  refine callWith_builtin (by show ((false || (backTo pos (starEach [e2] env)).any (·.1)) = false); rw [hp]; rfl) ?_
  refine evalArgs_plain (x := eval e1 env) (rest := backTo pos (starEach [e2] env)) ?_
  refine ha2 _ _ fun vs h₂ t₂ g₂ le₂ r₂ => ?_
  simp only [Reps] at r₂
  obtain ⟨v1, _, rfl, r1, v2, _, rfl, r2, rfl⟩ := r₂
  have X₂ := X₁.grow g₂ le₂
  refine wpAny_with_toks (n := s.toks) (Nat.le_trans le₁ le₂) (wp_sub (P.keep X₂.wd.zone) (hdL _ _ _ r2) (hdR _ _ _ r1) hR h92 hL hG hJ fun v' h' tk hv' kk => fun le => ?_)
  exact k _ h' tk ((g₁.trans g₂).trans (Grow.of X₂.tabs kk)) le (hdd _ _ _ hv')
theorem str_txv {h : Heap} {T : Nat} {x : PySem.Str} {v : Value} (r : Rep O h T (.str x) v) : Txv 0 v x.cps.toList := by
  simp only [Rep] at r
  obtain ⟨t, rfl⟩ := r
  exact .inl ⟨rfl, t, rfl⟩
theorem txv_str {h : Heap} {T : Nat} {l : List Nat} {v : Value} (r : Txv 0 v l) : Rep O h T (.str ⟨l.toArray⟩) v := by
  rcases r with ⟨_, t, rfl⟩ | ⟨z, _⟩
  · simp only [Rep]; exact ⟨t, rfl⟩
  · cases z
theorem bytes_txv {h : Heap} {T : Nat} {l : List Nat} {v : Value} (hl : ∀ c ∈ l, c < 256) (r : Rep O h T (.bytes ((l.map (·.toUInt8)).toArray)) v) : Txv 1 v l := by
  simp only [Rep] at r
  obtain ⟨t, rfl⟩ := r
  exact .inr ⟨rfl, hl, t, rfl⟩
theorem txv_bytes {h : Heap} {T : Nat} {l : List Nat} {v : Value} (r : Txv 1 v l) : Rep O h T (.bytes ((l.map (·.toUInt8)).toArray)) v := by
  rcases r with ⟨z, _⟩ | ⟨_, _, t, rfl⟩
  · cases z
  · simp only [Rep]; exact ⟨t, rfl⟩
end
section
variable {Z : Zone}
theorem pat122 (G : ZL Z) : PatAt Z.H 122 C1 0 := ⟨_, _, _, _, _, _, G.K 122 _ rfl, G.K 121 _ rfl, rfl, by simp [C1, Builtin.Re.reRawOf]⟩
theorem pat127 (G : ZL Z) : PatAt Z.H 127 C1 1 := ⟨_, _, _, _, _, _, G.K 127 _ rfl, G.K 126 _ rfl, rfl, by simp [C1, Builtin.Re.reRawOf]⟩
theorem pat132 (G : ZL Z) : PatAt Z.H 132 C3 0 := ⟨_, _, _, _, _, _, G.K 132 _ rfl, G.K 131 _ rfl, rfl, by simp [C3, Builtin.Re.reRawOf]⟩

theorem ev_bytes {A : Around} {env : Env} {O : Addr → Prop} {B : Addr → Obj → Prop} {own : List (Addr × List D)} {ρ : Rho} {b : List UInt8} {k pos} : Ev Z A env O B own ρ (.Constant (.bytes b) k pos) (.bytes b.toArray) := .mk fun s x Q E h =>
  Constant_bytes (h _ s.heap (s.toks + 1) (Grow.refl x.tabs) (Nat.le_succ _) (by simp only [Rep]; exact ⟨_, rfl⟩))
theorem fixE_len : ∀ l : List Nat, (fixE l).length ≤ 2 * l.length := by
  intro l
  fun_induction fixE l <;> simp_all <;> omega
theorem fn_fix_eols (G : ZL Z) {x : PySem.Str} (hx : x.length ≤ 30000) : Fn Z 153 5 [.str x] (.str ⟨(fixE x.cps.toList).toArray⟩) := .mk <| by
  intro A O s vs hA hdep W r
  have r' := r
  simp only [Reps] at r'
  obtain ⟨v1, _, rfl, r1, rfl⟩ := r'
  refine fn_enterP (ns := ["data"]) G.toZoneOk W (dep0 hdep) (G.K 153 _ rfl) rfl (codeRec_of (Frag.In.keeps G.K W.zone) rfl) rfl rfl (by decide) (by decide) (by decide) rfl rfl rfl r (fun _ => rfl) ?_
  intro L h₁ t₁ X Q E k
  have ok := envOk_of X rfl rfl rfl
  have hl : x.cps.toList.length = x.length := by simp [Str.length]
  refine x_ret X (d := .str ⟨(fixE x.cps.toList).toArray⟩) (ev_resub (kind := 0) (R := [13, 10]) (L := x.cps.toList) (G := fun p => fixE (x.cps.toList.drop p)) (pat132 G) (ev_g G.toZK ok rfl) (evs_cons (Ev.vstr (ev_g G.toZK ok rfl)) (evs_cons (ev_local rfl) evs_nil)) (fun _ _ _ r => str_txv r) (fun _ _ _ r => str_txv r) (fun _ _ _ r => txv_str r) (by simp) (by decide) (by omega) (turn3 _) fun _ => join0) fun v h' tk X' r' => k v h' tk _ _ X' r'
theorem fn_quote_periods (G : ZL Z) {l : List Nat} (hx : l.length ≤ 60000) (h8 : ∀ c ∈ l, c < 256) : Fn Z 146 5 [.bytes ((l.map (·.toUInt8)).toArray)] (.bytes (((dotG l 0).map (·.toUInt8)).toArray)) := .mk <| by
  intro A O s vs hA hdep W r
  have r' := r
  simp only [Reps] at r'
  obtain ⟨v1, _, rfl, r1, rfl⟩ := r'
  refine fn_enterP (ns := ["bindata"]) G.toZoneOk W (dep0 hdep) (G.K 146 _ rfl) rfl (codeRec_of (Frag.In.keeps G.K W.zone) rfl) rfl rfl (by decide) (by decide) (by decide) rfl rfl rfl r (fun _ => rfl) ?_
  intro L h₁ t₁ X Q E k
  have ok := envOk_of X rfl rfl rfl
  refine x_ret X (d := .bytes (((dotG l 0).map (·.toUInt8)).toArray)) (ev_resub (kind := 1) (R := [46, 46]) (L := l) (G := dotG l) (pat127 G) (ev_g G.toZK ok rfl) (evs_cons ev_bytes (evs_cons (ev_local rfl) evs_nil)) (fun _ _ _ r => bytes_txv (by decide) r) (fun _ _ _ r => bytes_txv h8 r) (fun _ _ _ r => txv_bytes r) (by simp) (by decide) (by omega) (turn1 _ (by omega)) fun _ => join1) fun v h' tk X' r' => k v h' tk _ _ X' r'
theorem fn_quotedata (G : ZL Z) {x : PySem.Str} (hx : x.length ≤ 30000) : Fn Z 139 10 [.str x] (.str ⟨(dotG (fixE x.cps.toList) 0).toArray⟩) := .mk <| by
  intro A O s vs hA hdep W r
  have r' := r
  simp only [Reps] at r'
  obtain ⟨v1, _, rfl, r1, rfl⟩ := r'
  refine fn_enterP (ns := ["data"]) G.toZoneOk W (dep0 hdep) (G.K 139 _ rfl) rfl (codeRec_of (Frag.In.keeps G.K W.zone) rfl) rfl rfl (by decide) (by decide) (by decide) rfl rfl rfl r (fun _ => rfl) ?_
  intro L h₁ t₁ X Q E k
  have ok := envOk_of X rfl rfl rfl
  have hl : x.cps.toList.length = x.length := by simp [Str.length]
  have hl2 := fixE_len x.cps.toList
  refine x_ret X (d := .str ⟨(dotG (fixE x.cps.toList) 0).toArray⟩) (ev_resub (kind := 0) (R := [46, 46]) (L := fixE x.cps.toList) (G := dotG (fixE x.cps.toList)) (pat122 G) (ev_g G.toZK ok rfl) (evs_cons ev_str (evs_cons (ev_resub (kind := 0) (d := .str ⟨(fixE x.cps.toList).toArray⟩) (R := [13, 10]) (L := x.cps.toList) (G := fun p => fixE (x.cps.toList.drop p)) (pat132 G) (ev_g G.toZK ok rfl) (evs_cons (Ev.vstr (ev_g G.toZK ok rfl)) (evs_cons (ev_local rfl) evs_nil)) (fun _ _ _ r => str_txv r) (fun _ _ _ r => str_txv r) (fun _ _ _ r => txv_str r) (by simp) (by decide) (by omega) (turn3 _) fun _ => join0) evs_nil)) (fun _ _ _ r => str_txv r) (fun _ _ _ r => str_txv r) (fun _ _ _ r => txv_str r) (by simp) (by decide) (by omega) (turn1 _ (by omega)) fun _ => join0) fun v h' tk X' r' => k v h' tk _ _ X' r'
end
end Mine

open PySem PySem.W PyProof.Rows PySem.Calls
set_option Elab.async false
set_option linter.all false
set_option maxRecDepth 100000
namespace Mine
theorem fx_mem : ∀ (l : List Nat) (p : Bool) (c : Nat), c ∈ fx p l → c ∈ l ∨ c = 10 ∨ c = 13
  | [], p, c, h => by simp [fx] at h
  | k :: l, p, c, h => by
    rw [fx] at h
    have ih := fun p => fx_mem l p c
    split at h
    · split at h
      · exact (ih _ h).imp (fun q => .tail _ q) id
      · simp only [List.mem_cons] at h
        rcases h with h | h | h
        · exact .inr (.inr h)
        · exact .inr (.inl h)
        · exact (ih _ h).imp (fun q => .tail _ q) id
    · split at h
      · simp only [List.mem_cons] at h
        rcases h with h | h | h
        · exact .inr (.inr h)
        · exact .inr (.inl h)
        · exact (ih _ h).imp (fun q => .tail _ q) id
      · rcases List.mem_cons.mp h with rfl | h
        · exact .inl (.head _)
        · exact (ih _ h).imp (fun q => .tail _ q) id
theorem fx_len : ∀ (l : List Nat) (p : Bool), (fx p l).length ≤ 2 * l.length
  | [], p => by simp [fx]
  | k :: l, p => by
    have ih := fx_len l
    rw [fx]
    split
    · split
      · have := ih false; simp only [List.length_cons]; omega
      · have := ih false; simp only [List.length_cons]; omega
    · split
      · have := ih true; simp only [List.length_cons]; omega
      · have := ih false; simp only [List.length_cons]; omega
theorem join_fits (z : PySem.Str) (k : Nat) (l : List PySem.Str) (h : ∀ x ∈ l, x.length ≤ k) (hb : l.length * (k + z.length) ≤ 30000) : JoinOk z l = true := by
  have key : ∀ (l : List PySem.Str) (acc : Nat), (∀ x ∈ l, x.length ≤ k) → l.foldl (fun a x => a + x.length + z.length) acc ≤ acc + l.length * (k + z.length) := fun l => by
    induction l with
    | nil => intro acc _; simp
    | cons x l ih =>
      intro acc h
      have h1 := h x (.head _)
      have h2 := ih (acc + x.length + z.length) fun y hy => h y (.tail _ hy)
      rw [List.foldl_cons, List.length_cons, Nat.add_mul, Nat.one_mul, Nat.add_comm (l.length * _), ← Nat.add_assoc, ← Nat.add_assoc]
      exact Nat.le_trans h2 (Nat.add_le_add_right (Nat.add_le_add_right (Nat.add_le_add_left h1 acc) _) _)
  have := key l 0 h
  unfold JoinOk
  rw [List.foldl_toArray]
  rw [Bool.not_eq_true', show ∀ n, Builtin.Str.tooLong n = decide (n > 16777216) from fun n => rfl, decide_eq_false_iff_not]
  omega
noncomputable def itemsL (cs : List Int) : List Item := (List.range 6).map (itemAt cs)
noncomputable def ltS (cs : List Int) : PySem.Str := Str.join "~" ("." :: (itemsL cs).map Item.row)
noncomputable def thS (cs : List Int) : PySem.Str := Str.join "~" (".." :: (itemsL cs).map Item.sent)
section
variable (cs : List Int)
theorem items_ok : ∀ i ∈ itemsL cs, ItemOk i := fun i hi => by
  obtain ⟨j, _, rfl⟩ := List.mem_map.mp hi
  exact item_ok cs j
theorem rows_small : ∀ x ∈ (("." : PySem.Str) :: (itemsL cs).map Item.row), x.length ≤ 600 := fun x hx => by
  rcases List.mem_cons.mp hx with rfl | hx
  · decide
  · obtain ⟨i, hi, rfl⟩ := List.mem_map.mp hx
    have h := items_ok cs i hi
    exact (row_len h.d h.nm h.e).1
theorem sents_small : ∀ x ∈ ((".." : PySem.Str) :: (itemsL cs).map Item.sent), x.length ≤ 600 := fun x hx => by
  rcases List.mem_cons.mp hx with rfl | hx
  · decide
  · obtain ⟨i, hi, rfl⟩ := List.mem_map.mp hx
    have h := items_ok cs i hi
    exact (sent_len h.d h.nm).1
theorem items_len : (itemsL cs).length = 6 := by unfold itemsL; rw [List.length_map, List.length_range]
theorem lt_small : (ltS cs).length ≤ 4300 := by
  have := join_len "~" 600 _ (rows_small cs)
  have e : (Str.ofString "~").length = 1 := by decide
  rw [List.length_cons, List.length_map, items_len, e] at this
  unfold ltS
  omega
theorem th_small : (thS cs).length ≤ 4300 := by
  have := join_len "~" 600 _ (sents_small cs)
  have e : (Str.ofString "~").length = 1 := by decide
  rw [List.length_cons, List.length_map, items_len, e] at this
  unfold thS
  omega
theorem lt_asc : ∀ c ∈ (ltS cs).cps.toList, c < 128 := join_mem "~" 128 (by decide) _ fun x hx c hc => by
  rcases List.mem_cons.mp hx with rfl | hx
  · exact (show ∀ c ∈ (Str.ofString ".").cps.toList, c < 128 by decide) c hc
  · obtain ⟨i, hi, rfl⟩ := List.mem_map.mp hx
    have h := items_ok cs i hi
    have := (row_len h.d h.nm h.e).2 c hc
    omega
theorem th_asc : ∀ c ∈ (thS cs).cps.toList, c < 128 := join_mem "~" 128 (by decide) _ fun x hx c hc => by
  rcases List.mem_cons.mp hx with rfl | hx
  · exact (show ∀ c ∈ (Str.ofString "..").cps.toList, c < 128 by decide) c hc
  · obtain ⟨i, hi, rfl⟩ := List.mem_map.mp hx
    have h := items_ok cs i hi
    have := (sent_len h.d h.nm).2 c hc
    omega
theorem lt_sent : dotG (fixE (ltS cs).cps.toList) 0 = (thS cs).cps.toList := letter_sent (by
  intro e
  have := items_len cs
  rw [e] at this; simp at this) (items_ok cs)
theorem th_split : Txt.split (thS cs) "~" = (".." : PySem.Str) :: (itemsL cs).map Item.sent := sent_split (items_ok cs)
theorem rowsD_eq : rowsD cs 6 = (("." : PySem.Str) :: (itemsL cs).map Item.row).map D.str := by
  unfold rowsD itemsL
  rw [List.map_cons, List.map_map, List.map_map]; rfl
theorem sentD_eq : sentD cs 6 = ((".." : PySem.Str) :: (itemsL cs).map Item.sent).map D.str := by
  unfold sentD itemsL
  rw [List.map_cons, List.map_map, List.map_map]; rfl
end
section
variable {Z : Zone} {A : Around} {env : Env} {O : Addr → Prop} {B : Addr → Obj → Prop} {s : Shared} {E : Value → Shared → Prop} {Q : Flow → Shared → Prop} {L : Addr}
noncomputable def rhoH (cs : List Int) : Rho := [("dues", .lst (dueL cs 6)), ("through", .str (thS cs)), ("liars", .int (liarsAt cs 6)), ("sign", .int (sgn cs)), ("sizes", .lst ((List.range 6).map fun i => .int (siz cs i))), ("lower", .int (lov cs)), ("upper", .int (upv cs))]
/-- the letter and its sending, on any rows -/
theorem segC0 (G : ZT Z) {a1 a2 a3 : Addr} {lt th : PySem.Str} {rs ss : List PySem.Str} {ds : List D} {ρr : Rho} (hA : A.handled = none) (hdep : A.depth + 50 < recursionLimit) (hOL : O (lawEnv Z.w.params L).locals) (hq : ∀ q ∈ Z.tl, O q.P) (n1 : ¬ O a1) (n2 : ¬ (O a2 ∨ a2 = a1)) (n3 : ¬ ((O a3 ∨ a3 = a1) ∨ a3 = a2))
    (jl : Txt.join "~" rs = lt) (jt : Txt.join "~" ss = th) (okl : JoinOk "~" rs = true) (okt : JoinOk "~" ss = true) (hlt : lt.length ≤ 4300) (hth : th.length ≤ 4300) (al : ∀ c ∈ lt.cps.toList, c < 128) (at_ : ∀ c ∈ th.cps.toList, c < 128) (hs : dotG (fixE lt.cps.toList) 0 = th.cps.toList)
    (X : St Z (lawEnv Z.w.params L) (fun b => ((O b ∨ b = a1) ∨ b = a2) ∨ b = a3) B [(a3, ds), (a2, ss.map .str), (a1, rs.map .str)] (("rows", .val (.ref a1)) :: ("sent", .val (.ref a2)) :: ("dues", .val (.ref a3)) :: ρr) s)
    (k : ∀ h' tk, St Z (lawEnv Z.w.params L) O B [] (("rows", .lst (rs.map .str)) :: ("sent", .lst (ss.map .str)) :: ("dues", .lst ds) :: ("through", .str th) :: ("letter", .str lt) :: ("rows", .val (.ref a1)) :: ("sent", .val (.ref a2)) :: ("dues", .val (.ref a3)) :: ρr) { s with heap := h', toks := tk } → Q .next { s with heap := h', toks := tk }) :
    Xs Z A (((lawBody Z.w.params).drop 9).take 3) (lawEnv Z.w.params L) Q E s := by
  have ok := lawOk Z.w.params L
  have lf : (fixE lt.cps.toList).length ≤ 8600 := by
    rw [fixE_fx]
    have := fx_len lt.cps.toList false
    have e : lt.cps.toList.length = lt.length := by simp [Str.length]
    omega
  have af : ∀ c ∈ fixE lt.cps.toList, c < 128 := fun c hc => by
    rw [fixE_fx] at hc
    rcases fx_mem _ _ c hc with h | h | h
    · exact al c h
    · omega
    · omega
  have ethr : (⟨(dotG (fixE lt.cps.toList) 0).toArray⟩ : PySem.Str) = th := str_eq (by rw [hs])
  refine x_assign (d := .str lt) X (Ev.cast (ev_joinO (a := a1) ev_str (ev_local rfl) (.tail _ (.tail _ (.head _))) okl) (by rw [jl])) asg_store fun h₁ t₁ X₁ => ?_
  refine x_assign (d := .str th) X₁ (Ev.cast (ev_fn (G.K 139 _ rfl) rfl (fn_quotedata G.toZL (x := lt) (by omega)) hA (dep hdep) (ev_g G.toZK ok rfl) (evs_cons (ev_local rfl) evs_nil)) (by rw [ethr])) asg_store fun h₂ t₂ X₂ => ?_
  refine x_iff X₂ (Tst.cast (tst_or (x := false) (y := false) ?_ fun _ => ?_) rfl) fun h₃ t₃ X₃ => x_nil (x_nil ?_)
  · refine Tst.cast (tst_cmp (ev_local rfl) (ev_joinO (a := a2) ev_str (ev_local rfl) (.tail _ (.head _)) okt) op_nes) ?_
    rw [jt]; simp
  · refine Tst.cast (tst_cmp (ev_fn (G.K 146 _ rfl) rfl (fn_quote_periods G.toZL (l := fixE lt.cps.toList) (by omega) fun c hc => by have := af c hc; omega) hA (dep hdep) (ev_g G.toZK ok rfl) (evs_cons ?_ evs_nil)) (ev_encode (ev_local rfl) ev_str at_ (by simp only [sizeLine]; omega)) op_neB) ?_
    · exact ev_encode (x := ⟨(fixE lt.cps.toList).toArray⟩) (ev_fn (G.K 153 _ rfl) rfl (fn_fix_eols G.toZL (x := lt) (by omega)) hA (dep hdep) (ev_g G.toZK ok rfl) (evs_cons (ev_local rfl) evs_nil)) ev_str (fun c hc => af c (by simpa using hc)) (by
        show (fixE lt.cps.toList).toArray.size ≤ sizeLine
        simp only [List.size_toArray, sizeLine]
        omega)
    · rw [hs]
      unfold asciiB
      simp
  · have X₄ := X₃.share (x := "dues") (O := fun b => (O b ∨ b = a1) ∨ b = a2) rfl rfl (fun b => Iff.rfl) n3 (.inl (.inl hOL)) (fun p hp => by
      simp only [List.mem_cons, List.not_mem_nil, or_false] at hp
      rcases hp with rfl | rfl
      · exact .inr rfl
      · exact .inl (.inr rfl)) fun q hq' => .inl (.inl (hq q hq'))
    have X₅ := X₄.share (x := "sent") (O := fun b => O b ∨ b = a1) rfl rfl (fun b => Iff.rfl) n2 (.inl hOL) (fun p hp => by
      simp only [List.mem_cons, List.not_mem_nil, or_false] at hp
      subst hp
      exact .inr rfl) fun q hq' => .inl (hq q hq')
    have X₆ := X₅.share (x := "rows") (O := O) rfl rfl (fun b => Iff.rfl) n1 hOL (fun p hp => nomatch hp) hq
    exact k _ _ X₆
theorem segC (G : ZT Z) {cs : List Int} {a1 a2 a3 : Addr} (hA : A.handled = none) (hdep : A.depth + 50 < recursionLimit) (hOL : O (lawEnv Z.w.params L).locals) (hq : ∀ q ∈ Z.tl, O q.P) (n1 : ¬ O a1) (n2 : ¬ (O a2 ∨ a2 = a1)) (n3 : ¬ ((O a3 ∨ a3 = a1) ∨ a3 = a2))
    (X : St Z (lawEnv Z.w.params L) (fun b => ((O b ∨ b = a1) ∨ b = a2) ∨ b = a3) B (ownL cs a1 a2 a3 6) (rhoL cs a1 a2 a3 (roomAt cs 6) (liarsAt cs 6)) s)
    (k : ∀ h' tk, St Z (lawEnv Z.w.params L) O B [] (rhoH cs) { s with heap := h', toks := tk } → Q .next { s with heap := h', toks := tk }) :
    Xs Z A (((lawBody Z.w.params).drop 9).take 3) (lawEnv Z.w.params L) Q E s := by
  have e1 : (Str.ofString "~").length = 1 := by decide
  have hl : ∀ f : Item → PySem.Str, ∀ x : PySem.Str, (x :: (itemsL cs).map f).length * (600 + (Str.ofString "~").length) ≤ 30000 := fun f x => by
    rw [List.length_cons, List.length_map, items_len, e1]; decide
  have eo : ownL cs a1 a2 a3 6 = [(a3, dueL cs 6), (a2, ((".." : PySem.Str) :: (itemsL cs).map Item.sent).map .str), (a1, (("." : PySem.Str) :: (itemsL cs).map Item.row).map .str)] := by
    unfold ownL; rw [rowsD_eq, sentD_eq]
  rw [eo] at X
  have X' := X.sub (ρ' := ("rows", .val (.ref a1)) :: ("sent", .val (.ref a2)) :: ("dues", .val (.ref a3)) :: [("liars", .int (liarsAt cs 6)), ("sign", .int (sgn cs)), ("sizes", .lst ((List.range 6).map fun i => .int (siz cs i))), ("lower", .int (lov cs)), ("upper", .int (upv cs))]) ⟨rfl, rfl, rfl, rfl, rfl, rfl, rfl, rfl, trivial⟩
  exact segC0 G hA hdep hOL hq n1 n2 n3 (StrLaws.glued_eq_join _ _) (StrLaws.glued_eq_join _ _) (join_fits _ 600 _ (rows_small cs) (hl _ _)) (join_fits _ 600 _ (sents_small cs) (hl _ _)) (lt_small cs) (th_small cs) (lt_asc cs) (th_asc cs) (lt_sent cs) X' fun h' tk X₂ => k h' tk (X₂.sub ⟨rfl, rfl, rfl, rfl, rfl, rfl, rfl, trivial⟩)
end
end Mine

open PySem PySem.W PyProof.Rows PySem.Calls
set_option Elab.async false
set_option linter.all false
set_option maxRecDepth 100000
namespace Mine
section
variable {Z : Zone} {A : Around} {env : Env} {O : Addr → Prop} {B : Addr → Obj → Prop} {s : Shared} {E : Value → Shared → Prop} {Q : Flow → Shared → Prop} {L : Addr}
theorem slice_any {value : PySem.Expr} {lower upper : Option PySem.Expr} {p pos : Pos} {prog : Program} {w : World} {Q : Value → Shared → Prop}
    (h : wpAny (model prog w) A (eval value env) (fun o s₁ => wpAny (model prog w) A (evalPart lower env) (fun vl s₂ => wpAny (model prog w) A (evalPart upper env) (fun vu s₃ =>
      ∃ l items lo hi, o = .ref l ∧ s₃.heap.IsList l items ∧ items.size ≤ sizeLine ∧ IsPart vl lo ∧ IsPart vu hi ∧
        Q (.ref (s₃.heap.objs.size + 1)) { s₃ with heap := (s₃.heap.push { cls := .type "slice", data := .fields #[vl, vu, .none] }).push { cls := .type "list", data := .seq (slicePick items lo hi none) } }) E s₂) E s₁) E s) :
    wpAny (model prog w) A (eval (.Subscript value (.Slice lower upper none p) pos) env) Q E s := by
  refine PyProof.Rows.Subscript_ (wpAny_mono h (fun o s₁ h₁ => wpAny_Slice (wpAny_mono h₁ (fun vl s₂ h₂ => wpAny_mono h₂ (fun vu s₃ h₃ => ?_) fun _ _ e => e) fun _ _ e => e)) fun _ _ e => e)
  obtain ⟨l, items, lo, hi, rfl, hl, hsz, pl, pu, hQ⟩ := h₃
  rw [evalPart_none]
  refine wpAny_pure (tail_any (hl.push _).typeIs list_getitem_lookup (wpAny_getItem_list_slice (hl.push _) (Heap.IsSliceOf.new ..) pl pu .none (by simp) ?_ hsz) rfl)
  rw [Heap.size_push]
  exact hQ
theorem ev_fromC {own : List (Addr × List D)} {ρ : Rho} {e l : PySem.Expr} {p pos : Pos} {ds : List D} {n : Nat} (h1 : Ev Z A env O B own ρ e (.lst ds)) (h2 : Ev Z A env O B own ρ l (.int n)) (hz : ds.length ≤ sizeLine) :
    Ev Z A env O B own ρ (.Subscript e (.Slice (some l) none none p) pos) (.lst (ds.drop n)) := .mk fun s X Q E k =>
  slice_any (h1.run s X _ _ fun v h₁ t₁ g₁ le₁ r₁ => by
    rw [evalPart_some]
    refine h2.run _ (X.grow g₁ le₁) _ _ fun v2 h₂ t₂ g₂ le₂ r₂ => ?_
    rw [evalPart_none]
    have X₂ := (X.grow g₁ le₁).grow g₂ le₂
    have r₁' := r₁.grow g₂ le₂
    simp only [Rep] at r₁' r₂
    obtain ⟨a, vs, rfl, no, hl, rs⟩ := r₁'
    obtain ⟨u, rfl⟩ := r₂
    refine wpAny_pure ⟨a, vs.toArray, some n, none, rfl, hl, by simpa [rs.length] using hz, .int _ _, .none, ?_⟩
    rw [slicePick_from']
    dsimp only
    have g₃ := Grow.push (Z := Z) (O := O) X₂.tabs { cls := .type "slice", data := .fields #[.int n u, .none, .none] }
    have X₃ := X₂.grow g₃ (Nat.le_refl _)
    have g₄ := Grow.push (Z := Z) (O := O) X₃.tabs { cls := .type "list", data := .seq (vs.drop n).toArray }
    refine k (.ref (h₂.objs.size + 1)) _ t₂ (((g₁.trans g₂).trans g₃).trans g₄) (Nat.le_trans le₁ le₂) ?_
    simp only [Rep]
    refine ⟨_, vs.drop n, rfl, ?_, ⟨{ cls := .type "list", data := .seq (vs.drop n).toArray }, ?_, rfl, 0, rfl⟩, ((rs.drop n).grow g₃ (Nat.le_refl _)).grow g₄ (Nat.le_refl _)⟩
    · have := X₃.wd.fresh
      rwa [show ({ heap := h₂.push { cls := .type "slice", data := .fields #[.int n u, .none, .none] }, gens := s.gens, drawn := s.drawn, toks := t₂, os := s.os } : Shared).heap.objs.size = h₂.objs.size + 1 from Heap.size_push ..] at this
    · rw [show h₂.objs.size + 1 = (h₂.push { cls := .type "slice", data := .fields #[.int n u, .none, .none] }).objs.size from (Heap.size_push ..).symm]
      exact Heap.get?_push_size _ rfl)
theorem sents_drop (cs : List Int) : ((Txt.split (thS cs) "~").map D.str).drop 1 = (List.range 6).map fun i => D.str (itemAt cs i).sent := by
  rw [th_split, List.map_cons, List.drop_one, List.tail_cons, itemsL, List.map_map, List.map_map]; rfl
theorem nth_sents (cs : List Int) {i : Nat} (h : i < 6) : nth ((List.range 6).map fun i => D.str (itemAt cs i).sent) i = .str (itemAt cs i).sent := by
  unfold nth
  rw [List.getD_eq_getElem?_getD, List.getElem?_map, List.getElem?_range h]; rfl
theorem segD (G : ZT Z) {cs : List Int} {fs : List Env} {rest : List Stmt} (hA : A.handled = none) (hdep : A.depth + 50 < recursionLimit) (hun : A.units + 100 < cLine) (hfr : A.frames = some fs) (K : FrOk O s.heap fs) (hFB : ∀ b ∈ frs fs, ∀ o, ¬ B b o)
    (X : St Z (lawEnv Z.w.params L) O B [] (rhoH cs) s)
    (k : ∀ h' tk, St Z (lawEnv Z.w.params L) O B [] (("heard", .lst (dueL cs 6)) :: rhoH cs) { s with heap := h', toks := tk } → wpC (model Z.prog Z.w) A (execs ((lawBody Z.w.params).drop 13) (lawEnv Z.w.params L)) Q E { s with heap := h', toks := tk }) :
    wpC (model Z.prog Z.w) A (execs ((lawBody Z.w.params).drop 12) (lawEnv Z.w.params L)) Q E s := by
  have ok := lawOk Z.w.params L
  have e6 : ((List.range 6).map fun i => D.str (itemAt cs i).sent).length = 6 := by rw [List.length_map, List.length_range]
  have hth := th_small cs
  refine x_compC (N := ((List.range 6).map fun i => D.str (itemAt cs i).sent).length) fs (duesD cs) [] (fun (i : Nat) => [("reply", nth ((List.range 6).map fun i => D.str (itemAt cs i).sent) i), ("k", .int i)]) X K hFB
    (it_enum (ds := (List.range 6).map fun i => D.str (itemAt cs i).sent) hA (ev_b G.toZK ok rfl rfl) (Ev.cast (ev_fromC (n := 1) (ev_split (ev_local rfl) ev_str (by decide) (by simp only [sizeLine]; omega)) ev_int (by
      rw [List.length_map, th_split, List.length_cons, List.length_map, items_len]; decide)) (by rw [sents_drop]))) (by rw [e6]; decide) rfl (by decide) rfl (by decide) (fun C x d hg => by cases hg) (fun x c h => by cases h) (fun i => trivial)
    (fun i hi C O' B' own' hO => asg_tup hA (asgs_cons asg_name (asgs_cons asg_name asgs_nil))) (fun i hi C O' B' own' s' hO K' hB' X' Q' kk => ?_) (fun O' B' => asg_name) fun h₂ t₂ X₂ => ?_
  · rw [e6] at hi
    rw [nth_sents cs hi] at X'
    have hit := item_ok cs i
    have hsl := sent_len hit.d hit.nm
    refine wpC_callF X' (X'.zone _ _ (G.K 174 _ rfl)) rfl (ev_g G.toZK ⟨rfl, rfl, rfl⟩ rfl) (evs_cons (ev_local rfl) (evs_cons (ev_bin ev_str (ev_strint (ev_b G.toZK ⟨rfl, rfl, rfl⟩ rfl rfl) (ev_local rfl) (by omega)) (op_adds ?_)) evs_nil)) fun h₃ t₃ vs' X₃ g₃ le₃ r₃ => ?_
    · have h1 := num_len (n := (i : Int)) (by omega) (by omega)
      have e : (Str.ofString "host").length = 4 := by decide
      simp only [sizeLine]
      have e2 : (Str.ofString (toString (i : Int))).length ≤ 20 := h1
      omega
    · have hFt : ∀ b ∈ frs fs, ¬ isTab Z b := fun b hb => K'.notTab X'.tabs hb
      refine wpC_call (call_heard G (x := (itemAt cs i).sent) (host := hostS i) (Nat.le_trans hsl.1 (by decide)) (fun c hc => Nat.lt_trans (hsl.2 c hc).2 (by decide)) hA (dep hdep) hun hfr (K'.slots (fun b h => h) (SlotsIn.keep fun b o hb e => g₃.1 b o (hFt b hb) e)) X₃.wd r₃ fun v h₄ t₄ g₄ le₄ r₄ => ?_)
      rw [heard_due] at r₄
      exact kk v h₄ t₄ ((GrowS.of_grow g₃ hFt).trans g₄) (Nat.le_trans le₃ le₄) r₄
  · refine k _ _ ?_
    have e : (List.range ((List.range 6).map fun i => D.str (itemAt cs i).sent).length).map (duesD cs) = dueL cs 6 := by rw [e6]; rfl
    rw [e] at X₂
    exact X₂
end
end Mine

open PySem PySem.W PyProof.Rows PySem.Calls
set_option Elab.async false
set_option linter.all false
set_option maxRecDepth 100000
namespace Mine
theorem strOk_of {x : PySem.Str} (h : ∀ c ∈ x.cps.toList, c < 126) : PyData.strOk x = true := by
  unfold PyData.strOk
  rw [← Array.all_toList, List.all_eq_true]
  intro c hc
  exact decide_eq_true (Nat.lt_trans (h c hc) (by decide))
theorem head_facts : dresses.all (fun d => PyData.strOk (Txt.item d 0)) = true := by decide +kernel
theorem bad_heads : ((List.range 23).all fun i => !(Builtin.Str.occurrences "rpv" (Txt.item (bads.getD i Str.empty) 0) 0 (Str.ofString "rpv").length 1).isEmpty) = true := by decide +kernel
theorem host_out : ((List.range 6).all fun i => (Builtin.Str.occurrences "rpv" (hostS i) 0 (Str.ofString "rpv").length 1).isEmpty) = true := by decide +kernel
theorem host_ok : ((List.range 6).all fun i => PyData.strOk (hostS i)) = true := by decide +kernel
section
variable (cs : List Int)
theorem due_ok {i : Nat} (hi : i < 6) : (duesD cs i).py = true ∧ (toPy (duesD cs i)).canLay0 = true ∧ (toPy (duesD cs i)).depth = 1 := by
  have hit := item_ok cs i
  have h1 := List.all_eq_true.mp head_facts _ hit.d
  have h2 : PyData.strOk (itemAt cs i).sent = true := strOk_of fun c hc => ((sent_len hit.d hit.nm).2 c hc).2
  have h3 := List.all_eq_true.mp host_ok i (List.mem_range.mpr hi)
  have h4 : ∀ b : Bool, PyData.strOk (if b = true then "" else (itemAt cs i).sent) = true := fun b => by
    cases b
    · exact h2
    · exact (show PyData.strOk "" = true by decide +kernel)
  unfold duesD
  split
  · unfold dueD
    refine ⟨rfl, ?_, rfl⟩
    show (PyData.strOk (Txt.item (dressAt cs i) 0) && (PyData.strOk _ && true)) = true
    rw [show PyData.strOk (Txt.item (dressAt cs i) 0) = true from h1, h4]; rfl
  · unfold fineD
    refine ⟨rfl, ?_, rfl⟩
    show (PyData.strOk (hostS i) && true) = true
    rw [h3]; rfl
theorem dueL_ok : (D.lst (dueL cs 6)).py = true ∧ SeqAt.shaped (toPy (.lst (dueL cs 6))) = true ∧ PyData.eqv (toPy (.lst (dueL cs 6))) (toPy (.lst (dueL cs 6))) = true := by
  have e : dueL cs 6 = [duesD cs 0, duesD cs 1, duesD cs 2, duesD cs 3, duesD cs 4, duesD cs 5] := rfl
  obtain ⟨p0, c0, d0⟩ := due_ok cs (i := 0) (by decide)
  obtain ⟨p1, c1, d1⟩ := due_ok cs (i := 1) (by decide)
  obtain ⟨p2, c2, d2⟩ := due_ok cs (i := 2) (by decide)
  obtain ⟨p3, c3, d3⟩ := due_ok cs (i := 3) (by decide)
  obtain ⟨p4, c4, d4⟩ := due_ok cs (i := 4) (by decide)
  obtain ⟨p5, c5, d5⟩ := due_ok cs (i := 5) (by decide)
  rw [e]
  have hc : (toPy (.lst [duesD cs 0, duesD cs 1, duesD cs 2, duesD cs 3, duesD cs 4, duesD cs 5])).canLay0 = true := by
    simp only [toPy, toPys, PyData.canLay0, PyData.canLayAll0, c0, c1, c2, c3, c4, c5, Bool.and_self]
  refine ⟨by simp only [D.py, D.pys, p0, p1, p2, p3, p4, p5, Bool.and_self], ?_, SeqAt.eqv_refl _ hc⟩
  unfold SeqAt.shaped
  rw [hc, Bool.true_and, decide_eq_true_eq]
  simp only [toPy, toPys, PyData.depth, PyData.depthAll, d0, d1, d2, d3, d4, d5]
  decide
noncomputable def readD : List D := (readL cs).map fun q => D.tup [.int (q.1 : Nat), .int q.2]
theorem nth_due {i : Nat} (h : i < 6) : nth (dueL cs 6) i = duesD cs i := by
  unfold nth dueL
  rw [List.getD_eq_getElem?_getD, List.getElem?_map, List.getElem?_range h]; rfl
end
section
variable {Z : Zone} {A : Around} {env : Env} {O : Addr → Prop} {B : Addr → Obj → Prop} {s : Shared} {E : Value → Shared → Prop} {Q : Flow → Shared → Prop} {L : Addr}
noncomputable def rhoR (cs : List Int) : Rho := [("read", .lst (readD cs)), ("liars", .int (liarsAt cs 6)), ("sign", .int (sgn cs)), ("lower", .int (lov cs)), ("upper", .int (upv cs))]
theorem segE1 (G : ZT Z) {cs : List Int} (hA : A.handled = none) (hun : A.units + 100 < cLine) (X : St Z (lawEnv Z.w.params L) O B [] (("heard", .lst (dueL cs 6)) :: rhoH cs) s)
    (k : ∀ h' tk, St Z (lawEnv Z.w.params L) O B [] (rhoR cs) { s with heap := h', toks := tk } → Q .next { s with heap := h', toks := tk }) :
    Xs Z A (((lawBody Z.w.params).drop 13).take 2) (lawEnv Z.w.params L) Q E s := by
  have ok := lawOk Z.w.params L
  obtain ⟨q1, q2, q3⟩ := dueL_ok cs
  refine x_iff X (Tst.cast (tst_cmp (ev_local rfl) (ev_local rfl) (op_neD (by omega) q1 q1 q2 q2)) (by rw [q3]; rfl)) fun h₁ t₁ X₁ => x_nil ?_
  have e6 : min ((List.range 6).map fun i => D.int (siz cs i)).length (dueL cs 6).length = 6 := by
    rw [List.length_map, List.length_range]; unfold dueL; rw [List.length_map, List.length_range]; rfl
  refine x_comp (fun i => !spo cs i) (fun i => .tup [.int (siz cs i), .int (toldAt cs i)]) [] (fun i => [("one", nth (dueL cs 6) i), ("size", nth ((List.range 6).map fun i => D.int (siz cs i)) i)]) X₁
    (it_zip hA (ev_b G.toZK ok rfl rfl) (ev_local rfl) (ev_local rfl)) (by rw [e6]; decide) rfl (by decide) rfl (by decide) (fun C x d hg => by cases hg) (fun x c h => by cases h) (fun i => trivial)
    (fun i hi C O' B' own' hO => asg_tup hA (asgs_cons asg_name (asgs_cons asg_name asgs_nil))) (fun i hi C O' B' own' hO => ?_) (fun i hi hp C O' B' own' hO => ?_) (fun O' B' => asg_name) fun h₂ t₂ X₂ => ?_
  · rw [e6] at hi
    rw [nth_due cs hi]
    cases hs : spo cs i with
    | true =>
      have e : duesD cs i = dueD cs i := by unfold duesD; rw [hs]; rfl
      rw [e]
      refine tsts_one (Tst.cast (tst_cmp (ev_itemT (k := 0) (d := .str (Txt.item (dressAt cs i) 0)) (ev_local rfl) ev_int (by decide) (by decide) rfl) ev_str op_nins) ?_)
      have f := List.all_eq_true.mp bad_heads (badAt (cel cs (i + 2))) (List.mem_range.mpr (badAt_lt _))
      have ed : dressAt cs i = bads.getD (badAt (cel cs (i + 2))) Str.empty := by unfold dressAt dressOf; rw [hs]; rfl
      rw [ed]
      rw [f]
    | false =>
      have e : duesD cs i = fineD cs i := by unfold duesD; rw [hs]; rfl
      rw [e]
      refine tsts_one (Tst.cast (tst_cmp (ev_itemT (k := 0) (d := .str (hostS i)) (ev_local rfl) ev_int (by decide) (by decide) rfl) ev_str op_nins) ?_)
      have f := List.all_eq_true.mp host_out i (List.mem_range.mpr hi)
      rw [f]; rfl
  · rw [e6] at hi
    have hs : spo cs i = false := by simpa using hp
    have e : duesD cs i = fineD cs i := by unfold duesD; rw [hs]; rfl
    rw [nth_due cs hi, e, nth_sizes cs hi]
    exact ev_tup (evs_cons (ev_local rfl) (evs_cons (ev_itemT (k := 1) (d := .int (toldAt cs i)) (ev_local rfl) ev_int (by decide) (by decide) rfl) evs_nil))
  · have er : ((List.range (min ((List.range 6).map fun i => D.int (siz cs i)).length (dueL cs 6).length)).filter fun i => !spo cs i).map (fun i => D.tup [.int (siz cs i), .int (toldAt cs i)]) = readD cs := by
      rw [e6]; unfold readD readL; rw [List.map_map]; rfl
    rw [er] at X₂
    exact x_nil (k _ _ (X₂.sub ⟨rfl, rfl, rfl, rfl, rfl, trivial⟩))
end
end Mine

open PySem PySem.W PyProof.Rows PySem.Calls
set_option Elab.async false
set_option linter.all false
set_option maxRecDepth 100000
namespace Mine
theorem ins_perm (x : Nat) : ∀ l : List Nat, (ins x l).Perm (x :: l)
  | [] => .refl _
  | y :: l => by
    rw [ins]
    split
    · exact .refl _
    · exact ((ins_perm x l).cons y).trans (.swap x y l)
theorem isort_perm : ∀ l : List Nat, (isort l).Perm l
  | [] => .refl _
  | x :: l => (ins_perm x _).trans ((isort_perm l).cons x)
theorem ins_sorted (x : Nat) : ∀ l : List Nat, l.Pairwise (· ≤ ·) → (ins x l).Pairwise (· ≤ ·)
  | [], _ => by simp [ins]
  | y :: l, h => by
    rw [ins]
    obtain ⟨h1, h2⟩ := List.pairwise_cons.mp h
    split
    · rename_i hxy
      refine List.pairwise_cons.mpr ⟨fun z hz => ?_, h⟩
      rcases List.mem_cons.mp hz with rfl | hz
      · exact hxy
      · exact Nat.le_trans hxy (h1 z hz)
    · rename_i hxy
      refine List.pairwise_cons.mpr ⟨fun z hz => ?_, ins_sorted x l h2⟩
      rcases List.mem_cons.mp ((ins_perm x l).mem_iff.mp hz) with rfl | hz
      · omega
      · exact h1 z hz
theorem isort_sorted : ∀ l : List Nat, (isort l).Pairwise (· ≤ ·)
  | [] => List.Pairwise.nil
  | x :: l => ins_sorted x _ (isort_sorted l)
theorem sorted_is {rs : List Nat} (l : List Int) (hp : l.Perm (rs.map fun (p : Nat) => (p : Int))) (hs : l.Pairwise (· ≤ ·)) : l = (isort rs).map fun (p : Nat) => (p : Int) := by
  refine List.Perm.eq_of_pairwise (le := (· ≤ ·)) (fun a b _ _ h1 h2 => Int.le_antisymm h1 h2) hs ?_ (hp.trans ((isort_perm rs).map _).symm)
  rw [List.pairwise_map]
  exact (isort_sorted rs).imp fun h => by exact_mod_cast h
theorem prodN_take (l : List Nat) {j : Nat} (h : j < l.length) : prodN (l.take (j + 1)) = prodN (l.take j) * l.getD j 0 := by
  rw [List.take_succ_eq_append_getElem h, prodN_append, List.getD_eq_getElem?_getD, List.getElem?_eq_getElem h]
  simp [prodN]
theorem prodN_pos : ∀ l : List Nat, (∀ q ∈ l, 0 < q) → 0 < prodN l
  | [], _ => by decide
  | x :: l, h => Nat.mul_pos (h x (.head _)) (prodN_pos l fun y hy => h y (.tail _ hy))
theorem prodN_part (l : List Nat) (h : ∀ q ∈ l, 0 < q) (j : Nat) : prodN (l.take j) ≤ prodN l := by
  conv => rhs; rw [← List.take_append_drop j l, prodN_append]
  exact Nat.le_mul_of_pos_right _ (prodN_pos _ fun q hq => h q (List.mem_of_mem_drop hq))
section
variable (cs : List Int)
noncomputable def rq (i : Nat) : Nat × Int := (readL cs).getD i (0, 0)
noncomputable def rsL : List Nat := (readL cs).map (·.1)
noncomputable def tops : List Nat := (isort (rsL cs)).drop ((rsL cs).length - (rsL cs).length / 2 + 1)
theorem tops_prod : prodN (tops cs) = topL cs := by
  unfold tops topL topOf rsL readL
  rw [List.map_map]; rfl
theorem rs_big : ∀ q ∈ rsL cs, 101 ≤ q ∧ q ≤ 151 := fun q hq => by
  obtain ⟨p, hp, rfl⟩ := List.mem_map.mp hq
  obtain ⟨i, _, rfl⟩ := List.mem_map.mp hp
  exact siz_big cs i
theorem tops_pos : ∀ q ∈ tops cs, 0 < q := fun q hq => by
  have := rs_big cs q ((isort_perm _).mem_iff.mp (List.mem_of_mem_drop hq))
  omega
theorem top_small : topL cs < 2 ^ 20 := by
  obtain ⟨_, h2, h3⟩ := nums_ok cs
  rcases Nat.lt_or_ge (topL cs) (2 ^ 20) with h | h
  · exact h
  · have : 2 ^ 20 * 2 ^ 20 ≤ topL cs * topL cs := Nat.mul_le_mul h h
    omega
theorem nth_read {i : Nat} (h : i < (readD cs).length) : nth (readD cs) i = .tup [.int ((rq cs i).1 : Nat), .int (rq cs i).2] := by
  have hl : (readD cs).length = (readL cs).length := by unfold readD; rw [List.length_map]
  unfold nth rq
  rw [List.getD_eq_getElem?_getD, List.getD_eq_getElem?_getD, List.getElem?_eq_getElem (by omega : i < (readL cs).length)]
  unfold readD
  rw [List.getElem?_map, List.getElem?_eq_getElem (by omega : i < (readL cs).length)]; rfl
theorem read_len : (readD cs).length ≤ 6 := by
  unfold readD readL
  rw [List.length_map, List.length_map]
  exact Nat.le_trans (List.length_filter_le _ _) (by simp)
theorem read_sizes : ((List.range (readD cs).length).filter fun _ => true).map (fun i => D.int ((rq cs i).1 : Nat)) = ((rsL cs).map fun (p : Nat) => (p : Int)).map D.int := by
  rw [List.filter_eq_self.mpr (fun _ _ => rfl)]
  refine List.ext_getElem (by unfold readD rsL; simp) fun i h1 h2 => ?_
  have hi : i < (readL cs).length := by simpa [rsL] using h2
  simp only [List.getElem_map, List.getElem_range, rsL, rq]
  rw [List.getD_eq_getElem?_getD, List.getElem?_eq_getElem hi]; rfl
theorem nth_tops {j : Nat} (h : j < (((tops cs).map fun (p : Nat) => (p : Int)).map D.int).length) : nth (((tops cs).map fun (p : Nat) => (p : Int)).map D.int) j = .int ((tops cs).getD j 0 : Nat) := by
  have hj : j < (tops cs).length := by simpa using h
  unfold nth
  rw [List.getD_eq_getElem?_getD, List.getElem?_map, List.getElem?_map, List.getD_eq_getElem?_getD, List.getElem?_eq_getElem hj]; rfl
end
section
variable {Z : Zone} {A : Around} {env : Env} {O O' : Addr → Prop} {B : Addr → Obj → Prop} {own : List (Addr × List D)} {ρ : Rho} {s : Shared} {h₁ : Heap} {t₁ : Nat}
theorem Turns.ofWalksL {target : PySem.Expr} {I : Addr} {fp wr : List Addr} {N : Nat} {P : Nat → D} {Pv : Nat → Value → Prop} {S : Nat → Heap → Prop} (W : Walks Z.prog Z.w A I fp wr N Pv S) (ht : ∀ i v (s : Shared) (Q : Unit → Shared → Prop) (E : Value → Shared → Prop), S i s.heap → (∃ T, v = .ref T) → Q () s → wpAny (model Z.prog Z.w) A (letOwnedTupleGo target (.ref I) v) Q E s) (hex : ∀ i h, S i h → ∀ b ∈ wr, ∃ o, h.get? b = some o)
    (hP : ∀ i v, i < N → Pv i v → Rep O' h₁ t₁ (P i) v ∧ ∃ T, v = .ref T) (hwO : ∀ b ∈ wr, O' b) : Turns Z A O' target (.ref I) (· ∈ fp) (· ∈ wr) N P S h₁ t₁ where
  sub := W.sub
  frame := W.frame
  ex := hex
  item := fun i s R Q E hi hS hold hex' hle hR k => by
    refine wpAny_with_toks (n := s.toks) (Nat.le_refl _) (W.item i s _ _ hi hS fun v h' tk hv hS' kk => fun le => ?_)
    obtain ⟨r, hT⟩ := hP i v hi hv
    refine hR v _ (ht (i + 1) v { s with heap := h', toks := tk } _ _ hS' hT ?_)
    refine k v h' tk hS' kk le ?_
    exact Rep.keep (fun b o n e => ⟨kk b o (fun q => n (hwO b q)) (hold b o n e), n⟩) (Nat.le_trans hle le) _ r
  done := fun s Q E hS k => wpAny_with_toks (n := s.toks) (Nat.le_refl _) (W.done s _ _ hS fun h' tk kk => fun le => k h' tk kk le)
  self := W.self
/-- a list of tuples, walked and unpacked -/
theorem it_listT {elts : List PySem.Expr} {tk0 : Nat} {tpos : Pos} {iter : PySem.Expr} {ds : List D} (hA : A.handled = none) (he : Ev Z A env O B own ρ iter (.lst ds)) (hd : ∀ i, i < ds.length → ∃ es, nth ds i = .tup es) : It Z A env O B own ρ (.Tuple elts tk0 tpos) iter ds.length (nth ds) := .mk fun s X Q E k =>
  he.run s X _ _ fun v h₁ t₁ g₁ le₁ r₁ => by
    simp only [Rep] at r₁
    obtain ⟨a, vs, rfl, no, hl, rs⟩ := r₁
    refine wpAny_pyIter_list hl ?_
    obtain ⟨oa, ea, hoa⟩ := id hl
    have fr : h₁.get? h₁.objs.size = none := get_size _
    have kp : ∀ b o, h₁.get? b = some o → (h₁.push { cls := .type "list_iterator", data := .fields #[.ref a, .int 0 0] }).get? b = some o := fun b o e => Heap.get?_push_of_some _ e
    have W := Walks.list (prog := Z.prog) (w := Z.w) hA h₁.objs.size a (get_ne ea fr) vs.toArray
    rw [show vs.toArray.size = ds.length by simpa using rs.length] at W
    refine It.fin (s := s) (Q := Q) (t₂ := t₁) (wr := [h₁.objs.size]) X g₁ le₁ kp (Nat.le_refl _) (fun b hb => ?_) (fun b hb => ?_) (fun O'' hwO hN => Turns.ofWalksL W (fun i v s Q E hS hT hq => ?_) (fun i h hS b hb => ?_) (fun i v hi hv => ?_) hwO) ?_ k
    · simp at hb; subst hb; exact ⟨fr, _, Heap.get?_push_size _ rfl⟩
    · simp only [List.mem_cons, List.not_mem_nil, or_false] at hb
      rcases hb with rfl | rfl
      · exact .inl (by simp)
      · exact .inr ⟨no, _, kp _ _ ea⟩
    · obtain ⟨T, rfl⟩ := hT
      exact wpAny_letOwnedTupleGo_listiter hS.1 hq
    · obtain ⟨⟨o, e, _⟩, _⟩ := hS
      simp at hb; rw [hb]; exact ⟨o, e⟩
    · have r := (rs.nth (i := i) (v := v) (by simpa using hv)).fresh (O' := O'') kp hN (Nat.le_refl _)
      refine ⟨r, ?_⟩
      obtain ⟨es, e⟩ := hd i hi
      rw [e] at r
      simp only [Rep] at r
      obtain ⟨T, _, rfl, _⟩ := r
      exact ⟨T, rfl⟩
    · exact ⟨⟨_, Heap.get?_push_size _ rfl, rfl, rfl⟩, ⟨oa, kp _ _ ea, hoa⟩⟩
end
section
variable {Z : Zone} {A : Around} {env : Env} {O : Addr → Prop} {B : Addr → Obj → Prop} {s : Shared} {E : Value → Shared → Prop} {Q : Flow → Shared → Prop} {L : Addr}
noncomputable def rhoN (cs : List Int) (most whole near : Int) : Rho := ("most", .int most) :: ("whole", .int whole) :: ("near", .int near) :: rhoR cs
theorem segE2 (G : ZT Z) {cs : List Int} (hA : A.handled = none) (X : St Z (lawEnv Z.w.params L) O B [] (rhoR cs) s)
    (k : ∀ h' tk, St Z (lawEnv Z.w.params L) O B [] (rhoN cs (89 * topL cs) 1 0) { s with heap := h', toks := tk } → Q .next { s with heap := h', toks := tk }) :
    Xs Z A (((lawBody Z.w.params).drop 15).take 2) (lawEnv Z.w.params L) Q E s := by
  have ok := lawOk Z.w.params L
  have hl := read_len cs
  have hrl : (readD cs).length = (rsL cs).length := by unfold readD rsL; rw [List.length_map, List.length_map]
  have ht := top_small cs
  refine x_tup X (ev_tup (evs_cons ev_int (evs_cons ev_int (evs_cons ev_int evs_nil)))) (asg_tup hA (asgs_cons asg_name (asgs_cons asg_name (asgs_cons asg_name asgs_nil)))) fun h₁ t₁ X₁ => ?_
  have X₂ := X₁.sub (ρ' := rhoN cs (89 * (prodN ((tops cs).take 0) : Nat)) 1 0) ⟨rfl, rfl, rfl, rfl, rfl, rfl, rfl, rfl, trivial⟩
  refine x_for (N := (((tops cs).map fun (p : Nat) => (p : Int)).map D.int).length) (fun _ => []) (fun j => rhoN cs (89 * (prodN ((tops cs).take j) : Nat)) 1 0) (fun j => ("size", nth (((tops cs).map fun (p : Nat) => (p : Int)).map D.int) j) :: rhoN cs (89 * (prodN ((tops cs).take j) : Nat)) 1 0) (fun i => rfl) X₂
    (it_list hA (Ev.cast (ev_fromC (n := (rsL cs).length - (rsL cs).length / 2 + 1) (ev_sorted (ev_b G.toZK ok rfl rfl) (Ev.cast (ev_comp (fun _ => true) (fun i => .int ((rq cs i).1 : Nat)) [] (fun i => [("port", .int (rq cs i).2), ("size", .int ((rq cs i).1 : Nat))]) (it_listT (ds := readD cs) hA (ev_local rfl) fun i hi => ⟨_, nth_read cs hi⟩) (by simp only [sizeLine]; omega) rfl (by decide) rfl (by decide) (fun C x d hg => by cases hg) (fun x c h => by cases h) (fun i => trivial)
      (fun i hi C O' B' own' hO => by rw [nth_read cs hi]; exact asg_tup hA (asgs_cons asg_name (asgs_cons asg_name asgs_nil))) (fun i hi C O' B' own' hO => tsts_nil) (fun i hi hp C O' B' own' hO => ev_local rfl)) (congrArg D.lst (read_sizes cs))) (by rw [List.length_map]; omega) sorted_is)
      (Ev.castI (ev_bin (ev_bin (ev_len (ev_b G.toZK ok rfl rfl) (ev_local rfl) (by omega)) (ev_bin (ev_len (ev_b G.toZK ok rfl rfl) (ev_local rfl) (by omega)) ev_int (op_div (by decide) (by decide))) op_sub) ev_int op_add) ?_) ?_) ?_))
    (fun j hj O' B' => asg_name) (fun j hj O' B' hO' hB' s X Q E kk => ?_) fun h₆ t₆ X₆ => x_nil (k _ _ ?_)
  · rw [hrl, Int.fdiv_eq_ediv_of_nonneg _ (by decide)]
    exact half_up _
  · rw [List.length_map, List.length_map, (isort_perm _).length_eq]
    simp only [sizeLine]
    omega
  · unfold tops
    rw [List.map_drop, List.map_drop]
  · rw [nth_tops cs hj] at X
    have hj' : j < (tops cs).length := by simpa using hj
    have hp := prodN_part _ (tops_pos cs) j
    rw [tops_prod] at hp
    refine x_aug X (ev_local rfl) (ev_local rfl) (op_imul (intBits_of_lt (k := 64) (by omega) (by omega))) asg_store fun h₃ t₃ X₃ => x_nil (kk _ _ (X₃.sub ⟨?_, rfl, rfl, rfl, rfl, rfl, rfl, rfl, trivial⟩))
    show some (D.int _) = some (D.int _)
    rw [prodN_take _ hj', Int.natCast_mul, Int.mul_assoc]
  · have e : (((tops cs).map fun (p : Nat) => (p : Int)).map D.int).length = (tops cs).length := by simp
    rw [e, List.take_length, tops_prod] at X₆
    exact X₆
end
end Mine

open PySem PySem.W PyProof.Rows PySem.Calls
set_option Elab.async false
set_option linter.all false
set_option maxRecDepth 100000
namespace Mine
section
variable {prog : Program} {w : World} {A : Around} {E : Value → Shared → Prop} {R : Result → Shared → Prop} {s : Shared}
/-- a loop over one clause: what it does with each thing is em -/
noncomputable def LoopBy (prog : Program) (w : World) (A : Around) (e : PySem.Expr) (dep : Nat) (target : PySem.Expr) (em : Value → Env → Sem Unit) : Prop :=
  ∀ (I acc : Value) (cenv : Env) (R : Result → Shared → Prop) (Inv : Nat → Shared → Prop),
    (∀ n s, Inv n s → wpAny (model prog w) A (pyNext I) (fun r s₁ => match r with
      | none => R (.ok .next) s₁
      | some v => wpAny (model prog w) A (letOwnedTupleGo target I v) (fun _ s₁' => wpAny (model prog w) A (assign target cenv v) (fun _ s₂ =>
          wpAny (model prog w) A (em acc cenv) (fun _ s₃ => ∃ m, m < n ∧ Inv m s₃) noE s₂) noE s₁') noE s₁) noE s) →
    ∀ n s, Inv n s → codeAny (model prog w) A (.compLoop e dep I acc cenv) R s
noncomputable def emElt (elt : PySem.Expr) (acc : Value) (env : Env) : Sem Unit := do
  let x ← eval elt env
  let _ ← call (.builtin "list.append") [acc, x]
  pure ()
noncomputable def emIn (e it2 : PySem.Expr) (acc : Value) (env : Env) : Sem Unit := do
  let x ← eval it2 env
  standAt it2.pos
  let x ← foldedSetIterable it2 env x
  let it ← holding [x] (pyIter x)
  let _ ← runOwn (.compStart e 1 it acc env) env
  pure ()
theorem turn_in {elt t1 i1 t2 i2 : PySem.Expr} {scope : Scope} {pos : Pos} (it acc : Value) (env : Env) :
    compTurn (.ListComp elt [⟨t1, i1, [], 0⟩, ⟨t2, i2, [], 0⟩] scope pos) 1 it acc env = (standAt i2.pos >>= fun _ => pyNext it >>= fun r => match r with
      | none => pure (.done .next)
      | some v => letOwnedTupleGo t2 it v >>= fun _ => assign t2 env v >>= fun _ => emElt elt acc env >>= fun _ => again (.compLoop (.ListComp elt [⟨t1, i1, [], 0⟩, ⟨t2, i2, [], 0⟩] scope pos) 1 it acc env)) := rfl
theorem turn_out {elt t1 i1 t2 i2 : PySem.Expr} {scope : Scope} {pos : Pos} (it acc : Value) (env : Env) :
    compTurn (.ListComp elt [⟨t1, i1, [], 0⟩, ⟨t2, i2, [], 0⟩] scope pos) 0 it acc env = (standAt i1.pos >>= fun _ => pyNext it >>= fun r => match r with
      | none => pure (.done .next)
      | some v => letOwnedTupleGo t1 it v >>= fun _ => assign t1 env v >>= fun _ => emIn (.ListComp elt [⟨t1, i1, [], 0⟩, ⟨t2, i2, [], 0⟩] scope pos) i2 acc env >>= fun _ => again (.compLoop (.ListComp elt [⟨t1, i1, [], 0⟩, ⟨t2, i2, [], 0⟩] scope pos) 0 it acc env)) := by
  unfold compTurn emIn
  simp only [bind_assoc, pure_bind]
  rfl
theorem loopBy_of {e target iter : PySem.Expr} {dep : Nat} {em : Value → Env → Sem Unit} (hun : ∀ (I acc : Value) (env : Env), A.under (.compLoop e dep I acc env) = A) (hden : ∀ (I acc : Value) (env : Env), (model prog w).den (.compLoop e dep I acc env) = (compTurn e dep I acc env).onRaise (fun x => do noteFrame x env; theTreesLotGoes x))
    (ht : ∀ (it acc : Value) (env : Env), compTurn e dep it acc env = (standAt iter.pos >>= fun _ => pyNext it >>= fun r => match r with
      | none => pure (.done .next)
      | some v => letOwnedTupleGo target it v >>= fun _ => assign target env v >>= fun _ => em acc env >>= fun _ => again (.compLoop e dep it acc env))) : LoopBy prog w A e dep target em := by
  intro I acc cenv R Inv turn n s h
  refine codeAny_loop rfl Inv (fun n s hI => ?_) n h
  rw [hun, hden]
  refine wpAny_noted (wpAny_mono (E := noE) ?_ (fun _ _ q => q) fun _ _ f => f.elim)
  rw [ht]
  refine wpAny_bind (wpAny_standAt (wpAny_bind (wpAny_mono (turn n s hI) (fun r s₁ h₁ => ?_) fun _ _ h' => h')))
  cases r with
  | none => exact wpAny_pure h₁
  | some v =>
    refine wpAny_bind (wpAny_mono h₁ (fun _ s₁' h₁' => ?_) fun _ _ h' => h')
    refine wpAny_bind (wpAny_mono h₁' (fun _ s₂ h₂ => ?_) fun _ _ h' => h')
    exact wpAny_bind (wpAny_mono h₂ (fun _ s₃ h₃ => wpAny_pure ⟨rfl, h₃⟩) fun _ _ h' => h')
theorem loop_in {elt t1 i1 t2 i2 : PySem.Expr} {scope : Scope} {pos : Pos} : LoopBy prog w A (.ListComp elt [⟨t1, i1, [], 0⟩, ⟨t2, i2, [], 0⟩] scope pos) 1 t2 (emElt elt) := loopBy_of (iter := i2) (fun _ _ _ => rfl) (fun _ _ _ => rfl) fun it acc env => turn_in it acc env
theorem loop_out {elt t1 i1 t2 i2 : PySem.Expr} {scope : Scope} {pos : Pos} : LoopBy prog w A (.ListComp elt [⟨t1, i1, [], 0⟩, ⟨t2, i2, [], 0⟩] scope pos) 0 t1 (emIn (.ListComp elt [⟨t1, i1, [], 0⟩, ⟨t2, i2, [], 0⟩] scope pos) i2) := loopBy_of (iter := i1) (fun _ _ _ => rfl) (fun _ _ _ => rfl) fun it acc env => turn_out it acc env
/-- the start of a clause -/
noncomputable def StartBy (prog : Program) (w : World) (A : Around) (e : PySem.Expr) (dep : Nat) : Prop := ∀ (it acc : Value) (env : Env) (R : Result → Shared → Prop) (s : Shared),
  codeAny (model prog w) A (.compLoop e dep it acc env) R s → wpAny (model prog w) A (pyIter it) (fun it' s' => codeAny (model prog w) A (.compLoop e dep it' acc env) R s') noE s → codeAny (model prog w) A (.compStart e dep it acc env) R s
theorem start_two {elt t1 i1 t2 i2 : PySem.Expr} {scope : Scope} {pos : Pos} {dep : Nat} (hd : dep = 0 ∨ dep = 1) : StartBy prog w A (.ListComp elt [⟨t1, i1, [], 0⟩, ⟨t2, i2, [], 0⟩] scope pos) dep := by
  intro it acc env R s h0 h
  refine codeAny_of_tree ?_
  show wpAny _ _ ((compStart (.ListComp elt [⟨t1, i1, [], 0⟩, ⟨t2, i2, [], 0⟩] scope pos) dep it acc env).onRaise (fun x => do noteFrame x env; standAt theWindowsPlace)) _ _ s
  refine wpAny_notedAt (wpAny_mono (E := noE) ?_ (fun _ _ q => q) fun _ _ f => f.elim)
  unfold compStart
  rcases hd with rfl | rfl
  · show wpAny _ _ (ask >>= _) _ _ s
    refine wpAny_bind (wpAny_askSetting ?_)
    split
    · first
        | exact wpAny_bind (wpAny_pure (wpAny_pure (And.intro rfl h0)))
        | exact wpAny_pure (And.intro rfl h0)
    · first
        | exact wpAny_bind (wpAny_rule (wpAny_bind (wpAny_standAt (wpAny_bind (wpAny_mono h (fun it' s' h' => wpAny_pure (And.intro rfl h')) fun _ _ x => x)))))
        | (refine wpAny_bind (wpAny_rule ?_); show wpAny _ _ (standAt i1.pos >>= _) _ _ s; exact wpAny_bind (wpAny_standAt (wpAny_bind (wpAny_mono h (fun it' s' h' => wpAny_pure (And.intro rfl h')) fun _ _ x => x))))
  · show wpAny _ _ (ask >>= _) _ _ s
    refine wpAny_bind (wpAny_askSetting ?_)
    split
    · first
        | exact wpAny_bind (wpAny_pure (wpAny_pure (And.intro rfl h0)))
        | exact wpAny_pure (And.intro rfl h0)
    · first
        | exact wpAny_bind (wpAny_rule (wpAny_bind (wpAny_standAt (wpAny_bind (wpAny_mono h (fun it' s' h' => wpAny_pure (And.intro rfl h')) fun _ _ x => x)))))
        | (refine wpAny_bind (wpAny_rule ?_); show wpAny _ _ (standAt i2.pos >>= _) _ _ s; exact wpAny_bind (wpAny_standAt (wpAny_bind (wpAny_mono h (fun it' s' h' => wpAny_pure (And.intro rfl h')) fun _ _ x => x))))
end
end Mine

open PySem PySem.W PyProof.Rows PySem.Calls
set_option Elab.async false
set_option linter.all false
set_option maxRecDepth 100000
namespace Mine
section
variable {Z : Zone} {A : Around} {env : Env} {O O' : Addr → Prop} {B : Addr → Obj → Prop} {own own' : List (Addr × List D)} {ρ ρ' : Rho} {s : Shared} {E : Value → Shared → Prop} {h' h₁ : Heap} {tk t₁ : Nat}
/-- a comprehension's walk, whatever it does with each thing -/
theorem comp_coreG {e target iter : PySem.Expr} {ifs : List PySem.Expr} {gs : List Comprehension} {scope : Scope} {cl : List (PySem.Str × Addr)} {N : Nat} {P : Nat → D} {use : Option (Value → Sem Unit)} {Q : Value → Shared → Prop} {newPos : Pos} (em : Value → Env → Sem Unit) (ds : Nat → List D) (ρ₀ : Rho) (ρa : Nat → Rho) (X : St Z env O B own ρ s)
    (hgen : clausesOf e = ⟨target, iter, ifs, 0⟩ :: gs) (hloop : LoopBy Z.prog Z.w A e 0 target em) (hstart : StartBy Z.prog Z.w A e 0)
    (hi : It Z A env O B own ρ target iter N P) (hN : ((List.range N).flatMap ds).length ≤ sizeLine) (hclos : closureFor scope env = pure cl) (hcell : ∀ y ∈ scope.names, y.2 ≠ .cell) (hkind : scope.kind = .function) (hnames : ∀ y ∈ scope.names, y.2 = .local → scope.names.lookup y.1 = some .local)
    (h0 : ∀ C x d, get ρ₀ x = some d → (compEnvC scope cl C env).kindOf x ≠ some .local) (hcl : ∀ x c, cl.lookup x = some c → env.kindOf x ≠ some .local ∧ env.cells.lookup x = some c ∧ ∀ d, get ρ₀ x = some d → get ρ x = some d)
    (hsub : ∀ i, SubR (ρa i) ρ₀)
    (ha : ∀ i, i < N → ∀ C O' B' own', (∀ b, O b → O' b) → Asg Z A (compEnvC scope cl C env) O' B' own' ρ₀ (assign target (compEnvC scope cl C env)) (P i) (ρa i))
    (he : ∀ i, i < N → ∀ C Dl O' B' ys s', (∀ b, O b → O' b) → ys.length + (ds i).length ≤ sizeLine → St Z (compEnvC scope cl C env) O' B' [(Dl, ys)] (ρa i) s' → ∀ Q : Unit → Shared → Prop,
      (∀ h' tk, St Z (compEnvC scope cl C env) O' B' [(Dl, ys ++ ds i)] (ρa i) { s' with heap := h', toks := tk } → Q () { s' with heap := h', toks := tk }) → wpAny (model Z.prog Z.w) A (em (.ref Dl) (compEnvC scope cl C env)) Q noE s')
    (fin : ∀ Dl C h' tk, Grow Z O s.heap h' → s.toks ≤ tk → s.heap.get? C = none → s.heap.get? Dl = none → C ≠ Dl → (∃ m, h'.Ns C m) → Tab Z (fun b => O b ∨ b = C) h' → Rep (fun b => O b ∨ b = C) h' tk (.lst ((List.range N).flatMap ds)) (.ref Dl) →
      compPost (model Z.prog Z.w) A E use Q (.ref Dl) C (.ok .next) { s with heap := h', toks := tk })
    (hs : ∀ x, foldedSetIterable iter env x = pure x := by intro _; rfl) :
    wpAny (model Z.prog Z.w) A (comprehension e scope env newPos (newList []) false (eval iter env) use) Q E s := by
  refine wpAny_comprehension_free hgen hs hclos hkind hnames (hi.run s X _ _ fun I fp wr S h₁ t₁ O' T' g le tt hS0 hO hwr hfp => ?_)
  refine wpAny_newObj_type (wpAny_newFunctionEnv hcell (by intro y hy; simp at hy) (fun h₂ hns hsb => ?_) hkind)
  dsimp only at hns hsb ⊢
  generalize hH2 : h₁.push { cls := .type "list", dict := none, data := .seq ([] : List Value).toArray } = H2 at hns hsb ⊢
  have hC : H2.objs.size = h₁.objs.size + 1 := by rw [← hH2, Heap.size_push]
  generalize hDl : h₁.objs.size = Dl at *
  generalize hCC : H2.objs.size = C at *
  have hDC : Dl ≠ C := by rw [hC]; exact Nat.ne_of_lt (Nat.lt_succ_self _)
  have hDf : h₁.get? Dl = none := by rw [← hDl]; exact get_size _
  have hCf : h₁.get? C = none := get_ge (by rw [hDl, hC]; exact Nat.le_succ _)
  have hCf2 : H2.get? C = none := by rw [← hCC]; exact get_size _
  have k1 : ∀ b o, h₁.get? b = some o → h₂.get? b = some o := fun b o e => hsb.extBut b o (get_ne e hCf) (Heap.get?_push_of_some _ (hH2 ▸ Heap.get?_push_of_some _ e))
  have hacc : h₂.PlainList Dl #[] := ⟨0, hsb.extBut _ _ hDC (Heap.get?_push_of_some _ (hH2 ▸ hDl ▸ Heap.get?_push_size _ rfl))⟩
  let O2 : Addr → Prop := fun b => O' b ∨ b = Dl ∨ b = C
  let Bc : Addr → Obj → Prop := fun b o => h₁.get? b = some o ∧ ¬ isTab Z b ∧ ¬ wr b
  let cenv := compEnvC scope cl C env
  let ys : Nat → List D := fun i => (List.range i).flatMap ds
  have hO2 : ∀ b, O b → O2 b := fun b q => .inl ((hO b).mpr (.inl q))
  have oldW : ∀ b o, s.heap.get? b = some o → ¬ wr b := fun b o e q => by rw [(hwr b q).1] at e; cases e
  have oldS : ∀ b o, s.heap.get? b = some o → b ≠ Dl ∧ b ≠ C := fun b o e => by
    obtain ⟨o', e'⟩ := g.2.1 b o e
    exact ⟨get_ne e' hDf, get_ne e' hCf⟩
  have old : ∀ b o, s.heap.get? b = some o → O2 b → O b := fun b o e q => by
    rcases q with q | q | q
    · exact ((hO b).mp q).elim id fun z => absurd z (oldW b o e)
    · exact absurd q (oldS b o e).1
    · exact absurd q (oldS b o e).2
  have wrT : ∀ b, wr b → O2 b ∧ ¬ isTab Z b := fun b q => ⟨.inl ((hO b).mpr (.inr q)), fun z => by
    obtain ⟨o, e⟩ := X.Oex b (X.tabs.isO z)
    exact oldW b o e q⟩
  have wrB : ∀ b, wr b → ∀ o, ¬ Bc b o := fun b q o e => e.2.2 q
  have wrne : ∀ b, wr b → b ≠ Dl ∧ b ≠ C := fun b q => by
    obtain ⟨o, e⟩ := (hwr b q).2
    exact ⟨get_ne e hDf, get_ne e hCf⟩
  have tab2 : Tab Z O2 h₂ := Tab.fresh tt k1 (fun b q => q.imp id fun z => z.elim (fun z => z ▸ hDf) fun z => z ▸ hCf) (fun b q => .inl q)
  have g2 : Grow Z O2 s.heap h₂ := ⟨fun b o n e => k1 b o (g.1 b o n e), fun b o e => by obtain ⟨o', e'⟩ := g.2.1 b o e; exact ⟨o', k1 b o' e'⟩, tab2⟩
  have hne : ∀ x c, cl.lookup x = some c → env.kindOf x ≠ some .local ∧ env.cells.lookup x = some c := fun x c h => ⟨(hcl x c h).1, (hcl x c h).2.1⟩
  have hzB : ∀ b o, Z.H.get? b = some o → Bc b o := fun b o e => by
    have e1 := X.wd.zone b o e
    exact ⟨g.1 b o (fun q => X.OH b o (X.tabs.isO q) e) e1, fun q => X.OH b o (X.tabs.isO q) e, oldW b o e1⟩
  have X₀ : St Z cenv O2 Bc [(Dl, ys 0)] ρ₀ { s with heap := h₂, toks := t₁ } := {
    base := fun b o e => k1 b o e.1
    zone := hzB
    OH := fun b o q e => by
      have e1 := X.wd.zone b o e
      exact X.OH b o (old b o e1 q) e
    tabB := fun b o q e => e.2.1 q
    LB := fun o e => by have := e.1; rw [show cenv.locals = C from rfl, hCf] at this; cases this
    ownB := fun q hq o e => by
      simp only [List.mem_cons, List.not_mem_nil, or_false] at hq
      subst hq
      have := e.1; rw [hDf] at this; cases this
    ownD := by simp
    Oex := fun b q => by
      rcases q with q | q | q
      · rcases (hO b).mp q with q | q
        · obtain ⟨o, e⟩ := X.Oex b q
          exact g2.2.1 b o e
        · obtain ⟨o, e⟩ := (hwr b q).2; exact ⟨o, k1 b o e⟩
      · obtain ⟨n, e⟩ := hacc; exact ⟨_, q ▸ e⟩
      · obtain ⟨o, _, _, e, _⟩ := hns; exact ⟨o, q ▸ e⟩
    tabs := tab2
    pos := Nat.lt_of_lt_of_le X.pos le
    OL := .inr (.inr rfl)
    loc := ⟨_, hns, fun x d hk hg => (h0 C x d hg hk).elim⟩
    cel := fun x c hx hc => by
      obtain ⟨hk, hl, hg⟩ := hcl x c hc
      obtain ⟨ov, hv, rr⟩ := X.cel x c hk hl
      have hnt := Cell.notTab X.tabs hv
      obtain ⟨o, ho, hd⟩ := hv
      exact ⟨ov, ⟨o, g2.1 _ o hnt ho, hd⟩, fun d hg' => by
        obtain ⟨v, e, q⟩ := rr d (hg d hg')
        exact ⟨v, e, (q.more old).grow g2 le⟩⟩
    ownd := fun q hq => by
      simp only [List.mem_cons, List.not_mem_nil, or_false] at hq
      subst hq
      exact ⟨.inr (.inl rfl), [], hacc, by simp [ys, Reps]⟩ }
  have T := T' O2 (fun b q => .inl q) (fun b q => q.imp id fun z => z.elim (fun z => z ▸ hDf) fun z => z ▸ hCf)
  have hB0 : ∀ b o, ¬ O2 b → h₁.get? b = some o → Bc b o := fun b o n e => ⟨e, fun q => n (.inl (tt.isO q)), fun q => n (.inl ((hO b).mpr (.inr q)))⟩
  have loop : codeAny (model Z.prog Z.w) A (.compLoop e 0 I (.ref Dl) cenv) (compPost (model Z.prog Z.w) A E use Q (.ref Dl) C) { s with heap := h₂, toks := t₁ } := by
    refine hloop I (.ref Dl) cenv _ (fun n s' => ∃ h' tk, s' = { s with heap := h', toks := tk } ∧ ∃ i, i ≤ N ∧ n = N - i ∧ t₁ ≤ tk ∧ S i h' ∧ St Z cenv O2 Bc [(Dl, ys i)] ρ₀ s') ?_ N _ ⟨h₂, t₁, rfl, 0, Nat.zero_le _, rfl, Nat.le_refl _, T.frame _ _ _ hS0 fun b _ o e => k1 b o e, X₀⟩
    rintro n _ ⟨h', tk, rfl, i, hi', rfl, htk, hS, X'⟩
    by_cases hlt : i < N
    · have hold : ∀ b o, ¬ O2 b → h₁.get? b = some o → h'.get? b = some o := fun b o n e => X'.base b o (hB0 b o n e)
      refine T.item i _ _ _ _ hlt hS hold X'.Oex htk (fun v s' h => h) fun v h₂ t₂ hS₂ k₂ le₂ r₂ => ?_
      have X₃ : St Z cenv O2 Bc [(Dl, ys i)] ρ₀ { s with heap := h₂, toks := t₂ } := X'.wrd k₂ wrT wrB (fun q => (wrne _ q).2 rfl) (fun x c hx hc q => by
        obtain ⟨hk, hl, _⟩ := hcl x c hc
        obtain ⟨ov, ⟨o, e, _⟩, _⟩ := X.cel x c hk hl
        exact oldW _ o e q) (fun q hq w => by
        simp only [List.mem_cons, List.not_mem_nil, or_false] at hq
        subst hq; exact (wrne _ w).1 rfl) le₂ (fun b h => h) (fun q hq => hO2 _ (X.tabs q hq).1) X'.OL (fun p hp => (X'.ownd p hp).1) (fun b _ q => T.ex _ _ hS₂ b q)
      let Bi : Addr → Obj → Prop := fun b o => Bc b o ∨ (wr b ∧ h₂.get? b = some o)
      have X₄ : St Z cenv O2 Bi [(Dl, ys i)] ρ₀ { s with heap := h₂, toks := t₂ } := X₃.setB (fun b o e => .inl e) (fun b o e => e.elim (X₃.base b o) fun z => z.2) (fun b o q e => e.elim (X₃.tabB b o q) fun z => (wrT b z.1).2 q) (fun o e => e.elim (X₃.LB o) fun z => (wrne _ z.1).2 rfl) (fun q hq o e => e.elim (X₃.ownB q hq o) fun z => by
        simp only [List.mem_cons, List.not_mem_nil, or_false] at hq
        subst hq; exact (wrne _ z.1).1 rfl)
      have back : ∀ (h₄ : Heap) (t₄ : Nat), t₁ ≤ t₄ → St Z cenv O2 Bi [(Dl, ys (i + 1))] (ρa i) { s with heap := h₄, toks := t₄ } → ∃ m, m < N - i ∧ ∃ h' tk, ({ s with heap := h₄, toks := t₄ } : Shared) = { s with heap := h', toks := tk } ∧ ∃ i, i ≤ N ∧ m = N - i ∧ t₁ ≤ tk ∧ S i h' ∧ St Z cenv O2 Bc [(Dl, ys i)] ρ₀ { s with heap := h₄, toks := t₄ } := fun h₄ t₄ le₄ X₆ => by
        refine ⟨N - (i + 1), by omega, h₄, t₄, rfl, i + 1, hlt, rfl, le₄, ?_, (X₆.lessB (fun b o e => .inl e) hzB).sub (hsub i)⟩
        refine T.frame _ _ _ hS₂ fun b hb' o e => ?_
        rcases hfp b hb' with q | ⟨q, o', e'⟩
        · exact X₆.base b o (.inr ⟨q, e⟩)
        · have hbc : Bc b o' := ⟨e', fun z => q (tt.isO z), fun z => q ((hO b).mpr (.inr z))⟩
          have := X₃.base b o' hbc
          obtain rfl : o' = o := Option.some.inj (this.symm.trans e)
          exact X₆.base b o' (.inl hbc)
      refine wpAny_with_toks (n := t₁) (Nat.le_trans htk le₂) ((ha i hlt C O2 Bi _ hO2).run _ v X₄ r₂ _ _ fun h₃ t₃ k₃ X₅ => fun le₃ => ?_)
      have hyl : (ys i).length + (ds i).length ≤ sizeLine := by
        refine Nat.le_trans ?_ hN
        have e1 : (ys i).length + (ds i).length = ((List.range (i + 1)).flatMap ds).length := by simp [ys, List.range_succ]
        rw [e1]
        have e2 : (List.range N).flatMap ds = (List.range (i + 1)).flatMap ds ++ ((List.range N).drop (i + 1)).flatMap ds := by
          conv => lhs; rw [← List.take_append_drop (i + 1) (List.range N), List.flatMap_append]
          rw [List.take_range, Nat.min_eq_left (by omega)]
        rw [e2, List.length_append]
        exact Nat.le_add_right _ _
      refine wpAny_with_toks (n := t₁) le₃ (wpAny_mono (he i hlt C Dl O2 Bi (ys i) _ hO2 hyl X₅ (fun _ s' => t₁ ≤ s'.toks → ∃ m, m < N - i ∧ ∃ h' tk, s' = { s with heap := h', toks := tk } ∧ ∃ i, i ≤ N ∧ m = N - i ∧ t₁ ≤ tk ∧ S i h' ∧ St Z cenv O2 Bc [(Dl, ys i)] ρ₀ s') fun h₆ t₆ X₈ => fun le₆ => ?_) (fun _ _ q => q) fun _ _ f => f.elim)
      have e : ys i ++ ds i = ys (i + 1) := by simp [ys, List.range_succ]
      rw [e] at X₈
      exact back h₆ t₆ le₆ X₈
    · obtain rfl : i = N := by omega
      refine T.done _ _ _ hS fun h₃ t₃ k₃ le₃ => ?_
      have X₃ : St Z cenv (fun b => (O b ∨ b = C) ∨ b = Dl) Bc [(Dl, ys i)] ρ₀ { s with heap := h₃, toks := t₃ } := X'.wrd k₃ wrT wrB (fun q => (wrne _ q).2 rfl) (fun x c hx hc q => by
        obtain ⟨hk, hl, _⟩ := hcl x c hc
        obtain ⟨ov, ⟨o, e, _⟩, _⟩ := X.cel x c hk hl
        exact oldW _ o e q) (fun q hq w => by
        simp only [List.mem_cons, List.not_mem_nil, or_false] at hq
        subst hq; exact (wrne _ w).1 rfl) le₃ (fun b h => h.elim (fun h => h.elim (hO2 b) fun z => .inr (.inr z)) fun z => .inr (.inl z)) (fun q hq => .inl (.inl (X.tabs q hq).1)) (.inl (.inr rfl)) (fun q hq => by
        simp only [List.mem_cons, List.not_mem_nil, or_false] at hq
        subst hq; exact .inr rfl) (fun b q q' => by
        rcases q with (q | q) | q
        · obtain ⟨o, e⟩ := X.Oex b q
          exact absurd q' (oldW b o e)
        · exact absurd q (wrne _ q').2
        · exact absurd q (wrne _ q').1)
      have nD : ¬ (O Dl ∨ Dl = C) := fun q => q.elim (fun q => by
        obtain ⟨o, e⟩ := X.Oex _ q
        exact (oldS _ o e).1 rfl) hDC
      obtain ⟨X₄, r₄⟩ := X₃.drop (own := []) (O := fun b => O b ∨ b = C) (fun b => Iff.rfl) nD (.inr rfl) (fun p hp => nomatch hp) (fun q hq => .inl (X.tabs q hq).1)
      have old2 : ∀ b o, ¬ isTab Z b → s.heap.get? b = some o → h₃.get? b = some o := fun b o n e => X₄.base b o ⟨g.1 b o n e, n, oldW b o e⟩
      have nC : ∀ o, s.heap.get? C ≠ some o := fun o e => (oldS _ o e).2 rfl
      refine fin Dl C h₃ t₃ ⟨old2, fun b o e => ?_, X₄.tabs.drop (fun b q => .inl q) (fun q hq => (X.tabs q hq).1)⟩ (Nat.le_trans le (Nat.le_trans htk le₃)) ?_ ?_ hDC.symm (let ⟨m, hm, _⟩ := X₄.loc; ⟨m, hm⟩) X₄.tabs r₄
      · by_cases q : isTab Z b
        · obtain ⟨t, ht, rfl⟩ := q
          obtain ⟨_, ps, g, _⟩ := X₄.tabs t ht
          exact ⟨_, g⟩
        · exact ⟨o, old2 b o q e⟩
      · cases e : s.heap.get? C with
        | none => rfl
        | some o => exact absurd e (nC o)
      · cases e : s.heap.get? Dl with
        | none => rfl
        | some o => exact absurd rfl (oldS _ o e).1
  exact hstart I (.ref Dl) cenv _ _ loop (T.self 0 _ _ _ (T.frame _ _ _ hS0 fun b _ o e => k1 b o e) loop)
end
end Mine

open PySem PySem.W PyProof.Rows PySem.Calls
set_option Elab.async false
set_option linter.all false
set_option maxRecDepth 100000
namespace Mine
section
variable {Z : Zone} {A : Around} {env : Env} {O O' : Addr → Prop} {B : Addr → Obj → Prop} {own own' : List (Addr × List D)} {ρ ρ' : Rho} {s : Shared} {E : Value → Shared → Prop} {h' h₁ : Heap} {tk t₁ : Nat}
/-- an inner clause, walked to its end -/
theorem em_in {e elt t2 i2 : PySem.Expr} {Dl : Addr} {ys : List D} {N : Nat} {P : Nat → D} {Q : Unit → Shared → Prop} (d : Nat → D) (ρa : Rho) (ρb : Nat → Rho) (hloop : LoopBy Z.prog Z.w A e 1 t2 (emElt elt)) (hstart : StartBy Z.prog Z.w A e 1) (X : St Z env O B [(Dl, ys)] ρa s)
    (hi : It Z A env O B [(Dl, ys)] ρa t2 i2 N P) (hN : ys.length + N ≤ sizeLine) (hsub : ∀ j, SubR (ρb j) ρa)
    (ha : ∀ j, j < N → ∀ O' B' own', Asg Z A env O' B' own' ρa (assign t2 env) (P j) (ρb j)) (he : ∀ j, j < N → ∀ O' B' own', Ev Z A env O' B' own' (ρb j) elt (d j))
    (k : ∀ h' tk, St Z env O B [(Dl, ys ++ (List.range N).map d)] ρa { s with heap := h', toks := tk } → Q () { s with heap := h', toks := tk })
    (hs : ∀ x, foldedSetIterable i2 env x = pure x := by intro _; rfl) :
    wpAny (model Z.prog Z.w) A (emIn e i2 (.ref Dl) env) Q noE s := by
  let own' : Nat → List (Addr × List D) := fun j => [(Dl, ys ++ (List.range j).map d)]
  have hm : ∀ i, (own' i).map (·.1) = (own' 0).map (·.1) := fun i => rfl
  have X : St Z env O B (own' 0) ρa s := by simpa [own'] using X
  have hi : It Z A env O B (own' 0) ρa t2 i2 N P := by simpa [own'] using hi
  unfold emIn
  refine wpAny_bind (wpAny_mono (hi.run s X (fun it s₂ => wpAny (model Z.prog Z.w) A (runOwn (.compStart e 1 it (.ref Dl) env) env >>= fun _ => pure ()) Q noE s₂) noE fun I fp wr S h₁ t₁ O' T' g le tt h0 hO hwr hfp => ?_) (fun x s₁ hx => wpAny_bind (wpAny_standAt (wpAny_bind (wpAny_of_eq (hs x) (wpAny_bind (wpAny_holding hx)))))) fun _ _ e => e)
  have T := T' O' (fun b h => h) (fun b h => .inl h)
  have hk : ∀ b, O b → O' b := fun b q => (hO b).mpr (.inl q)
  have X₁ : St Z env O' B (own' 0) ρa { s with heap := h₁, toks := t₁ } := X.more g tt le (fun b q => ((hO b).mp q).imp id fun z => hwr b z) hk
  have oldO : ∀ b o, s.heap.get? b = some o → ¬ wr b := fun b o e q => by rw [(hwr b q).1] at e; cases e
  let Bs : Addr → Obj → Prop := fun b o => B b o ∨ (h₁.get? b = some o ∧ ¬ O' b)
  have isO : ∀ i, ∀ p ∈ own' i, O p.1 := fun i p hp => by
    obtain ⟨q, hq, e⟩ := (isOwn_map (hm i)).mp ⟨p, hp, rfl⟩
    exact e ▸ (X.ownd q hq).1
  have X₂ : St Z env O' Bs (own' 0) ρa { s with heap := h₁, toks := t₁ } := X₁.setB (fun b o e => .inl e) (fun b o e => e.elim (X₁.base b o) fun z => z.1) (fun b o q e => e.elim (X.tabB b o q) fun z => z.2 (tt.isO q)) (fun o e => e.elim (X.LB o) fun z => z.2 (hk _ X.OL)) (fun p hp o e => e.elim (X.ownB p hp o) fun z => z.2 (hk _ (X.ownd p hp).1))
  have wrB : ∀ b, wr b → ∀ o, ¬ Bs b o := fun b q o e => e.elim (fun z => oldO b o (X.base b o z) q) fun z => z.2 ((hO b).mpr (.inr q))
  have wrT : ∀ b, wr b → O' b ∧ ¬ isTab Z b := fun b q => ⟨(hO b).mpr (.inr q), fun z => by
    obtain ⟨o, e⟩ := X.Oex b (X.tabs.isO z)
    exact oldO b o e q⟩
  have wrL : ¬ wr env.locals := fun q => by
    obtain ⟨o, e⟩ := X.Oex _ X.OL
    exact oldO _ o e q
  have wrC : ∀ x c, env.kindOf x ≠ some .local → env.cells.lookup x = some c → ¬ wr c := fun x c hx hc q => by
    obtain ⟨ov, ⟨o, e, _⟩, _⟩ := X.cel x c hx hc
    exact oldO _ o e q
  have wrOwn : ∀ i, ∀ p ∈ own' i, ¬ wr p.1 := fun i p hp q => by
    obtain ⟨o, e⟩ := X.Oex _ (isO i p hp)
    exact oldO _ o e q
  have loop : codeAny (model Z.prog Z.w) (A.mark none) (.compLoop e 1 I (.ref Dl) env) (fun r s' => match r with | .ok f => wpAny (model Z.prog Z.w) A (pure ()) Q noE s' | .error x => cameBackBy (model Z.prog Z.w) A env noE x s') { s with heap := h₁, toks := t₁ } := by
    refine hloop I (.ref Dl) env _ (fun n s' => ∃ h' tk, s' = { s with heap := h', toks := tk } ∧ ∃ i, i ≤ N ∧ n = N - i ∧ t₁ ≤ tk ∧ S i h' ∧ St Z env O' Bs (own' i) ρa s') ?_ N _ ⟨h₁, t₁, rfl, 0, Nat.zero_le _, rfl, Nat.le_refl _, h0, X₂⟩
    rintro n _ ⟨h', tk, rfl, i, hi', rfl, htk, hS, X'⟩
    by_cases hlt : i < N
    · have hold : ∀ b o, ¬ O' b → h₁.get? b = some o → h'.get? b = some o := fun b o n e => X'.base b o (.inr ⟨e, n⟩)
      refine T.item i _ _ _ _ hlt hS hold X'.Oex htk (fun v s' h => h) fun v h₂ t₂ hS₂ k₂ le₂ r₂ => ?_
      have X₃ : St Z env O' Bs (own' i) ρa { s with heap := h₂, toks := t₂ } := X'.wrd k₂ wrT wrB wrL wrC (wrOwn i) le₂ (fun b h => h) (fun q hq => hk _ (X.tabs q hq).1) X'.OL (fun p hp => (X'.ownd p hp).1) (fun b _ q => T.ex _ _ hS₂ b q)
      let Bi : Addr → Obj → Prop := fun b o => Bs b o ∨ (wr b ∧ h₂.get? b = some o)
      have X₄ : St Z env O' Bi (own' i) ρa { s with heap := h₂, toks := t₂ } := X₃.setB (fun b o e => .inl e) (fun b o e => e.elim (X₃.base b o) fun z => z.2) (fun b o q e => e.elim (X₃.tabB b o q) fun z => (wrT b z.1).2 q) (fun o e => e.elim (X₃.LB o) fun z => wrL z.1) (fun p hp o e => e.elim (X₃.ownB p hp o) fun z => wrOwn i p hp z.1)
      refine wpAny_with_toks (n := t₁) (Nat.le_trans htk le₂) (wpAny_mono (E := noE) ((ha i hlt O' Bi _).run _ v X₄ r₂ _ _ fun h₃ t₃ k₃ X₅ => fun le₃ => ?_) (fun _ _ q => q) fun _ _ f => f.elim)
      unfold emElt
      refine wpAny_bind ((he i hlt O' Bi _).run _ X₅ _ _ fun x h₅ t₅ g₅ le₅ r₅ => wpAny_bind ?_)
      have X₇ := X₅.grow g₅ le₅
      obtain ⟨_, vs2, hl2, rs2⟩ := X₇.ownd (Dl, ys ++ (List.range i).map d) (.head _)
      have hlen : vs2.length = (ys ++ (List.range i).map d).length := rs2.length
      refine wpAny_list_append_plain hl2 (fun h₆ hl₆ hs₆ => wpAny_pure ?_) (by
        simp at hlen
        simp; omega)
      have X₈ := X₇.own_upd (own₁ := []) (own₂ := []) (ds' := (ys ++ (List.range i).map d) ++ [d i]) (tk := t₅) (vs' := vs2 ++ [x]) hs₆ (Nat.le_refl _) (by simpa using hl₆) (Reps.append rs2 (by simp only [Reps]; exact ⟨x, [], rfl, r₅, rfl⟩))
      have e : (ys ++ (List.range i).map d) ++ [d i] = ys ++ (List.range (i + 1)).map d := by rw [List.range_succ, List.map_append, List.append_assoc]; rfl
      rw [e] at X₈
      refine ⟨N - (i + 1), by omega, h₆, t₅, rfl, i + 1, hlt, rfl, Nat.le_trans le₃ le₅, ?_, ?_⟩
      · refine T.frame _ _ _ hS₂ fun b hb' o e => ?_
        rcases hfp b hb' with q | ⟨q, o', e'⟩
        · exact X₈.base b o (.inr ⟨q, e⟩)
        · have := X₃.base b o' (.inr ⟨e', q⟩)
          obtain rfl : o' = o := Option.some.inj (this.symm.trans e)
          exact X₈.base b o' (.inl (.inr ⟨e', q⟩))
      · exact (X₈.lessB (fun b o e => .inl e) X₃.zone).sub (hsub i)
    · obtain rfl : i = N := by omega
      refine T.done _ _ _ hS fun h₂ t₂ k₂ le₂ => ?_
      have X₃ : St Z env O Bs (own' i) ρa { s with heap := h₂, toks := t₂ } := X'.wrd k₂ wrT wrB wrL wrC (wrOwn i) le₂ hk (fun q hq => (X.tabs q hq).1) X.OL (isO i) (fun b q q' => by
        obtain ⟨o, e⟩ := X.Oex b q
        exact absurd q' (oldO b o e))
      exact wpAny_pure (k h₂ t₂ (X₃.lessB (fun b o e => .inl e) X.zone))
  refine wpAny_bind (wpAny_runOwn (Q := fun f s' => wpAny (model Z.prog Z.w) A (pure ()) Q noE s') (hstart I (.ref Dl) env _ _ loop (T.self 0 _ _ _ h0 loop)))
/-- a comprehension of two clauses -/
theorem ev_comp2 {elt t1 i1 t2 i2 : PySem.Expr} {scope : Scope} {pos : Pos} {cl : List (PySem.Str × Addr)} {N N2 : Nat} {P P2 : Nat → D} (d : Nat → Nat → D) (ρ₀ : Rho) (ρa : Nat → Rho) (ρb : Nat → Nat → Rho)
    (hi : It Z A env O B own ρ t1 i1 N P) (hN : N * N2 ≤ sizeLine) (hclos : closureFor scope env = pure cl) (hcell : ∀ y ∈ scope.names, y.2 ≠ .cell) (hkind : scope.kind = .function) (hnames : ∀ y ∈ scope.names, y.2 = .local → scope.names.lookup y.1 = some .local)
    (h0 : ∀ C x d, get ρ₀ x = some d → (compEnvC scope cl C env).kindOf x ≠ some .local) (hcl : ∀ x c, cl.lookup x = some c → env.kindOf x ≠ some .local ∧ env.cells.lookup x = some c ∧ ∀ d, get ρ₀ x = some d → get ρ x = some d)
    (hsub : ∀ i, SubR (ρa i) ρ₀) (hsub2 : ∀ i j, SubR (ρb i j) (ρa i))
    (ha : ∀ i, i < N → ∀ C O' B' own', (∀ b, O b → O' b) → Asg Z A (compEnvC scope cl C env) O' B' own' ρ₀ (assign t1 (compEnvC scope cl C env)) (P i) (ρa i))
    (hi2 : ∀ i, i < N → ∀ C O' B' own', (∀ b, O b → O' b) → It Z A (compEnvC scope cl C env) O' B' own' (ρa i) t2 i2 N2 P2)
    (ha2 : ∀ i, i < N → ∀ j, j < N2 → ∀ C O' B' own', Asg Z A (compEnvC scope cl C env) O' B' own' (ρa i) (assign t2 (compEnvC scope cl C env)) (P2 j) (ρb i j))
    (he : ∀ i, i < N → ∀ j, j < N2 → ∀ C O' B' own', Ev Z A (compEnvC scope cl C env) O' B' own' (ρb i j) elt (d i j))
    (hs : ∀ x, foldedSetIterable i1 env x = pure x := by intro _; rfl) (hs2 : ∀ C x, foldedSetIterable i2 (compEnvC scope cl C env) x = pure x := by intro _ _; rfl) :
    Ev Z A env O B own ρ (.ListComp elt [⟨t1, i1, [], 0⟩, ⟨t2, i2, [], 0⟩] scope pos) (.lst ((List.range N).flatMap fun i => (List.range N2).map (d i))) := .mk fun s X Q E k => by
  rw [eval_ListComp]
  have hNN : ∀ n, ((List.range n).flatMap fun i => (List.range N2).map (d i)).length = n * N2 := fun n => by
    induction n with
    | zero => simp
    | succ n ih => rw [List.range_succ, List.flatMap_append, List.length_append, ih]; simp [Nat.succ_mul]
  refine comp_coreG (use := none) (emIn (.ListComp elt [⟨t1, i1, [], 0⟩, ⟨t2, i2, [], 0⟩] scope pos) i2) (fun i => (List.range N2).map (d i)) ρ₀ ρa X rfl loop_out (start_two (.inl rfl)) hi (by rw [hNN]; exact hN) hclos hcell hkind hnames h0 hcl hsub ha (fun i hi' C Dl O' B' ys s' hO hyl X' Q' kk => ?_) (fun Dl C h₁ t₁ g le nC nD hCD hn tt r => ?_) hs
  · exact em_in (d i) (ρa i) (ρb i) loop_in (start_two (.inr rfl)) X' (hi2 i hi' C O' B' _ hO) (by simpa using hyl) (hsub2 i) (fun j hj O'' B'' own'' => ha2 i hi' j hj C O'' B'' own'') (fun j hj O'' B'' own'' => he i hi' j hj C O'' B'' own'') kk (hs2 C)
  · obtain ⟨m, hm⟩ := hn
    refine ⟨m, hm, fun h₂ hs₂ => ?_⟩
    have ke := hs₂.extBut
    have hC : (fun b => O b ∨ b = C) C := .inr rfl
    have hnt : ¬ isTab Z C := fun z => by
      obtain ⟨o, e⟩ := X.Oex C (X.tabs.isO z)
      rw [nC] at e; cases e
    have tb : Tab Z O h₂ := (tt.same hC hnt ke).drop (fun b q => .inl q) (fun q hq => (X.tabs q hq).1)
    refine k _ h₂ t₁ ⟨fun b o n e => ke b o (fun z => by rw [z, nC] at e; cases e) (g.1 b o n e), fun b o e => ?_, tb⟩ le ((r.same hC ke (Nat.le_refl _)).less fun b q => .inl q)
    obtain ⟨o', e'⟩ := g.2.1 b o e
    exact ⟨o', ke b o' (fun z => by rw [z, nC] at e; cases e) e'⟩
end
end Mine

open PySem PySem.W PyProof.Rows PySem.Calls
set_option Elab.async false
set_option linter.all false
set_option maxRecDepth 100000
namespace Mine
noncomputable def CrtP (p W : Nat) (near port : Int) (k : Nat) : Prop := (∀ i : Nat, i < k → (near + i * W - port) % p ≠ 0) ∧ (near + k * W - port) % p = 0 ∧ k < p
open Classical in
noncomputable def crtK (p W : Nat) (near port : Int) : Nat := if h : ∃ k, CrtP p W near port k then h.choose else 0
noncomputable def crtS (cs : List Int) : Nat → Nat × Int
  | 0 => (1, 0)
  | j + 1 => ((crtS cs j).1 * (rq cs j).1, (crtS cs j).2 + crtK (rq cs j).1 (crtS cs j).1 (crtS cs j).2 (rq cs j).2 * (crtS cs j).1)
section
variable (cs : List Int)
theorem rq_get {j : Nat} (h : j < (readL cs).length) : (readL cs)[j] = rq cs j := by
  unfold rq
  rw [List.getD_eq_getElem?_getD, List.getElem?_eq_getElem h]; rfl
theorem rq_mem {j : Nat} (h : j < (readL cs).length) : (rq cs j).1 ∈ P11 := by
  rw [← rq_get cs h]
  obtain ⟨i, _, e⟩ := List.mem_map.mp (List.getElem_mem h)
  rw [← e]
  exact siz_mem cs i
theorem crt_ok : ∀ j, j ≤ (readL cs).length → Crt (crtS cs j).1 (crtS cs j).2 ((readL cs).take j) ∧ (∀ i, i < j → CrtP (rq cs i).1 (crtS cs i).1 (crtS cs i).2 (rq cs i).2 (crtK (rq cs i).1 (crtS cs i).1 (crtS cs i).2 (rq cs i).2))
  | 0, _ => ⟨⟨rfl, Int.le_refl _, (show (0 : Int) < ((1 : Nat) : Int) by decide), fun q hq => by simp at hq⟩, fun i hi => absurd hi (Nat.not_lt_zero _)⟩
  | j + 1, h => by
    have hj : j < (readL cs).length := h
    obtain ⟨h1, h2⟩ := crt_ok j (by omega)
    have hn := read_nodup cs
    have hc : Nat.Coprime (rq cs j).1 (crtS cs j).1 := by
      rw [h1.w]
      refine prod_cop (rq_mem cs hj) (fun q hq => ?_) fun hm => ?_
      · obtain ⟨p, hp, rfl⟩ := List.mem_map.mp hq
        obtain ⟨i, _, e⟩ := List.mem_map.mp (List.mem_of_mem_take hp)
        rw [← e]
        exact siz_mem cs i
      · have e : (readL cs).take (j + 1) = (readL cs).take j ++ [rq cs j] := by rw [List.take_succ_eq_append_getElem hj, rq_get cs hj]
        have hs : (((readL cs).take (j + 1)).map (·.1)).Nodup := hn.sublist ((List.take_sublist _ _).map _)
        rw [e, List.map_append, List.nodup_append] at hs
        exact hs.2.2 _ hm _ (by simp) rfl
    have hx : ∃ k, CrtP (rq cs j).1 (crtS cs j).1 (crtS cs j).2 (rq cs j).2 k := crt_step (rq_mem cs hj) hc _ _
    have hk : CrtP (rq cs j).1 (crtS cs j).1 (crtS cs j).2 (rq cs j).2 (crtK (rq cs j).1 (crtS cs j).1 (crtS cs j).2 (rq cs j).2) := by
      unfold crtK
      rw [dif_pos hx]
      exact hx.choose_spec
    refine ⟨?_, fun i hi => ?_⟩
    · rw [List.take_succ_eq_append_getElem hj, rq_get cs hj]
      exact h1.next hk.2.2 hk.2.1
    · rcases Nat.lt_succ_iff_lt_or_eq.mp hi with h | rfl
      · exact h2 i h
      · exact hk
theorem crt_small {j : Nat} (h : j ≤ (readL cs).length) : 0 < (crtS cs j).1 ∧ (crtS cs j).1 < 2 ^ 50 := by
  obtain ⟨c, _⟩ := crt_ok cs j h
  have hp := nums_ok cs
  have hpos : ∀ q ∈ (readL cs).map (·.1), 0 < q := fun q hq => by
    obtain ⟨p, hp, rfl⟩ := List.mem_map.mp hq
    obtain ⟨i, _, e⟩ := List.mem_map.mp hp
    rw [← e]
    have := siz_big cs i
    show 0 < siz cs i
    omega
  have e : (crtS cs j).1 = prodN (((readL cs).map (·.1)).take j) := by rw [c.w, List.map_take]
  have h1 := prodN_part _ hpos j
  have h2 := prodN_pos (((readL cs).map (·.1)).take j) fun q hq => hpos q (List.mem_of_mem_take hq)
  omega
end
section
variable {Z : Zone} {A : Around} {env : Env} {O : Addr → Prop} {B : Addr → Obj → Prop} {s : Shared} {E : Value → Shared → Prop} {Q : Flow → Shared → Prop} {L : Addr}
theorem segE3 (G : ZT Z) {cs : List Int} (hA : A.handled = none) (X : St Z (lawEnv Z.w.params L) O B [] (rhoN cs (89 * topL cs) 1 0) s)
    (k : ∀ h' tk, St Z (lawEnv Z.w.params L) O B [] (rhoN cs (89 * topL cs) (crtS cs (readL cs).length).1 (crtS cs (readL cs).length).2) { s with heap := h', toks := tk } → Q .next { s with heap := h', toks := tk }) :
    Xs Z A (((lawBody Z.w.params).drop 17).take 1) (lawEnv Z.w.params L) Q E s := by
  have ok := lawOk Z.w.params L
  have hl : (readD cs).length = (readL cs).length := by unfold readD; rw [List.length_map]
  refine x_for (N := (readD cs).length) (fun _ => []) (fun j => rhoN cs (89 * topL cs) (crtS cs j).1 (crtS cs j).2) (fun j => ("port", .int (rq cs j).2) :: ("size", .int ((rq cs j).1 : Nat)) :: rhoN cs (89 * topL cs) (crtS cs j).1 (crtS cs j).2) (fun i => rfl) X
    (it_listT (ds := readD cs) hA (ev_local rfl) fun i hi => ⟨_, nth_read cs hi⟩) (fun j hj O' B' => by rw [nth_read cs hj]; exact asg_tup hA (asgs_cons asg_name (asgs_cons asg_name asgs_nil))) (fun j hj O' B' hO' hB' s X Q E kk => ?_) fun h₆ t₆ X₆ => x_nil (k _ _ ?_)
  · have hj' : j < (readL cs).length := by omega
    have hp := p11_big (rq_mem cs hj')
    obtain ⟨q1, q2, q3⟩ := (crt_ok cs (j + 1) hj').2 j (Nat.lt_succ_self j)
    have hsm := crt_small cs (Nat.le_of_lt hj')
    have X' := X.sub (ρ' := ("near", .int ((crtS cs j).2 + (0 : Nat) * (crtS cs j).1)) :: ("port", .int (rq cs j).2) :: ("size", .int ((rq cs j).1 : Nat)) :: ("most", .int (89 * topL cs)) :: ("whole", .int (crtS cs j).1) :: rhoR cs) ⟨by show some (D.int _) = some (D.int _); rw [show (crtS cs j).2 + ((0 : Nat) : Int) * ((crtS cs j).1 : Int) = (crtS cs j).2 by simp], rfl, rfl, rfl, rfl, rfl, rfl, rfl, rfl, rfl, trivial⟩
    refine x_while (crtK (rq cs j).1 (crtS cs j).1 (crtS cs j).2 (rq cs j).2) (fun _ => []) (fun i => ("near", .int ((crtS cs j).2 + (i : Nat) * (crtS cs j).1)) :: ("port", .int (rq cs j).2) :: ("size", .int ((rq cs j).1 : Nat)) :: ("most", .int (89 * topL cs)) :: ("whole", .int (crtS cs j).1) :: rhoR cs) X' (fun i hi => ?_) ?_ (fun i hi s X Q E kk => ?_) fun h₂ t₂ X₂ => ?_
    · refine Tst.cast (tst_int (ev_bin (ev_bin (ev_local rfl) (ev_local rfl) op_sub) (ev_local rfl) (op_mod (by omega)))) ?_
      have := q1 i hi
      rw [Int.fmod_eq_emod_of_nonneg _ (by omega)]
      simpa using this
    · refine Tst.cast (tst_int (ev_bin (ev_bin (ev_local rfl) (ev_local rfl) op_sub) (ev_local rfl) (op_mod (by omega)))) ?_
      rw [Int.fmod_eq_emod_of_nonneg _ (by omega)]
      simpa using q2
    · refine x_aug X (ev_local rfl) (ev_local rfl) op_iadd asg_store fun h₃ t₃ X₃ => x_nil (kk _ _ (X₃.sub ⟨?_, rfl, rfl, rfl, rfl, rfl, rfl, rfl, rfl, rfl, trivial⟩))
      show some (D.int _) = some (D.int _)
      rw [show ((i + 1 : Nat) : Int) * ((crtS cs j).1 : Int) = i * (crtS cs j).1 + (crtS cs j).1 by rw [Int.natCast_add, Int.add_mul]; simp, ← Int.add_assoc]
    · refine x_aug X₂ (ev_local rfl) (ev_local rfl) (op_imul (intBits_of_lt (k := 64) (by omega) (by omega))) asg_store fun h₃ t₃ X₃ => x_nil (kk _ _ (X₃.sub ⟨rfl, ?_, rfl, rfl, rfl, rfl, rfl, rfl, trivial⟩))
      show some (D.int _) = some (D.int _)
      rw [show (crtS cs (j + 1)).1 = (crtS cs j).1 * (rq cs j).1 from rfl, Int.natCast_mul]
  · rw [hl] at X₆
    exact X₆
end
end Mine

open PySem PySem.W PyProof.Rows PySem.Calls
set_option Elab.async false
set_option linter.all false
set_option maxRecDepth 100000
namespace Mine
theorem prod_liars (cs : List Int) : ∀ n, liarsAt cs n = (prodN (((List.range n).filter fun i => kd cs i == 2).map (siz cs)) : Nat)
  | 0 => rfl
  | n + 1 => by
    have ih := prod_liars cs n
    rw [List.range_succ, List.filter_append, List.map_append, prodN_append, Int.natCast_mul, ← ih]
    have e2 : liarsAt cs (n + 1) = if spo cs n then liarsAt cs n else if lie cs n then liarsAt cs n * siz cs n else liarsAt cs n := rfl
    rw [e2, List.filter_cons, List.filter_nil]
    unfold kd
    cases spo cs n with
    | true => simp [prodN]
    | false =>
      cases lie cs n with
      | true => simp [prodN]
      | false => simp [prodN]
noncomputable def sv (i : Nat) : Int := if i = 0 then 1 else -1
theorem nth_sv {i : Nat} (h : i < 2) : nth [D.int 1, .int (-1)] i = .int (sv i) := by
  rcases (show i = 0 ∨ i = 1 by omega) with rfl | rfl <;> rfl
noncomputable def foundD (u l s t : Int) : D := .lst [.tup [.int (s * u), .int 0], .tup [.int (s * l), .int 0], .tup [.int t, .int 0]]
theorem found_in {u l δ γ : Int} (hδ : δ = 1 ∨ δ = -1) (hγ : γ = 1 ∨ γ = -1) : ((toPys [foundD u l 1 1, foundD u l 1 (-1), foundD u l (-1) 1, foundD u l (-1) (-1)]).any fun y => PyData.eqv y (toPy (foundD u l (δ * γ) γ))) = true := by
  have key : ∀ s t : Int, PyData.eqv (toPy (foundD u l s t)) (toPy (foundD u l s t)) = true := fun s t => SeqAt.eqv_refl _ (by rfl)
  rcases hδ with rfl | rfl <;> rcases hγ with rfl | rfl
  · simp only [toPys, List.any_cons, show (1 : Int) * 1 = 1 from rfl, key, Bool.true_or]
  · simp only [toPys, List.any_cons, show (1 : Int) * (-1) = -1 from rfl, key, Bool.or_true, Bool.true_or]
  · simp only [toPys, List.any_cons, show (-1 : Int) * 1 = -1 from rfl, key, Bool.or_true, Bool.true_or]
  · simp only [toPys, List.any_cons, show (-1 : Int) * (-1) = 1 from rfl, key, Bool.or_true, Bool.true_or]
section
variable {Z : Zone} {A : Around} {env : Env} {O : Addr → Prop} {B : Addr → Obj → Prop} {s : Shared} {E : Value → Shared → Prop} {Q : Flow → Shared → Prop} {L : Addr}
theorem small_prod {L : Nat} {δ x : Int} (hL : L < 2 ^ 20) (hδ : δ = 1 ∨ δ = -1) (h1 : -89 ≤ x) (h2 : x ≤ 89) : (δ * (L * x)).natAbs < 2 ^ 40 := by
  exact na_one hδ (by rw [Int.natAbs_mul, Int.natAbs_natCast]; exact Nat.lt_of_le_of_lt (Nat.mul_le_mul (Nat.le_of_lt hL) (abs_89 h1 h2)) (by decide))
noncomputable def rhoZ (c : Int) : Rho := [("common", .int c), ("last", .int 0), ("right", .bool true), ("sound", .bool true), ("found", .bool true)]
theorem segE4 (G : ZT Z) {cs : List Int} (hA : A.handled = none) (hdep : A.depth + 200 < recursionLimit) (hun : A.units + 500 < 9000) (X : St Z (lawEnv Z.w.params L) O B [] (rhoN cs (89 * topL cs) (crtS cs (readL cs).length).1 (crtS cs (readL cs).length).2) s)
    (k : ∀ c h' tk, St Z (lawEnv Z.w.params L) O B [] (rhoZ c) { s with heap := h', toks := tk } → Q .next { s with heap := h', toks := tk }) :
    Xs Z A (((lawBody Z.w.params).drop 18).take 4) (lawEnv Z.w.params L) Q E s := by
  have ok := lawOk Z.w.params L
  obtain ⟨hc, _⟩ := crt_ok cs (readL cs).length (Nat.le_refl _)
  rw [List.take_length] at hc
  have hsm := crt_small cs (Nat.le_refl (readL cs).length)
  generalize (crtS cs (readL cs).length).1 = W at *
  generalize (crtS cs (readL cs).length).2 = near at *
  have hs := sgn_ok cs
  obtain ⟨_, u1, u2, l0, l30, xy⟩ := frac_ok cs
  obtain ⟨p1, _, _⟩ := nums_ok cs
  have ht := top_small cs
  obtain ⟨N, δ, a1, a2, hδ, hR, hT⟩ := law_ends cs hc
  have hL0 : 0 < prodN (liesL cs) := prodN_pos _ fun q hq => by
    obtain ⟨i, _, rfl⟩ := List.mem_map.mp hq
    exact Nat.lt_of_lt_of_le (by decide) (siz_big cs i).1
  have hli : liarsAt cs 6 = (prodN (liesL cs) : Nat) := prod_liars cs 6
  have bR := small_prod (L := prodN (liesL cs)) (Nat.lt_of_le_of_lt p1 ht) hδ u1 u2
  have bT := small_prod (L := prodN (liesL cs)) (x := lov cs) (Nat.lt_of_le_of_lt p1 ht) hδ (Int.le_trans (by decide) (Int.le_of_lt l0)) (Int.le_trans l30 (by decide))
  have hlo := hc.lo
  have hhi := hc.hi
  have bW : (sgn cs * (W : Int)).natAbs < 2 ^ 63 := na_one hs (Nat.lt_of_lt_of_le hsm.2 (by decide))
  have bn : (sgn cs * near).natAbs < 2 ^ 63 := na_one hs (na_pos hlo hhi (Nat.le_trans (Nat.le_of_lt hsm.2) (by decide)))
  have bs : Builtin.Int.intBits (sgn cs) ≤ 64 := intBits_le_64 (one_lo hs) (one_up hs)
  refine x_tup X (ev_fnU (G.K 179 _ rfl) rfl (fn_law_run G.toZL (e := ⟨sgn cs * W, sgn cs * near, sgn cs, 0⟩) (most := 89 * topL cs) rfl a1 a2 (Int.mul_nonneg (by decide) (Int.natCast_nonneg _)) bW bn) hA (dep hdep) (dep hun) (ev_g G.toZK ok rfl) (evs_cons (ev_bin (ev_local rfl) (ev_local rfl) (op_mul bs)) (evs_cons (ev_bin (ev_local rfl) (ev_local rfl) (op_mul bs)) (evs_cons (ev_local rfl) (evs_cons (ev_local rfl) evs_nil)))))
    (asg_tup hA (asgs_cons asg_name (asgs_cons asg_name (asgs_cons asg_name (asgs_cons asg_name asgs_nil))))) fun h₁ t₁ X₁ => ?_
  generalize (eu ⟨sgn cs * W, sgn cs * near, sgn cs, 0⟩ N).r = R at hR X₁
  generalize (eu ⟨sgn cs * W, sgn cs * near, sgn cs, 0⟩ N).o = T at hT X₁
  have X₁' := X₁.sub (ρ' := [("rest", .int R), ("often", .int T), ("right", .bool true), ("liars", .int (liarsAt cs 6)), ("lower", .int (lov cs)), ("upper", .int (upv cs))]) ⟨rfl, rfl, rfl, rfl, rfl, rfl, trivial⟩
  obtain ⟨N2, γ, b1, b2, hγ, hb, hr0⟩ := law_gcd (o0 := 1) hL0 hδ hR hT xy
  have bR' : R.natAbs < 2 ^ 40 := hR ▸ bR
  have bT' : T.natAbs < 2 ^ 40 := hT ▸ bT
  refine x_tup X₁' (ev_fnU (G.K 179 _ rfl) rfl (fn_law_run G.toZL (e := ⟨T, R, 1, 0⟩) (most := 0) rfl b1 b2 (by decide) (na_lt bT') (na_lt bR')) hA (dep hdep) (dep hun) (ev_g G.toZK ok rfl) (evs_cons (ev_local rfl) (evs_cons (ev_local rfl) (evs_cons ev_int (evs_cons ev_int evs_nil)))))
    (asg_tup hA (asgs_cons asg_name (asgs_cons asg_name (asgs_cons asg_name (asgs_cons asg_name asgs_nil))))) fun h₂ t₂ X₂ => ?_
  rw [hr0] at X₂
  generalize (eu ⟨T, R, 1, 0⟩ N2).b = c at hb X₂
  have X₂' := X₂.sub (ρ' := [("common", .int c), ("last", .int 0), ("sound", .bool true), ("rest", .int R), ("often", .int T), ("right", .bool true), ("liars", .int (liarsAt cs 6)), ("lower", .int (lov cs)), ("upper", .int (upv cs))]) ⟨rfl, rfl, rfl, rfl, rfl, rfl, rfl, rfl, rfl, trivial⟩
  obtain ⟨f1, f2, f3, f4, f5, f6, hc0⟩ := law_found hL0 hδ hγ hR hT hb
  have bc : c.natAbs < 2 ^ 40 := hb ▸ na_one hγ (Nat.lt_of_le_of_lt p1 (Nat.lt_of_lt_of_le ht (by decide)))
  refine x_assign (d := foundD (upv cs) (lov cs) (δ * γ) γ) X₂' (Ev.cast (ev_lst (evs_cons (ev_fn (G.K 73 _ rfl) rfl (fn_int_divmod G.toZL (a := R) (b := c) (na_lo bR') (na_up bR') (na_lo bc) (na_up bc) hc0) hA (dep hdep) (ev_g G.toZK ok rfl) (evs_cons (ev_local rfl) (evs_cons (ev_local rfl) evs_nil)))
    (evs_cons (ev_fn (G.K 73 _ rfl) rfl (fn_int_divmod G.toZL (a := T) (b := c) (na_lo bT') (na_up bT') (na_lo bc) (na_up bc) hc0) hA (dep hdep) (ev_g G.toZK ok rfl) (evs_cons (ev_local rfl) (evs_cons (ev_local rfl) evs_nil)))
    (evs_cons (ev_fn (G.K 73 _ rfl) rfl (fn_int_divmod G.toZL (a := c) (b := liarsAt cs 6) (na_lo bc) (na_up bc) (hli ▸ nat_lo) (hli ▸ nat_up (Nat.lt_of_le_of_lt p1 ht)) (hli ▸ Int.ne_of_gt (Int.ofNat_lt.mpr hL0))) hA (dep hdep) (ev_g G.toZK ok rfl) (evs_cons (ev_local rfl) (evs_cons (ev_local rfl) evs_nil))) evs_nil)))) (by rw [hli, f1, f2, f3, f4, f5, f6]; rfl)) asg_store fun h₃ t₃ X₃ => ?_
  have hsv : ∀ i, (sv i).natAbs ≤ 1 := fun i => by unfold sv; split <;> decide
  have bsv : ∀ i, Builtin.Int.intBits (sv i) ≤ 64 := fun i => intBits_le_64 (na_lo (Nat.lt_succ_of_le (hsv i))) (na_up (Nat.lt_succ_of_le (hsv i)))
  refine x_assign (d := .bool true) X₃ (Ev.cast (ev_cmp (ev_local rfl) (ev_comp2 (N := 2) (N2 := 2) (fun i j => foundD (upv cs) (lov cs) (sv i) (sv j)) [("lower", .int (lov cs)), ("upper", .int (upv cs))] (fun i => [("s", .int (sv i)), ("lower", .int (lov cs)), ("upper", .int (upv cs))]) (fun i j => [("t", .int (sv j)), ("s", .int (sv i)), ("lower", .int (lov cs)), ("upper", .int (upv cs))])
    (it_tuple (ds := [.int 1, .int (-1)]) hA (ev_tup (evs_cons ev_int (evs_cons (ev_un ev_int op_neg) evs_nil)))) (by decide) rfl (by decide) rfl (by decide)
    (fun C x d hg => by rcases get_two hg with rfl | rfl <;> exact fun h => by cases h)
    (fun x c h => by rcases look_two h with ⟨rfl, rfl⟩ | ⟨rfl, rfl⟩ <;> exact ⟨(fun h => by cases h), rfl, fun d hg => (by cases hg; rfl)⟩)
    (fun i => ⟨rfl, rfl, trivial⟩) (fun i j => ⟨rfl, rfl, rfl, trivial⟩) (fun i hi C O' B' own' hO => by rw [nth_sv hi]; exact asg_name)
    (fun i hi C O' B' own' hO => it_tuple (ds := [.int 1, .int (-1)]) hA (ev_tup (evs_cons ev_int (evs_cons (ev_un ev_int op_neg) evs_nil)))) (fun i hi j hj C O' B' own' => by rw [nth_sv hj]; exact asg_name)
    (fun i hi j hj C O' B' own' => ev_lst (evs_cons (ev_tup (evs_cons (ev_bin (ev_local rfl) (ev_cell rfl rfl) (op_mul (bsv i))) (evs_cons ev_int evs_nil))) (evs_cons (ev_tup (evs_cons (ev_bin (ev_local rfl) (ev_cell rfl rfl) (op_mul (bsv i))) (evs_cons ev_int evs_nil))) (evs_cons (ev_tup (evs_cons (ev_local rfl) (evs_cons ev_int evs_nil))) evs_nil)))))
    (op_inD (ds := [foundD (upv cs) (lov cs) 1 1, foundD (upv cs) (lov cs) 1 (-1), foundD (upv cs) (lov cs) (-1) 1, foundD (upv cs) (lov cs) (-1) (-1)]) rfl rfl rfl rfl ?_)) (by rw [found_in hδ hγ])) asg_store fun h₄ t₄ X₄ => x_nil (k c _ _ (X₄.sub ⟨rfl, rfl, rfl, rfl, rfl, trivial⟩))
  show A.units + 1 + min _ _ < 9900
  exact Nat.lt_of_le_of_lt (Nat.add_le_add_left (Nat.min_le_right _ _) _) (dep (m := 500) (n := 1 + 2) (Nat.lt_trans hun (by decide)))
end
end Mine

open PySem PySem.W PyProof.Rows PySem.Calls
set_option Elab.async false
set_option linter.all false
set_option maxRecDepth 100000
namespace Mine
section
variable {Z : Zone} {A : Around} {env : Env} {O : Addr → Prop} {B : Addr → Obj → Prop} {own : List (Addr × List D)} {ρ : Rho} {s : Shared} {E : Value → Shared → Prop}
theorem wpC_Return {prog : Program} {w : World} {e : PySem.Expr} {pos : Pos} {Q : Flow → Shared → Prop} (h : wpC (model prog w) A (eval e env) (fun v => Q (.ret v)) E s) : wpC (model prog w) A (exec (.Return (some e) pos) env) Q E s := by
  rw [arm_exec_Return]
  refine wpC_then (wpAny_standAt ?_)
  show wpC _ A (do return .ret (← eval e env)) Q E s
  exact wpC_bind (wpC_mono h (fun v s' q => wpC_pure q) fun _ _ x => x)
/-- three that hold, and a last one -/
theorem wpC_and4 {a b c d : PySem.Expr} {pos : Pos} {Q : Value → Shared → Prop} (X : St Z env O B own ρ s) (h1 : Ev Z A env O B own ρ a (.bool true)) (h2 : Ev Z A env O B own ρ b (.bool true)) (h3 : Ev Z A env O B own ρ c (.bool true))
    (h4 : ∀ h' tk, St Z env O B own ρ { s with heap := h', toks := tk } → Grow Z O s.heap h' → s.toks ≤ tk → wpC (model Z.prog Z.w) A (eval d env) Q E { s with heap := h', toks := tk }) : wpC (model Z.prog Z.w) A (eval (.BoolOp .And [a, b, c, d] pos) env) Q E s := by
  have step : ∀ {s : Shared} {x : PySem.Expr} {rest : Sem Value} {Q : Value → Shared → Prop}, St Z env O B own ρ s → Ev Z A env O B own ρ x (.bool true) → (∀ h' tk, St Z env O B own ρ { s with heap := h', toks := tk } → Grow Z O s.heap h' → s.toks ≤ tk → wpC (model Z.prog Z.w) A rest Q E { s with heap := h', toks := tk }) →
      wpC (model Z.prog Z.w) A (do
        let v ← eval x env
        standAt pos
        let t ← holding [v] (truthy v)
        match BoolOp.And, t with
        | .And, false | .Or, true => pure v
        | _, _ => rest) Q E s := fun {s x rest Q} X h k => by
    refine wpC_then (h.run s X _ _ fun v h₁ t₁ g₁ le₁ r₁ => wpC_then (wpAny_standAt (wpC_then (wpAny_holding ?_))))
    simp only [Rep] at r₁
    subst r₁
    exact wpAny_truthy_bool (k h₁ t₁ (X.grow g₁ le₁) g₁ le₁)
  show wpC _ A (do
    let v ← eval a env
    standAt pos
    let t ← holding [v] (truthy v)
    match BoolOp.And, t with
    | .And, false | .Or, true => pure v
    | _, _ => boolOp pos .And [eval b env, eval c env, eval d env]) Q E s
  refine step X h1 fun h₁ t₁ X₁ g₁ le₁ => ?_
  show wpC _ A (do
    let v ← eval b env
    standAt pos
    let t ← holding [v] (truthy v)
    match BoolOp.And, t with
    | .And, false | .Or, true => pure v
    | _, _ => boolOp pos .And [eval c env, eval d env]) Q E _
  refine step X₁ h2 fun h₂ t₂ X₂ g₂ le₂ => ?_
  show wpC _ A (do
    let v ← eval c env
    standAt pos
    let t ← holding [v] (truthy v)
    match BoolOp.And, t with
    | .And, false | .Or, true => pure v
    | _, _ => boolOp pos .And [eval d env]) Q E _
  refine step X₂ h3 fun h₃ t₃ X₃ g₃ le₃ => ?_
  exact h4 h₃ t₃ X₃ ((g₁.trans g₂).trans g₃) (Nat.le_trans (Nat.le_trans le₁ le₂) le₃)
end
theorem cut_at {α : Type} (B : List α) (n m : Nat) : (B.drop n).take m ++ B.drop (n + m) = B.drop n := by rw [← List.drop_drop, List.take_append_drop]
theorem cut_A {α : Type} (B : List α) : B.take 2 ++ ((B.drop 2).take 2 ++ ((B.drop 4).take 4 ++ ((B.drop 8).take 1 ++ ((B.drop 9).take 3 ++ B.drop 12)))) = B := by
  rw [cut_at B 9 3, cut_at B 8 1, cut_at B 4 4, cut_at B 2 2, List.take_append_drop]
theorem cut_E {α : Type} (B : List α) : (B.drop 13).take 2 ++ ((B.drop 15).take 2 ++ ((B.drop 17).take 1 ++ ((B.drop 18).take 4 ++ B.drop 22))) = B.drop 13 := by
  rw [cut_at B 18 4, cut_at B 17 1, cut_at B 15 2, cut_at B 13 2]
section
variable {Z : Zone} {A : Around} {O : Addr → Prop} {B : Addr → Obj → Prop} {s : Shared} {L : Addr} {Q : Flow → Shared → Prop}
theorem law_end (G : ZT Z) (hA : A.handled = none) (hdep : A.depth + 250 < recursionLimit) (hun : A.units + 550 < 9000) (hfr : A.frames = some [lawEnv Z.w.params L]) (hB : ∀ b ∈ frs [lawEnv Z.w.params L], ∀ o, ¬ B b o) (K : ∀ {h tk}, (∀ b o, B b o → h.get? b = some o) → St Z (lawEnv Z.w.params L) O B [] [] { s with heap := h, toks := tk } → FrOk O h [lawEnv Z.w.params L]) {c : Int} (X : St Z (lawEnv Z.w.params L) O B [] (rhoZ c) s)
    (kret : ∀ h' tk, (∀ b o, B b o → h'.get? b = some o) → Tab Z O h' → Q (.ret (.bool true)) { s with heap := h', toks := tk }) :
    wpC (model Z.prog Z.w) A (execs ((lawBody Z.w.params).drop 22) (lawEnv Z.w.params L)) Q noE s := by
  have ok := lawOk Z.w.params L
  refine wpC_execs_cons (wpC_Return (wpC_and4 X (ev_local rfl) (ev_local rfl) (ev_local rfl) fun h₁₂ t₁₂ X₁₂ g₁₂ le₁₂ => wpC_callF X₁₂ (X₁₂.zone _ _ (G.K 186 _ rfl)) rfl (ev_g G.toZK ok rfl) (evs_cons (ev_local rfl) (evs_cons (ev_local rfl) evs_nil)) fun h₁₃ t₁₃ vs' X₁₃ g₁₃ le₁₃ r₁₃ => ?_))
  have hc9 : cLine = 9900 := rfl
  refine wpC_call (call_barred G hA (by omega) (by omega) hfr (K (fun b o e => X₁₃.base b o e) (X₁₃.sub trivial)) X₁₃.wd r₁₃ fun v h₁₄ t₁₄ g₁₄ le₁₄ r₁₄ => ?_)
  simp only [Rep] at r₁₄
  subst r₁₄
  exact kret h₁₄ t₁₄ (fun b o e => g₁₄.keep b o (fun q => X.tabB b o q e) (fun hb => hB b hb o e) (X₁₃.base b o e)) g₁₄.tab
theorem law_body (G : ZT Z) {xs : List Int} (hx : xs.length ≤ sizeLine) (hA : A.handled = none) (hdep : A.depth + 250 < recursionLimit) (hun : A.units + 550 < 9000) (hfr : A.frames = some [lawEnv Z.w.params L]) (hB : ∀ b ∈ frs [lawEnv Z.w.params L], ∀ o, ¬ B b o) (hq : ∀ q ∈ Z.tl, O q.P) (H : CellsOk Z.w.params L O B) (X : St Z (lawEnv Z.w.params L) O B [] [("script", .lst (xs.map .int))] s)
    (kret : ∀ h' tk, (∀ b o, B b o → h'.get? b = some o) → Tab Z O h' → Q (.ret (.bool true)) { s with heap := h', toks := tk }) :
    wpC (model Z.prog Z.w) A (execs (lawBody Z.w.params) (lawEnv Z.w.params L)) Q noE s := by
  have hc9 : cLine = 9900 := rfl
  have h8 : (lawCells xs).length = 8 := cellsUp_len _ _
  have K : ∀ {own ρ h tk}, St Z (lawEnv Z.w.params L) O B own ρ { s with heap := h, toks := tk } → FrOk O h [lawEnv Z.w.params L] := fun X => FrOk.push (O := O) (hin := s.heap) X rfl (show ScopeKind.function ≠ ScopeKind.module by decide) (fun env he => nomatch he) (fun b q => q) fun b o hb e => nomatch hb
  rw [← cut_A (lawBody Z.w.params)]
  refine xs_split (segA1 G hx hA (by omega) H X fun h₂ t₂ X₂ => ?_)
  generalize lawCells xs = cs at X₂ h8
  refine xs_split (segA2 G hA H X₂ fun h₃ t₃ X₃ => ?_)
  refine xs_split ?_
  refine segA3 G h8 hA H X₃ ?_
  intro a1 a2 a3 h₄ t₄ n1 n2 n3 X₄
  refine xs_split (segB G h8 hA (by omega) X₄ fun h₅ t₅ X₅ => ?_)
  refine xs_split (segC G hA (by omega) X.OL hq n1 n2 n3 X₅ fun h₆ t₆ X₆ => ?_)
  refine segD (rest := []) G hA (by omega) (by omega) hfr (K X₆) hB X₆ fun h₇ t₇ X₇ => ?_
  rw [← cut_E (lawBody Z.w.params)]
  refine xs_split (segE1 G hA (by omega) X₇ fun h₈ t₈ X₈ => ?_)
  refine xs_split (segE2 G hA X₈ fun h₉ t₉ X₉ => ?_)
  refine xs_split (segE3 G hA X₉ fun h₁₀ t₁₀ X₁₀ => ?_)
  refine xs_split (segE4 G hA (by omega) (by omega) X₁₀ fun c h₁₁ t₁₁ X₁₁ => ?_)
  exact law_end G hA hdep hun hfr hB (fun _ X => K X) X₁₁ fun h' tk hb ht => kret h' tk hb ht
end
section
variable {Z : Zone} {A : Around} {O : Addr → Prop} {s : Shared} {R : Result → Shared → Prop}
/-- law, called: it tells True -/
theorem call_law (G : ZT Z) {xs : List Int} {v : Value} (hx : xs.length ≤ sizeLine) (hA : A.handled = none) (hdep : A.depth + 300 < recursionLimit) (hun : A.units + 600 < 9000) (hfr : A.frames = some []) (W : Wd0 Z O s) (r : Rep O s.heap s.toks (.lst (xs.map .int)) v)
    (hret : ∀ h' tk, (∀ b o, Stood Z s.heap b o → h'.get? b = some o) → (∀ q ∈ Z.tl, ∃ ps, h'.get? q.P = some (tabObj ps)) → R (.ok (.ret (.bool true))) { s with heap := h', toks := tk }) :
    codeC (model Z.prog Z.w) A (.call (.ref 191) ⟨[v], []⟩) R s := by
  refine fn_enterCC (x := "script") (d := .lst (xs.map .int)) (fun v => v = .bool true) G.toZoneOk W (dep0 hdep) (W.zone _ _ (G.K 191 _ rfl)) rfl (codeRec_of (Frag.In.keeps G.K W.zone) rfl) rfl rfl rfl rfl rfl rfl rfl (by simp only [Reps]; exact ⟨v, [], rfl, r, rfl⟩) ?_ (fun v h' tk hB hT hv le => by subst hv; exact hret h' tk hB hT)
  intro L h₁ t₁ hLn X hC Q kret
  refine law_body (L := L) (O := OC O (lawEnv Z.w.params L)) (B := Stood Z s.heap) G hx hA (show A.depth + 1 + 250 < recursionLimit by omega) (show A.units + 3 + 550 < 9000 by omega) (Around.frames_deeper hfr) (fun b hb o e => ?_) (fun q hq => .inl (W.tabs q hq).1) ⟨fun x c hc => ⟨.inr (.inr ⟨x, hc⟩), (hC x c hc).1, (hC x c hc).2⟩⟩ X fun h' tk hb ht => kret _ h' tk hb ht rfl
  obtain ⟨env', he', hf'⟩ := mem_frs.mp hb
  simp only [List.mem_cons, List.not_mem_nil, or_false] at he'
  subst he'
  have hbL : b = L := by cases hf'; rfl
  rw [hbL] at e
  have := e.1
  rw [hLn] at this; cases this
end
end Mine

open PySem PySem.W PyProof.Rows PySem.Calls
set_option Elab.async false
set_option linter.all false
set_option maxRecDepth 100000
namespace Mine
theorem Reps.ints {O : Addr → Prop} {h : Heap} {T : Nat} : ∀ {vs : List Value} {ns : List Int}, IntsAre vs ns → Reps O h T (ns.map .int) vs
  | _, _, .nil => by simp only [List.map_nil, Reps]
  | _, _, .cons n t r => by
    have := Reps.ints (O := O) (h := h) (T := T) r
    simp only [List.map_cons, Reps, Rep]
    exact ⟨_, _, rfl, ⟨t, rfl⟩, this⟩
noncomputable def lawTabs : List (Addr × Addr) := [(58, 54), (51, 47)]
noncomputable def lawTl : List Tabi := [⟨54, 48, 4, "_digits2int.<locals>.inner"⟩, ⟨47, 33, 4, "_int2digits.<locals>.inner"⟩]
section
variable {prog : Program} {w : World} {h : Heap} {mg mb : PySem.Str → Option Value} {p : Program} {loose : List PySem.Str} {mean : ExcName → Option Value}
/-- the zone that the walk leans on: what stood before the call, but for the two code tables that the call fills -/
noncomputable def lawZone (prog : Program) (w : World) (h : Heap) (mg mb : PySem.Str → Option Value) : Zone := ⟨prog, w, ghostOf h lawTabs, mg, mb, lawTl⟩
theorem lawZone_ok (hT : TabsAt lawTabs h) (KX : (KK w.params).In h) (T : Top p loose mean mg mb h) (hK : noTabs (KK w.params) = true) : ZT (lawZone prog w h mg mb) := by
  have T' := ghost_top hT T
  obtain ⟨c1, c2, _⟩ := ghost_code hT
  exact { g := T'.g, b := T'.b, nolimit := T'.nolimit, K := ghost_K hT KX hK, boot := T'.builtins, bm := T'.bmain, tl := rfl, C1 := c1, C2 := c2, top := ⟨_, _, topRead_of T'⟩ }
theorem lawZone_wd {s : Shared} (hT : TabsAt lawTabs s.heap) : Wd0 (lawZone prog w s.heap mg mb) (fun b => b ∈ lawTabs.map (·.2)) s where
  zone := fun b o e => of_hideAll _ e
  OZ := fun b o hb e => by
    have := hideAll_none (h := s.heap) (lawTabs.map (·.2)) hb
    rw [show (lawZone prog w s.heap mg mb).H = hideAll s.heap (lawTabs.map (·.2)) from rfl, this] at e
    cases e
  Oex := fun b hb => by
    obtain ⟨q, hq, rfl⟩ := List.mem_map.mp hb
    exact ⟨_, (hT q hq).2⟩
  tabs := fun q hq => by
    have h1 := (hT (58, 54) (.head _)).2
    have h2 := (hT (51, 47) (.tail _ (.head _))).2
    rcases List.mem_cons.mp hq with rfl | hq
    · exact ⟨.head _, _, h1, .inl rfl⟩
    · rcases List.mem_cons.mp hq with rfl | hq
      · exact ⟨.tail _ (.head _), _, h2, .inl rfl⟩
      · cases hq
theorem law_keep {s : Shared} (hT : TabsAt lawTabs s.heap) {h' : Heap} (hk : ∀ b o, Stood (lawZone prog w s.heap mg mb) s.heap b o → h'.get? b = some o)
    (hg : ∀ q ∈ (lawZone prog w s.heap mg mb).tl, ∃ ps, h'.get? q.P = some (tabObj ps)) : OldK s.heap h' := by
  have no : ∀ b, b ∉ lawTabs.map (·.2) → ¬ isTab (lawZone prog w s.heap mg mb) b := by
    rintro b hb ⟨q, hq, rfl⟩
    rcases List.mem_cons.mp hq with rfl | hq
    · exact hb (.head _)
    · rcases List.mem_cons.mp hq with rfl | hq
      · exact hb (.tail _ (.head _))
      · cases hq
  have gr : ∀ b, b ∈ lawTabs.map (·.2) → ∃ ps, h'.get? b = some (tabObj ps) := by
    intro b hb
    rcases List.mem_cons.mp hb with rfl | hb
    · exact hg _ (.head _)
    · rcases List.mem_cons.mp hb with rfl | hb
      · exact hg _ (.tail _ (.head _))
      · cases hb
  refine ⟨fun b o e => ?_, fun b o e => ?_⟩
  · by_cases hb : b ∈ lawTabs.map (·.2)
    · obtain ⟨ps, hP⟩ := gr b hb
      obtain ⟨q, hq, rfl⟩ := List.mem_map.mp hb
      have e2 := (hT q hq).2
      rw [e] at e2
      cases e2
      exact .inr (.inl ⟨((hT q hq).1.tab (hT q hq).2).isCodeTable, rfl, #[], ps, rfl, by rw [Array.empty_append]; exact hP⟩)
    · exact .inl (hk b o ⟨e, no b hb⟩)
  · by_cases hb : b ∈ lawTabs.map (·.2)
    · obtain ⟨ps, hP⟩ := gr b hb
      exact ⟨_, hP⟩
    · exact ⟨o, hk b o ⟨e, no b hb⟩⟩
theorem list_free {s : Shared} (hT : TabsAt lawTabs s.heap) {a : Addr} {vs : Array Value} (hL : s.heap.IsList a vs) : a ∉ lawTabs.map (·.2) := fun hb => by
  obtain ⟨q, hq, rfl⟩ := List.mem_map.mp hb
  have e2 := (hT q hq).2
  obtain ⟨o, e, hc, _⟩ := hL
  rw [e] at e2
  cases e2
  cases hc
end
end Mine

open PySem PySem.W PyProof.Rows PySem.Calls
set_option Elab.async false
set_option linter.all false
set_option maxRecDepth 100000
namespace Mine
set_option maxHeartbeats 8000000 in
theorem holds : PySem.Challenge.rw_sw0033_01.Holds := by
  refine Mine.hd ?_
  intro w s₀ s₁ mg mb G Y fa o pm cd doc dV kV ho hd hcd hD hmg hg args vals as hpre hlay hrd hwl hlo
  have KX := km_in_of Y
  have Y2 := km_tabs_of Y
  clear Y
  have T := G.T
  clear G
  have hT : TabsAt lawTabs s₁.heap := List.forall_mem_cons.mpr ⟨⟨codeHd_of_K (c := 58) (P := 54) KX (by kernel_rfl), Y2 54 (.head _)⟩,
    List.forall_mem_cons.mpr ⟨⟨codeHd_of_K (c := 51) (P := 47) KX (by kernel_rfl), Y2 47 (.tail _ (.head _))⟩, fun _ h => nomatch h⟩⟩
  have e1 : mg (PySem.Str.ofString "law") = some (.ref 191) := mg_of KX T.g rfl
  have e2 : fa = 191 := by
    have e3 : some (Value.ref fa) = some (.ref 191) := hmg.symm.trans e1
    cases e3; rfl
  subst e2
  clear ho hd hcd hD hmg e1 Y2
  wrow_args hpre hlay hrd hwl hlo
  rename_i xs _ _ _ _ _ _ _ l vs _ hL _ _ _ hI _ hc _
  have hlen : xs.length ≤ 63 := by omega
  dsimp only
  refine wpC_call (call_law (Z := lawZone PySem.Challenge.rw_sw0033_01.row.toRowW.prog w s₁.heap mg mb) (O := fun b => b ∈ lawTabs.map (·.2)) (xs := xs) (lawZone_ok hT KX T (by kernel_rfl)) (by rw [sizeLine_eq]; omega) rfl (by decide) (by decide) rfl (lawZone_wd hT) ?_ fun h' tk hk hgr => ?_)
  · simp only [Rep]
    exact ⟨l, vs, rfl, list_free hT hL, hL, Reps.ints hI⟩
  · refine ⟨.inl ⟨.bool true, .bool true, [], rfl, raisesW_false ?_, .bool true, ?_, fun _ => ⟨List.nodup_nil, fun a ha => nomatch ha⟩⟩, law_keep hT hk hgr, rfl, .of_eq hg⟩
    · wrow_none_raised
    · wrow_post
end Mine

theorem PySem.Challenge.cw_sw0033_01_holds : PySem.Challenge.rw_sw0033_01.Holds := by
  exact Mine.holds
