import PyProof.Rows.All
import Wide.All
import OpenK.AllK
import Wide.FinOn
import KE.KTurns
import PyProof.StrLawsFrom
import PyProof.StrLawsTight
import PyProof.StrLawsNeg
import KE.KLcPair
import PySem.Challenge.RW_ti0020_01
set_option Elab.async false
set_option compiler.extract_closed false
set_option linter.all false
namespace Mine
open PySem PySem.Spec PySem.Calls PySem.W PyProof.Rows
local macro_rules | `(tactic| wtm_at "t0") => `(tactic| (intro hsz9; (try simp only [List.size_toArray] at hsz9)))
local macro_rules | `(tactic| wtm_at "t1") => `(tactic| (intro D9 h9 vs9 hi9 F9 N9 l9; (try k_lt l9); (try k_sweep)))
local macro_rules | `(tactic| wtm_at "t3") => `(tactic| (intro D9 t19 t29 h9 tk9 F9 N9 hl9; (try k_lt hl9); (try dsimp only); (try k_fold)))
local macro_rules | `(tactic| wtm_at "t5") => `(tactic| (intro D9 h9 F9 N9 l9; (try k_lt l9); (try k_sweep)))
local macro_rules | `(tactic| wtm_at "t6") => `(tactic| (intro g' L' h' tk' cells' FG' F' N' Y' B' X' T' l1; k_cells Y'; (try simp only [List.cons_append, List.nil_append] at N'); (try dsimp only); (try k_lift B'); (try k_fold)))
local macro_rules | `(tactic| wtm_at "t7") => `(tactic| (intro D9 h9 tk9 k9 l9 F9 N9; (try k_lt l9); (try dsimp only); (try k_fold)))
local macro_rules | `(tactic| wtm_at "t8") => `(tactic| (intro D' ws9 h' hw9 F' N' l1; (try k_lt l1); (try k_sweep)))
local macro_rules | `(tactic| wtm_at "t10") => `(tactic| (intro D9 x1 x2 x3 x4 x5 t1 t2 t3 t4 t5 t6 h9 tk9 l9 o9 F9 N9; (try k_lt l9); (try dsimp only); (try k_fold)))
local macro_rules | `(tactic| wtm_at "t12") => `(tactic| (intro D' ws9 ms9 h' hw9 F' N' l1; (try k_lt l1); (try k_sweep)))
-- TopT
section TopT
open PySem PySem.W PyProof.Rows
set_option maxRecDepth 100000
set_option maxHeartbeats 8000000
def viewBody (l : List Stmt) : List Stmt := (l.take 8).drop 1 ++ ((l.take 11).drop 9 ++ ((l.take 19).drop 12 ++ l.drop 20))
def view : Program := { PySem.Challenge.pw_ti0020_01 with main := { PySem.Challenge.pw_ti0020_01.main with body := viewBody PySem.Challenge.pw_ti0020_01.main.body } }
local macro_rules | `(tactic| o_law) => `(tactic| refine holds_law (by delta OpenLaw.wellSaid OpenRow.wellSaid OpenRow.partSaid OpenScript.wellSaid looksOpen; (repeat' (with_reducible refine look_both ?_ ?_)); all_goals decide +kernel) fun said => ?_)
local macro_rules | `(tactic| o_head $H:term) => `(tactic|
  refine holds_open (q := view) (loose := []) (Xt := fun s => xlAt view [] s && recOk (RowW.records (OpenRow.toRowW (OpenLaw.row PySem.Challenge.rw_ti0020_01))) s) (XP := XL view []) (Yf := Hook.obs $H) (Ya := Hook.val $H) (YP := Hook.says $H) (N := 1528)
    (fun _ => by kernel_rfl) (Hook.of $H) (Hook.keeps $H) (fun s e => xl_of s (Bool.and_eq_true_iff.mp e).1) XL.keeps (by rfl) (by rfl) (by rfl) (fun s e => recFacts_of (Bool.and_eq_true_iff.mp e).2) (by rfl) (by first | assumption | decide +kernel) (by decide +kernel) ⟨rfl, rfl, rfl, rfl, rfl, by decide +kernel⟩ ?hw ?hc)
open_top hd for PySem.Challenge.rw_ti0020_01
end TopT
-- Ar
section Ar
-- plain arithmetic: proofs of a few terms in place of omega's
theorem sub3 {x m y : Nat} (h1 : x ≤ m) (h2 : m ≤ y) : y - x = (m - x) + (y - m) := ((Nat.add_comm _ _).trans (Nat.sub_add_sub_cancel h2 h1)).symm
theorem min_sub {a b c : Nat} (h : b ≤ a) : min (b - c) (a - c) = b - c := Nat.min_eq_left (Nat.sub_le_sub_right h c)
theorem ts1 {x y : Int} (h0 : 0 ≤ x) (h1 : x + 1 = y) : y.toNat - x.toNat = 1 := by
  obtain ⟨X, rfl⟩ := Int.eq_ofNat_of_zero_le h0
  subst h1
  exact Nat.add_sub_cancel_left X 1
theorem nat_sub {x M : Int} (h0 : 0 ≤ x) (h : x ≤ M) : M - x = ((M.toNat - x.toNat : Nat) : Int) := by
  rw [Int.ofNat_sub (Int.toNat_le_toNat h), Int.toNat_of_nonneg h0, Int.toNat_of_nonneg (Int.le_trans h0 h)]
theorem tn_lt {x : Int} {k : Nat} (h0 : 0 ≤ x) (h : x < k) : x.toNat < k := (Int.toNat_lt h0).mpr h
theorem tn_le {x : Int} {k : Nat} (h : x ≤ k) : x.toNat ≤ k := Int.toNat_le.mpr h
theorem tn_two (x : Int) : (2 * x).toNat = 2 * x.toNat := by
  cases x with
  | ofNat n => rfl
  | negSucc n => rfl
theorem mid_le {x y : Int} (h : x ≤ y) : x ≤ (x + y) / 2 ∧ (x + y) / 2 ≤ y :=
  ⟨Int.le_ediv_of_mul_le (by decide) (by rw [Int.mul_comm, Int.two_mul]; exact Int.add_le_add_left h x),
   Int.ediv_le_of_le_mul (by decide) (by rw [Int.mul_comm, Int.two_mul]; exact Int.add_le_add_right h y)⟩
theorem mid_lt {x y : Int} (h : x < y) (h2 : x + 1 ≠ y) : x < (x + y) / 2 ∧ (x + y) / 2 < y :=
  have h3 : x + 1 + 1 ≤ y := Int.add_one_le_of_lt (Int.lt_iff_le_and_ne.mpr ⟨Int.add_one_le_of_lt h, h2⟩)
  ⟨Int.lt_of_add_one_le (Int.le_ediv_of_mul_le (by decide) (by
     rw [Int.mul_comm, Int.two_mul, Int.add_assoc]
     refine Int.add_le_add_left ?_ x
     rw [Int.add_comm 1]; exact h3)),
   Int.ediv_lt_of_lt_mul (by decide) (by rw [Int.mul_comm, Int.two_mul]; exact Int.add_lt_add_right h y)⟩
theorem sub_le_of {a b k : Nat} (h : a ≤ k) : a - b ≤ k := Nat.le_trans (Nat.sub_le _ _) h
theorem int_sub_le {a b k : Int} (h : a ≤ k) (h0 : 0 ≤ b) : a - b ≤ k := Int.le_trans (Int.sub_le_self a h0) h
theorem two_sub {S a b : Nat} (h : a + b ≤ S) : ((S : Nat) : Int) - (a : Nat) - (b : Nat) = ((S - a - b : Nat) : Int) := by
  rw [Int.ofNat_sub (Nat.le_sub_of_add_le' h), Int.ofNat_sub (Nat.le_trans (Nat.le_add_right _ _) h)]
theorem mod_two {S a b r : Nat} (h : a + b ≤ S) : ((S : Nat) : Int) - (a : Nat) - (b : Nat) = ((S - a - b : Nat) : Int) ∧ ((((S : Nat) : Int) - (a : Nat) - (b : Nat)) % 2 = (r : Nat) ↔ (S - a - b) % 2 = r) :=
  ⟨two_sub h, by rw [two_sub h]; exact Int.ofNat_inj⟩
theorem sub_flip {k i : Nat} : k - 1 - i = k - (i + 1) := by rw [Nat.sub_sub, Nat.add_comm]
theorem sub_one_up {k i : Nat} (h : i < k) : k - i = (k - (i + 1)) + 1 := (Nat.sub_add_cancel (Nat.sub_pos_of_lt h)).symm
theorem lt_dec {n i : Nat} (h : i < n) : n + 1 - (i + 1) < n + 1 - i := Nat.sub_lt_sub_left (Nat.lt_succ_of_lt h) (Nat.lt_succ_self i)
theorem add_two_sub {a b : Nat} (h : b ≤ a) : a + 1 + 1 - b = a - b + 2 := Nat.sub_add_comm (m := 2) h
theorem mod_add_two {a : Nat} : (a + 1 + 1) % 2 = a % 2 := Nat.add_mod_right a 2
theorem twice_le {i j n : Nat} (h : j + 2 * (i + 1) < n) : i + 1 + j ≤ n :=
  Nat.le_of_lt (Nat.lt_of_le_of_lt (by rw [Nat.add_comm]; exact Nat.add_le_add_left (Nat.le_mul_of_pos_left _ (by decide)) _) h)
theorem cancel3 {a b c : Nat} : a + (b + c) - a - c = b := by rw [Nat.add_sub_cancel_left, Nat.add_sub_cancel]
theorem neg_one {n : Nat} (h : 1 ≤ n) : (-1 + (n : Int)) = ((n - 1 : Nat) : Int) := by rw [Int.ofNat_sub h, Int.add_comm]; rfl
theorem sg_ge {S a b : Nat} (h : 6 ≤ S) (ha : a ≤ 2) (hb : b ≤ 2) : 2 ≤ S - a - b :=
  Nat.le_sub_of_add_le (Nat.le_sub_of_add_le (Nat.le_trans (Nat.add_le_add (Nat.add_le_add_left hb 2) ha) h))
theorem sg_sum {S a b : Nat} (h : a + b ≤ S) : S - a + 1 = S - a - b + (b + 1) := by rw [← Nat.add_assoc, Nat.sub_add_cancel (Nat.le_sub_of_add_le' h)]
theorem sg_le {S a b : Nat} : S - a - b ≤ S - a + 1 := Nat.le_succ_of_le (Nat.sub_le _ _)
theorem sg_add {S a b : Nat} (h : a + b ≤ S) : a + (S - a - b) = S - b := by rw [Nat.sub_right_comm, Nat.add_sub_cancel' (Nat.le_sub_of_add_le h)]
theorem sg_len {S a b : Nat} (h : a + b ≤ S) : S - (a + (S - a - b)) + 1 = b + 1 := by rw [sg_add h, Nat.sub_sub_self (Nat.le_trans (Nat.le_add_left _ _) h)]
theorem fm2 (x : Int) : x.fmod 2 = 0 ∨ x.fmod 2 = 1 := by rw [Int.fmod_eq_emod_of_nonneg x (by decide)]; exact Int.emod_two_eq x
theorem le_lin {a b c d : Nat} (h1 : a ≤ b) (h2 : c ≤ d) {k : Nat} (e : Nat.ble (b + d) k = true) : a + c ≤ k := Nat.le_trans (Nat.add_le_add h1 h2) (Nat.le_of_ble_eq_true e)
theorem sub_lo {a k : Nat} (h : k ≤ 100000) : -100000 ≤ (a : Int) - (k : Nat) := by
  rw [Int.sub_eq_add_neg, Int.add_comm]
  exact Int.le_trans (Int.neg_le_neg (Int.ofNat_le.mpr h)) (Int.le_add_of_nonneg_right (Int.natCast_nonneg _))
theorem sub_hi {a k : Nat} (h : a ≤ 100000) : (a : Int) - (k : Nat) ≤ 100000 := Int.le_trans (Int.sub_le_self _ (Int.natCast_nonneg _)) (Int.ofNat_le.mpr h)
theorem two_up (i : Nat) : 2 * (1 + (i : Int)) = ((2 * (i + 1) : Nat) : Int) := by rw [Int.add_comm]; rfl
theorem fmid (x y : Int) : (x + y).fdiv (2 ^ Int.toNat 1) = (x + y) / 2 := by rw [Int.fdiv_eq_ediv_of_nonneg _ (by decide)]; rfl
theorem fm_lo {x y : Int} (h : x < y) : x ≤ (x + y).fdiv (2 ^ Int.toNat 1) := fmid x y ▸ (mid_le (Int.le_of_lt h)).1
theorem fm_hi {x y : Int} (h : x < y) : (x + y).fdiv (2 ^ Int.toNat 1) ≤ y := fmid x y ▸ (mid_le (Int.le_of_lt h)).2
theorem fm_lt {x y : Int} (h : x < y) (h2 : x + 1 ≠ y) : x < (x + y).fdiv (2 ^ Int.toNat 1) := fmid x y ▸ (mid_lt h h2).1
theorem fm_gt {x y : Int} (h : x < y) : (x + y).fdiv (2 ^ Int.toNat 1) < y := by
  rw [fmid]
  exact Int.ediv_lt_of_lt_mul (by decide) (by rw [Int.mul_comm, Int.two_mul]; exact Int.add_lt_add_right h y)
theorem fm_dl {x y : Int} {k : Nat} (h : x < y) (h3 : y - x ≤ (k + 1 : Nat)) : (x + y).fdiv (2 ^ Int.toNat 1) - x ≤ (k : Int) :=
  Int.le_of_lt_add_one (Int.lt_of_lt_of_le (Int.sub_lt_sub_right (fm_gt h) x) h3)
theorem fm_dr {x y : Int} {k : Nat} (h : x < y) (h2 : x + 1 ≠ y) (h3 : y - x ≤ (k + 1 : Nat)) : y - (x + y).fdiv (2 ^ Int.toNat 1) ≤ (k : Int) :=
  Int.le_of_lt_add_one (Int.lt_of_lt_of_le (Int.sub_lt_sub_left (fm_lt h h2) y) h3)
theorem dp_mid {d k R : Nat} (h : d + (k + 1) < R) : d + 1 + k < R := by rw [Nat.add_assoc, Nat.add_comm 1]; exact h
theorem un_mid {u k C : Nat} (h : u + 8 * (k + 1) < C) : u + 3 + 8 * k < C :=
  Nat.lt_of_le_of_lt (by rw [Nat.mul_succ, Nat.add_assoc, Nat.add_comm 3]; exact Nat.add_le_add_left (Nat.add_le_add_left (by decide) _) _) h
theorem dp_top {d k R : Nat} (h : d + 60 < R) (hk : k ≤ 50) : d + 1 + k < R := Nat.lt_of_le_of_lt (by rw [Nat.add_assoc]; exact Nat.add_le_add_left (Nat.le_trans (Nat.add_le_add_left hk 1) (by decide)) d) h
theorem un_top {u k C : Nat} (h : u + 600 < C) (hk : k ≤ 50) : u + 3 + 8 * k < C := Nat.lt_of_le_of_lt (by rw [Nat.add_assoc]; exact Nat.add_le_add_left (Nat.le_trans (Nat.add_le_add_left (Nat.mul_le_mul_left 8 hk) 3) (by decide)) u) h
theorem one_le27 {x : Int} {k : Nat} (e : x.toNat = k) (h : k ≤ 6400) : 1 + x ≤ 134217728 :=
  Int.le_trans (Int.add_le_add_left (Int.toNat_le.mp (e ▸ h : x.toNat ≤ 6400)) 1) (by decide)
theorem tn_ge {x : Int} (h : 1 ≤ x) : 1 ≤ x.toNat := by
  obtain ⟨X, rfl⟩ := Int.eq_ofNat_of_zero_le (Int.le_trans (by decide) h)
  exact Int.ofNat_le.mp h
theorem pk_len {x : Int} {n : Nat} (h : 0 ≤ x ∧ x < 4) (hn : 6 ≤ n) : 3 ≤ min (3 + x).toNat n ∧ min (3 + x).toNat n ≤ 6 := by
  obtain ⟨X, rfl⟩ := Int.eq_ofNat_of_zero_le h.1
  have hX : X < 4 := Int.ofNat_lt.mp h.2
  have e : (3 + (X : Int)).toNat = 3 + X := rfl
  rw [e]
  exact ⟨Nat.le_min.mpr ⟨Nat.le_add_right _ _, Nat.le_trans (by decide) hn⟩, Nat.le_trans (Nat.min_le_left _ _) (Nat.add_le_add_left (Nat.le_of_lt_succ hX) 3)⟩
theorem k63 {k : Int} {n : Nat} (h : k.toNat < n) (hn : n ≤ 1000) : k < 2 ^ 63 :=
  Int.lt_of_le_of_lt (Int.le_trans (Int.self_le_toNat k) (Int.ofNat_le.mpr (Nat.le_trans (Nat.le_of_lt h) hn))) (by decide)
theorem w1_of {x wd : Int} (h : 0 ≤ x ∧ x < 400) (e : 1 + x = wd) : 1 ≤ wd := e ▸ Int.le_add_of_nonneg_right h.1
theorem w2_of {x wd : Int} (h : 0 ≤ x ∧ x < 400) (e : 1 + x = wd) : wd ≤ 400 := by rw [← e, Int.add_comm]; exact Int.add_one_le_of_lt h.2
end Ar
-- Ad
section Ad
open PySem PySem.W PyProof.Rows
-- small arithmetic: proofs of a few terms in place of omega's
theorem n1 {d a b K R : Nat} (h : d + K < R) (e : Nat.ble (a + b) K = true) : d + a + b < R :=
  Nat.lt_of_le_of_lt (Nat.le_trans (Nat.le_of_eq (Nat.add_assoc d a b)) (Nat.add_le_add_left (Nat.le_of_ble_eq_true e) d)) h
theorem n2 {d K R : Nat} (h : d + K < R) : d < R := Nat.lt_of_le_of_lt (Nat.le_add_right d K) h
theorem n3 {a b c : Nat} (h : a ≤ b) (e : Nat.ble b c = true) : a ≤ c := Nat.le_trans h (Nat.le_of_ble_eq_true e)
theorem n4 {a b c d : Nat} (h : a ≤ b) (e : Nat.ble (b + d) c = true) : a + d ≤ c := Nat.le_trans (Nat.add_le_add_right h d) (Nat.le_of_ble_eq_true e)
theorem n5 {a b c d : Nat} (h : a ≤ b) (e : Nat.ble (d + b) c = true) : d + a ≤ c := Nat.le_trans (Nat.add_le_add_left h d) (Nat.le_of_ble_eq_true e)
theorem n6 {a b c d f : Nat} (h : a ≤ b) (e : Nat.ble (d + b + f) c = true) : d + a + f ≤ c := Nat.le_trans (Nat.add_le_add_right (Nat.add_le_add_left h d) f) (Nat.le_of_ble_eq_true e)
theorem n7 {a b c : Nat} (h : a ≤ b) (e : Nat.blt b c = true) : a < c := Nat.lt_of_le_of_lt h (by simpa [Nat.blt_eq] using e)
theorem n8 {a b c : Nat} (h : c ≤ a) (e : Nat.ble b (2 * c) = true) : b ≤ 2 * a := Nat.le_trans (Nat.le_of_ble_eq_true e) (Nat.mul_le_mul_left 2 h)
theorem n9 {a b c : Nat} (h : b ≤ a) (e : Nat.ble c b = true) : c ≤ a := Nat.le_trans (Nat.le_of_ble_eq_true e) h
theorem i1 {a b c : Int} (h : a ≤ b) (e : decide (b ≤ c) = true) : a ≤ c := Int.le_trans h (of_decide_eq_true e)
theorem i2 {a b c : Int} (h : b ≤ c) (e : decide (a ≤ b) = true) : a ≤ c := Int.le_trans (of_decide_eq_true e) h
theorem i3 {a b c : Int} (h : a ≤ b) (e : decide (b < c) = true) : a < c := Int.lt_of_le_of_lt h (of_decide_eq_true e)
theorem i4 {a b c : Int} (h : b ≤ c) (e : decide (a < b) = true) : a < c := Int.lt_of_lt_of_le (of_decide_eq_true e) h
theorem i5 {n K : Nat} {C : Int} (h : n ≤ K) (e : decide ((K : Int) < C) = true) : (n : Int) < C := Int.lt_of_le_of_lt (Int.ofNat_le.mpr h) (of_decide_eq_true e)
theorem i6 {a b c : Int} (h : a ≤ b) (e : decide (2 * b ≤ c) = true) : 2 * a ≤ c := Int.le_trans (Int.mul_le_mul_of_nonneg_left h (by decide)) (of_decide_eq_true e)
theorem i7 {a b c : Int} (h : b ≤ a) (e : decide (c ≤ 2 * b) = true) : c ≤ 2 * a := Int.le_trans (of_decide_eq_true e) (Int.mul_le_mul_of_nonneg_left h (by decide))
theorem i8 {a : Int} (h : 1 ≤ a) : 1 ≤ a.toNat := by omega
theorem i9 {a b c d : Int} (h : a ≤ b) (e : decide (d + b ≤ c) = true) : d + a ≤ c := Int.le_trans (Int.add_le_add_left h d) (of_decide_eq_true e)
theorem ia {a b : Int} {K : Nat} (h : a ≤ b) (e : decide (b ≤ K) = true) : a.toNat ≤ K := by have := of_decide_eq_true e; omega
theorem ib {a b c : Int} (h : b ≤ a) (e : decide (c < 2 * b) = true) : c < 2 * a := Int.lt_of_lt_of_le (of_decide_eq_true e) (Int.mul_le_mul_of_nonneg_left h (by decide))
theorem ic {a b c : Int} (h : a ≤ b) (e : decide (2 * b < c) = true) : 2 * a < c := Int.lt_of_le_of_lt (Int.mul_le_mul_of_nonneg_left h (by decide)) (of_decide_eq_true e)
-- addresses
theorem d1 {a : Nat} (h : 37 < a) : @Ne Nat a 37 ∧ @Ne Nat a 30 := ⟨Nat.ne_of_gt h, Nat.ne_of_gt (Nat.lt_trans (by decide) h)⟩
theorem d2 {a : Nat} (h : 37 < a) : @Ne Nat a 37 := Nat.ne_of_gt h
theorem d3 {a : Nat} (h : 37 < a) : @Ne Nat a 30 := Nat.ne_of_gt (Nat.lt_trans (by decide) h)
theorem b1 {n m : Nat} (h : n < m) : n < m + 1 := Nat.lt_succ_of_lt h
theorem b2 {n m : Nat} (h : n < m) : n < m + 1 + 1 := Nat.lt_succ_of_lt (Nat.lt_succ_of_lt h)
theorem c1 {p q : Prop} (h : p ∧ q) : p := h.1
theorem c2 {p q r : Prop} (h : p ∧ q ∧ r) : q := h.2.1
theorem c3 {p q r s : Prop} (h : p ∧ q ∧ r ∧ s) : r := h.2.2.1
theorem c4 {p q r s t : Prop} (h : p ∧ q ∧ r ∧ s ∧ t) : s := h.2.2.2.1
theorem c5 {p q r s t u : Prop} (h : p ∧ q ∧ r ∧ s ∧ t ∧ u) : t := h.2.2.2.2.1
theorem c6 {p q r s t u v : Prop} (h : p ∧ q ∧ r ∧ s ∧ t ∧ u ∧ v) : u := h.2.2.2.2.2.1
theorem c7 {p q r s t u v x : Prop} (h : p ∧ q ∧ r ∧ s ∧ t ∧ u ∧ v ∧ x) : v := h.2.2.2.2.2.2.1
theorem c8 {p q r s t u v x y : Prop} (h : p ∧ q ∧ r ∧ s ∧ t ∧ u ∧ v ∧ x ∧ y) : x := h.2.2.2.2.2.2.2.1
theorem c9 {p q r s t u v x y z : Prop} (h : p ∧ q ∧ r ∧ s ∧ t ∧ u ∧ v ∧ x ∧ y ∧ z) : y := h.2.2.2.2.2.2.2.2.1
theorem c10 {p q r s t u v x y z k : Prop} (h : p ∧ q ∧ r ∧ s ∧ t ∧ u ∧ v ∧ x ∧ y ∧ z ∧ k) : z := h.2.2.2.2.2.2.2.2.2.1
theorem c11 {p q r s t u v x y z k l : Prop} (h : p ∧ q ∧ r ∧ s ∧ t ∧ u ∧ v ∧ x ∧ y ∧ z ∧ k ∧ l) : k := h.2.2.2.2.2.2.2.2.2.2.1
theorem c12 {p q r s t u v x y z k l m : Prop} (h : p ∧ q ∧ r ∧ s ∧ t ∧ u ∧ v ∧ x ∧ y ∧ z ∧ k ∧ l ∧ m) : l := h.2.2.2.2.2.2.2.2.2.2.2.1
theorem c13 {p q r s t u v x y z k l m n : Prop} (h : p ∧ q ∧ r ∧ s ∧ t ∧ u ∧ v ∧ x ∧ y ∧ z ∧ k ∧ l ∧ m ∧ n) : m := h.2.2.2.2.2.2.2.2.2.2.2.2.1
theorem k3 {m a b c : Nat} {q : Prop} (o : a < b ∧ b < c ∧ q) (h : m < a) : m < c := Nat.lt_trans (Nat.lt_trans h o.1) o.2.1
theorem k4 {m a b c d : Nat} {q : Prop} (o : a < b ∧ b < c ∧ c < d ∧ q) (h : m < a) : m < d := Nat.lt_trans (k3 o h) o.2.2.1
theorem k5 {m a b c d e : Nat} {q : Prop} (o : a < b ∧ b < c ∧ c < d ∧ d < e ∧ q) (h : m < a) : m < e := Nat.lt_trans (k4 o h) o.2.2.2.1
theorem k6 {m a b c d e f : Nat} (o : a < b ∧ b < c ∧ c < d ∧ d < e ∧ e < f) (h : m < a) : m < f := Nat.lt_trans (k5 o h) o.2.2.2.2
theorem ad5 {m x1 x2 x3 x4 x5 E : Nat} (h : m < x1) (o : x1 < x2 ∧ x2 < x3 ∧ x3 < x4 ∧ x4 < x5 ∧ x5 < E) : (m < x2 ∧ m < x3) ∧ m < x4 ∧ m < x5 ∧ m < E :=
  have h2 := Nat.lt_trans h o.1
  have h3 := Nat.lt_trans h2 o.2.1
  have h4 := Nat.lt_trans h3 o.2.2.1
  have h5 := Nat.lt_trans h4 o.2.2.2.1
  ⟨⟨h2, h3⟩, h4, h5, Nat.lt_trans h5 o.2.2.2.2⟩
theorem ad_off {a t l : Nat} (h : l < t) (h2 : t < a) : @Ne Nat a t ∧ @Ne Nat a l := ⟨Nat.ne_of_gt h2, Nat.ne_of_gt (Nat.lt_trans h h2)⟩
theorem ad_low {a l t : Nat} (h : a < l) (h2 : l + 1 + 1 < t) : @Ne Nat a t ∧ @Ne Nat a (l + 1 + 1) := ⟨by omega, by omega⟩
end Ad
local macro_rules | `(tactic| wtm_at "lt") => `(tactic| first | assumption | exact c1 ‹_› | exact c2 ‹_› | exact c3 ‹_› | exact c4 ‹_› | exact c5 ‹_› | exact c6 ‹_› | exact c7 ‹_› | exact c8 ‹_› | exact c9 ‹_› | exact c10 ‹_› | exact c11 ‹_› | exact c12 ‹_› | exact c13 ‹_›)
local macro_rules | `(tactic| wtm_at "gb") => `(tactic| first | assumption | exact b1 ‹_› | exact b2 ‹_› | exact c1 ‹_› | exact b1 (c1 ‹_›) | exact b2 (c1 ‹_›))
local macro_rules | `(tactic| wtm_at "gc") => `(tactic| first | exact Nat.lt_trans ‹_› (by wtm_at "lt") | exact Nat.lt_trans (b1 ‹_›) (by wtm_at "lt") | exact Nat.lt_trans (b1 (c1 ‹_›)) (by wtm_at "lt") | (refine Nat.lt_trans ?_ (c1 ‹_›); wtm_at "gb") | (refine Nat.lt_trans ?_ (c2 ‹_›); wtm_at "gb") | (refine Nat.lt_trans ?_ (c3 ‹_›); wtm_at "gb") | (refine Nat.lt_trans ?_ (c4 ‹_›); wtm_at "gb") | (refine Nat.lt_trans ?_ (c5 ‹_›); wtm_at "gb") | (refine Nat.lt_trans ?_ (c6 ‹_›); wtm_at "gb"))
local macro_rules | `(tactic| wtm_at "g37") => `(tactic| first | wtm_at "gb" | wtm_at "gc" | (refine k3 ‹_› ?_; wtm_at "gc") | (refine k4 ‹_› ?_; wtm_at "gc") | (refine k5 ‹_› ?_; wtm_at "gc") | (refine k6 ‹_› ?_; wtm_at "gc") | (refine Nat.lt_trans ?_ (c1 ‹_›); wtm_at "gc") | (refine Nat.lt_trans ?_ ‹_›; wtm_at "gb"))
local macro_rules | `(tactic| omega) => `(tactic| first | with_reducible (first | assumption | (show @LT.lt Nat _ _ _; first | exact n1 ‹_› (by decide) | exact n2 ‹_› | exact n7 ‹_› (by decide)) | (show @LE.le Nat _ _ _; first | exact n3 ‹_› (by decide) | exact n4 ‹_› (by decide) | exact n5 ‹_› (by decide) | exact n6 ‹_› (by decide) | exact n9 ‹_› (by decide) | exact n8 ‹_› (by decide) | exact i8 ‹_› | exact ia ‹_› (by decide)) | (show @Ne Nat _ _ ∧ _; first | (refine d1 ?_; wtm_at "g37") | exact ⟨Ne.symm ‹_›, Ne.symm ‹_›⟩) | (show @Ne Nat _ _; first | wtm_at "lt" | exact Ne.symm (by wtm_at "lt") | exact Nat.ne_of_gt (by wtm_at "lt") | exact Nat.ne_of_lt (by wtm_at "lt") | (refine d2 ?_; wtm_at "g37") | (refine d3 ?_; wtm_at "g37")) | (show @LE.le Int _ _ _; first | exact i1 ‹_› (by decide) | exact i2 ‹_› (by decide) | exact i6 ‹_› (by decide) | exact i7 ‹_› (by decide) | exact i9 ‹_› (by decide)) | (show @LT.lt Int _ _ _; first | exact i3 ‹_› (by decide) | exact i4 ‹_› (by decide) | exact i5 ‹_› (by decide) | exact ib ‹_› (by decide) | exact ic ‹_› (by decide))) | decide | ((repeat (rename @Ne Nat _ _ => q; clear q)); (repeat (rename @Ne Nat _ _ ∧ _ => q; clear q)); omega (config := {})) | omega (config := {}))
-- Nest
section Nest
set_option maxRecDepth 100000
set_option maxHeartbeats 8000000
theorem set_back_Nest : True := by
  w_top off
  first | walk1 | trivial

theorem updF_mk {d : Addr} {o : Obj} {post : List (Addr × Obj)} (h2 : ∀ p ∈ post, p.1 ≠ d) : ∀ {pre : List (Addr × Obj)}, (∀ p ∈ pre, p.1 ≠ d) → UpdF d o (pre ++ (d, o) :: post) (fun o' => pre ++ (d, o') :: post)
  | [], _ => .head h2
  | p :: r, h1 => .tail (h1 p (.head _)) (updF_mk h2 fun q hq => h1 q (.tail _ hq))

/-- one table's part of the ledger: not yet filled, or filled by the one nested def -/
def TabIn (P : Addr) (line col : Nat) (qual : Str) (r : List (Addr × Obj)) : Prop :=
  r = [(P, tabObj #[])] ∨ ∃ c o vs t, r = [(c, o), (P, tabObj #[rawInt line, rawInt col, .ref c])] ∧ o.data = .fields vs ∧ vs[1]? = some (.str qual t) ∧ (37 : Nat) < c

theorem TabIn.mem {P : Addr} {line col : Nat} {qual : Str} {r : List (Addr × Obj)} (h : TabIn P line col qual r) : ∃ ps, (P, tabObj ps) ∈ r := by
  rcases h with rfl | ⟨c, o, vs, t, rfl, _⟩
  · exact ⟨_, .head _⟩
  · exact ⟨_, .tail _ (.head _)⟩
theorem TabIn.ne {P P' : Addr} {line col : Nat} {qual : Str} {r : List (Addr × Obj)} (h : TabIn P line col qual r) (hne : P ≠ P') (hle : P' ≤ (37 : Nat)) : ∀ p ∈ r, p.1 ≠ P' := by
  rcases h with rfl | ⟨c, o, vs, t, rfl, _, _, hc⟩
  · intro p hp; simp only [List.mem_singleton] at hp; subst hp; exact hne
  · intro p hp
    rcases List.mem_cons.mp hp with rfl | hp
    · exact fun e => by have : c = P' := e; subst this; exact absurd hc (Nat.not_lt.mpr hle)
    · simp only [List.mem_singleton] at hp; subst hp; exact hne

section
variable {M : Model} {A : Around} {E : Value → Shared → Prop} {s : Shared} {h₀ : Heap} {L a c P : Addr} {m mg mb : Str → Option Value} {cn : Str} {cs : Scope} {ccd : Value} {cl : List (Str × Addr)}
  {p : Program} {loose : List Str} {mean : ExcName → Option Value} {name qual : Str} {params : Arguments} {body : List Stmt} {scope : Scope} {pos : Pos} {clos : List (Str × Addr)} {U V r : List (Addr × Obj)}

theorem nest_T {Q : Value → Shared → Prop} (F : Fr h₀ L s.heap m) (N : News h₀ L s.heap (U ++ (r ++ V))) (T : Top p loose mean mg mb h₀) (C : CodeHd h₀ c P) (hcd : ccd = .ref c)
    (hU : ∀ p ∈ U, p.1 ≠ P) (hV : ∀ p ∈ V, p.1 ≠ P) (hr : TabIn P pos.line pos.col qual r) (hbig : ∃ p ∈ U ++ (r ++ V), 37 ≤ p.1)
    (hcl : closureFor scope (envX cn cs L a ccd cl) = pure clos)
    (h : ∀ f c' oc vs t ctv doc h' tk r', Fr h₀ L h' m →
      News h₀ L h' ((f, fnMade name qual params body scope clos doc ((mg "__name__").getD .none) c' ctv) :: (U ++ (r' ++ V))) →
      TabIn P pos.line pos.col qual r' → (c', oc) ∈ r' → oc.data = .fields vs → vs[1]? = some (.str qual t) → (∀ q ∈ U ++ (r ++ V), q.1 < f) → (∀ q ∈ r', q.1 < f) → (∀ q ∈ r', (∃ o, (q.1, o) ∈ r) ∨ ∀ q' ∈ U ++ (r ++ V), q'.1 < q.1) → Q (.ref f) { s with heap := h', toks := tk }) :
    wpAny M A (makeFunction name qual params (.stmts body) scope (envX cn cs L a ccd cl) [] [] [] pos pos.line) Q E s := by
  rcases hr with rfl | ⟨c₀, o₀, vs, t, rfl, hd, hv, hc⟩
  · refine nest_K (P := P) (ps := #[]) F N T C hcd (updF_mk hV hU) trivial rfl hcl fun f c' oc vs t ctv doc h' tk F' N' hd hv hlt hcf => ?_
    refine h f c' oc vs t ctv doc h' tk [(c', oc), (P, tabObj #[rawInt pos.line, rawInt pos.col, .ref c'])] F' ?_ ?_ (.head _) hd hv (fun q hq => Nat.lt_trans (hlt q hq) hcf) ?_ ?_
    · intro q hq
      refine N' q ?_
      rcases List.mem_cons.mp hq with rfl | hq
      · exact .head _
      · refine .tail _ ?_
        rcases List.mem_append.mp hq with hq | hq
        · exact .tail _ (List.mem_append_left _ hq)
        · rcases List.mem_cons.mp hq with rfl | hq
          · exact .head _
          · exact .tail _ (List.mem_append_right _ hq)
    · refine .inr ⟨c', oc, vs, t, rfl, hd, hv, ?_⟩
      obtain ⟨q, hq, hq'⟩ := hbig
      exact Nat.lt_of_le_of_lt hq' (hlt q hq)
    · intro q hq
      rcases List.mem_cons.mp hq with rfl | hq
      · exact hcf
      · simp only [List.mem_singleton] at hq; subst hq
        exact Nat.lt_trans (hlt (P, tabObj #[]) (List.mem_append_right _ (.head _))) hcf
    · intro q hq
      rcases List.mem_cons.mp hq with rfl | hq
      · exact .inr hlt
      · simp only [List.mem_singleton] at hq; subst hq
        exact .inl ⟨_, .head _⟩
  · have hm : (P, tabObj #[rawInt pos.line, rawInt pos.col, .ref c₀]) ∈ U ++ ([(c₀, o₀), (P, tabObj #[rawInt pos.line, rawInt pos.col, .ref c₀])] ++ V) := List.mem_append_right _ (.tail _ (.head _))
    refine nestHit_K (c' := c₀) F N T C hcd hm trivial ?_ hcl fun f ctv doc h' tk F' N' hlt => ?_
    · show codeAmong pos [rawInt pos.line, rawInt pos.col, .ref c₀] = _
      simp [codeAmong, rawInt]
    · refine h f c₀ o₀ vs t ctv doc h' tk _ F' N' (.inr ⟨c₀, o₀, vs, t, rfl, hd, hv, hc⟩) (.head _) hd hv hlt (fun q hq => hlt q (List.mem_append_right _ (List.mem_append_left _ hq))) fun q hq => .inl ⟨q.2, hq⟩
end

/-- both tables' part -/
def TabsL (rest : List (Addr × Obj)) : Prop := ∃ r1 r2, rest = r1 ++ r2 ∧ TabIn 37 47 4 (Str.ofString "_digits2int.<locals>.inner") r1 ∧ TabIn 30 32 4 (Str.ofString "_int2digits.<locals>.inner") r2

/-- a ledger's front, behind which the tables' part stands -/
structure Led (g : List (Addr × Obj) → List (Addr × Obj)) : Prop where
  of : ∃ pre, (∀ r, g r = pre ++ r) ∧ ∀ p ∈ pre, (@Ne Nat p.1 37 ∧ @Ne Nat p.1 30)
theorem Led.nil : Led (fun r => r) := ⟨[], fun _ => rfl, fun _ h => nomatch h⟩
theorem Led.cons {g : List (Addr × Obj) → List (Addr × Obj)} {a : Addr} {o : Obj} (h : @Ne Nat a 37 ∧ @Ne Nat a 30) (x : Led g) : Led (fun r => (a, o) :: g r) := by
  obtain ⟨pre, e, k⟩ := x
  refine ⟨(a, o) :: pre, fun r => by rw [e r]; rfl, fun p hp => ?_⟩
  rcases List.mem_cons.mp hp with rfl | hp
  · exact h
  · exact k p hp
/-- a ledger written out: its front, the tables' part behind it -/
inductive LedOf (rest : List (Addr × Obj)) : List (Addr × Obj) → (List (Addr × Obj) → List (Addr × Obj)) → Prop where
  | nil : LedOf rest rest (fun r => r)
  | base {g} (h : Led g) : LedOf rest (g rest) g
  | cons {a : Addr} {o : Obj} {led g} (h : @Ne Nat a 37 ∧ @Ne Nat a 30) (x : LedOf rest led g) : LedOf rest ((a, o) :: led) (fun r => (a, o) :: g r)
theorem LedOf.eq {rest led : List (Addr × Obj)} {g : List (Addr × Obj) → List (Addr × Obj)} (x : LedOf rest led g) : led = g rest ∧ Led g := by
  induction x with
  | nil => exact ⟨rfl, Led.nil⟩
  | base h => exact ⟨rfl, h⟩
  | cons h _ ih => exact ⟨by rw [ih.1], Led.cons h ih.2⟩
end Nest
theorem set_back_Nest_z : True := by first | walk1 | trivial
-- Plain
section Plain
theorem set_back_Plain : True := by
  w_top off
  first | walk1 | trivial
theorem mem_of_eq {α : Type} {l r : List α} {x : α} (e : l = x :: r) : x ∈ l := by rw [e]; exact .head _

theorem intBits_le {a : Int} {k : Nat} (h : a.natAbs < 2 ^ k) : Builtin.Int.intBits a ≤ k := by
  unfold Builtin.Int.intBits
  split
  · exact Nat.zero_le _
  · rename_i h0
    have h1 : a.natAbs ≠ 0 := fun e => h0 (by simpa using e)
    exact (Nat.log2_lt h1).mpr h
theorem intBits_le' {a : Int} {k : Nat} (h0 : 0 ≤ a) (h : a < 2 ^ k) : Builtin.Int.intBits a ≤ k := by
  refine intBits_le ?_
  have e : ((a.natAbs : Nat) : Int) = a := Int.natAbs_of_nonneg h0
  have h' : ((a.natAbs : Nat) : Int) < ((2 ^ k : Nat) : Int) := by rw [e]; simpa using h
  exact Int.ofNat_lt.mp h'
theorem pow2_pos (k : Nat) : (0 : Int) < 2 ^ k := Int.pow_pos (by decide)

/-- the number whose figures to the base 2 ^ n are these, the lowest first -/
def dval (n : Nat) : List Int → Int
  | [] => 0
  | d :: r => d + dval n r * 2 ^ n

theorem dval_append (n : Nat) (b : List Int) : ∀ a, dval n (a ++ b) = dval n a + dval n b * 2 ^ (n * a.length)
  | [] => by simp [dval]
  | d :: r => by
    simp only [List.cons_append, dval, dval_append n b r, List.length_cons]
    rw [Int.add_mul, Int.mul_assoc, ← Int.pow_add, Nat.mul_succ, Int.add_assoc]
def Figs (n : Nat) (l : List Int) : Prop := ∀ d ∈ l, 0 ≤ d ∧ d < 2 ^ n
theorem Figs.take {n : Nat} {l : List Int} (h : Figs n l) (k : Nat) : Figs n (l.take k) := fun d hd => h d (List.mem_of_mem_take hd)
theorem Figs.drop {n : Nat} {l : List Int} (h : Figs n l) (k : Nat) : Figs n (l.drop k) := fun d hd => h d (List.mem_of_mem_drop hd)
theorem dval_bounds {n : Nat} : ∀ {l : List Int}, Figs n l → 0 ≤ dval n l ∧ dval n l < 2 ^ (n * l.length)
  | [], _ => by simp [dval]
  | d :: r, h => by
    have h1 := h d (.head _)
    have h2 := dval_bounds (l := r) fun x hx => h x (.tail _ hx)
    have hp := pow2_pos n
    simp only [dval, List.length_cons, Nat.mul_succ]
    have h3 : 0 ≤ dval n r * 2 ^ n := Int.mul_nonneg h2.1 (Int.le_of_lt hp)
    refine ⟨by omega, ?_⟩
    have h4 : (dval n r + 1) * 2 ^ n ≤ 2 ^ (n * r.length) * 2 ^ n := Int.mul_le_mul_of_nonneg_right h2.2 (Int.le_of_lt hp)
    rw [Int.add_mul, Int.one_mul] at h4
    rw [Int.pow_add]
    omega
theorem seg_split (ds : List Int) {x m y : Nat} (h1 : x ≤ m) (h2 : m ≤ y) : (ds.drop x).take (y - x) = (ds.drop x).take (m - x) ++ (ds.drop m).take (y - m) := by
  rw [sub3 h1 h2, List.take_add, List.drop_drop, Nat.add_sub_cancel' h1]
theorem seg_one (ds : List Int) {x : Nat} (h : x < ds.length) : (ds.drop x).take 1 = [ds.getD x 0] := by
  rw [List.drop_eq_getElem_cons h, List.take_succ_cons, List.take_zero, List.getD_eq_getElem?_getD, List.getElem?_eq_getElem h]
  rfl
theorem seg_len (ds : List Int) {x y : Nat} (h : y ≤ ds.length) : ((ds.drop x).take (y - x)).length = y - x := by
  rw [List.length_take, List.length_drop, min_sub h]
abbrev seg (ds : List Int) (x y : Int) : List Int := (ds.drop x.toNat).take (y.toNat - x.toNat)
theorem shift_nat {M x n : Int} (h1 : x ≤ M) (hn : 0 ≤ n) (h0 : 0 ≤ x) : ((M - x) * n).toNat = n.toNat * (M.toNat - x.toNat) := by
  have e2 : n = ((n.toNat : Nat) : Int) := (Int.toNat_of_nonneg hn).symm
  rw [nat_sub h0 h1]
  conv => lhs; rw [e2]
  rw [← Int.natCast_mul, Int.toNat_natCast, Nat.mul_comm]
theorem dval_join {ds : List Int} {x M y n : Int} (h0 : 0 ≤ x) (h1 : x ≤ M) (h2 : M ≤ y) (h3 : y ≤ ds.length) (hn : 0 ≤ n) :
    dval n.toNat (seg ds M y) * 2 ^ ((M - x) * n).toNat + dval n.toNat (seg ds x M) = dval n.toNat (seg ds x y) := by
  rw [shift_nat h1 hn h0]
  have e : seg ds x y = seg ds x M ++ seg ds M y := seg_split ds (Int.toNat_le_toNat h1) (Int.toNat_le_toNat h2)
  rw [e, dval_append, seg_len ds (tn_le (Int.le_trans h2 h3)), Int.add_comm]
theorem dval_one {ds : List Int} {x y : Int} (n : Nat) (h0 : 0 ≤ x) (h1 : x + 1 = y) (h3 : y ≤ ds.length) : dval n (seg ds x y) = ds.getD x.toNat 0 := by
  unfold seg
  rw [ts1 h0 h1, seg_one ds (tn_lt h0 (Int.lt_of_lt_of_le (Int.lt_of_add_one_le (Int.le_of_eq h1)) h3))]
  simp [dval]
theorem dval_fits {ds : List Int} {x M y n : Int} (h0 : 0 ≤ x) (h1 : x ≤ M) (h2 : M ≤ y) (h3 : y ≤ ds.length) (hn : 0 ≤ n) (hn1 : n ≤ 10000) (hlen : ds.length ≤ 100) (hf : Figs n.toNat ds) :
    (Builtin.Int.intBits (dval n.toNat (seg ds M y)) : Int) + (M - x) * n ≤ 2 ^ 27 := by
  have hb := dval_bounds ((hf.drop M.toNat).take (y.toNat - M.toNat))
  have hi := intBits_le' hb.1 hb.2
  rw [seg_len ds (tn_le h3)] at hi
  have hm : n.toNat * (y.toNat - M.toNat) ≤ 10000 * 100 := Nat.mul_le_mul (tn_le hn1) (sub_le_of (Nat.le_trans (tn_le h3) hlen))
  have hk : (M - x) * n ≤ 100 * 10000 := Int.le_trans (Int.mul_le_mul_of_nonneg_right (int_sub_le (Int.le_trans h2 (Int.le_trans h3 (Int.ofNat_le.mpr hlen))) h0) hn) (Int.mul_le_mul_of_nonneg_left hn1 (by decide))
  have : (2 : Int) ^ 27 = 134217728 := by decide
  show (Builtin.Int.intBits (dval n.toNat ((ds.drop M.toNat).take (y.toNat - M.toNat))) : Int) + (M - x) * n ≤ 2 ^ 27
  omega
end Plain
theorem set_back_Plain_z : True := by first | walk1 | trivial
-- D1
section D1
set_option maxRecDepth 100000
set_option maxHeartbeats 8000000
theorem set_back_D1 : True := by
  w_top off
  first | walk1 | trivial

theorem truthy_L {prog : Program} {w : World} {A : Around} {E : Value → Shared → Prop} {s : Shared} {h₀ : Heap} {L l : Addr} {news : List (Addr × Obj)} {its : Array Value} {n : Nat} {Q : Bool → Shared → Prop} (N : News h₀ L s.heap news) (hm : (l, listOf its n) ∈ news) (hfit : (its.size : Int) < 2 ^ 63)
    (h1 : its.size = 0 → Q false { s with toks := s.toks + 1 + 1 }) (h2 : its.size ≠ 0 → Q true { s with toks := s.toks + 1 + 1 }) : wpAny (model prog w) A (truthy (.ref l)) Q E s := by
  refine wpAny_truthy_list (PySem.IsL.isList (n := n) (N _ hm).1) hfit ?_
  by_cases e : its.size = 0
  · rw [show its.isEmpty = true from by simpa [Array.isEmpty] using e]
    exact h1 e
  · rw [show its.isEmpty = false from by simpa [Array.isEmpty] using e]
    exact h2 e
theorem len_L {prog : Program} {w : World} {A : Around} {E : Value → Shared → Prop} {s : Shared} {h₀ : Heap} {L l : Addr} {news : List (Addr × Obj)} {its : Array Value} {n : Nat} {Q : Value → Shared → Prop} (N : News h₀ L s.heap news) (hm : (l, listOf its n) ∈ news) (hfit : (its.size : Int) < 2 ^ 63)
    (h : Q (.int its.size (s.toks + 1)) { s with toks := s.toks + 1 + 1 }) : wpAny (model prog w) A (call (.builtin "len") [.ref l]) Q E s := len_list (PySem.IsL.isList (n := n) (N _ hm).1) hfit h
/-- the nested def of _digits2int: what a call of it hands back -/
def InnerD (w : World) (p : Program) (loose : List Str) (mean : ExcName → Option Value) (mg mb : Str → Option Value) (f : Addr) (ds : List Int) (n : Int) (newsF : List (Addr × Obj)) (k : Nat) : Prop :=
  ∀ (x y : Int), 0 ≤ x → x < y → y ≤ ds.length → y - x ≤ k → ∀ (dp un : Nat) (gd : Option (List Code)) (cn : Str) (cs : Scope) (a : Addr) (ccd : Value) (cl : List (Str × Addr)) (outer : List Env) (A₀ : Around) (base h₀ : Heap) (L : Addr) (m : Str → Option Value) (s : Shared) (Q E : Value → Shared → Prop) (t u : Tok),
      Below A₀ base outer h₀ → Fr h₀ L s.heap m → (Mine.hd.heap_39 w.params).In h₀ → News h₀ L s.heap newsF → Top p loose mean mg mb h₀ → cs.kind = .function → dp + k < recursionLimit → un + 8 * k < cLine →
      (∀ t h' tk', Fr h₀ L h' m → News h₀ L h' newsF → Q (.int (dval n.toNat (seg ds x y)) t) { s with heap := h', toks := tk' }) →
      wpAny (model PySem.Challenge.rw_ti0020_01.row.prog w) (ktrTop dp un gd cn cs L a ccd cl outer) (call (.ref f) [.int x t, .int y u]) Q E s
theorem InnerD.use {w : World} {p : Program} {loose : List Str} {mean : ExcName → Option Value} {mg mb : Str → Option Value} {f : Addr} {ds : List Int} {n : Int} {newsF : List (Addr × Obj)} {k : Nat} {x y : Int} {dp un : Nat} {gd : Option (List Code)} {cn : Str} {cs : Scope} {a : Addr} {ccd : Value} {cl : List (Str × Addr)} {outer : List Env} {A₀ : Around} {base h₀ : Heap} {L : Addr} {m : Str → Option Value} {s : Shared} {Q E : Value → Shared → Prop} {t u : Tok}
   (H : InnerD w p loose mean mg mb f ds n newsF k) (B : Below A₀ base outer h₀) (F : Fr h₀ L s.heap m) (X : (Mine.hd.heap_39 w.params).In h₀) (N : News h₀ L s.heap newsF) (T : Top p loose mean mg mb h₀) (hk : cs.kind = .function)
   (h0 : 0 ≤ x) (h1 : x < y) (h2 : y ≤ ds.length) (h3 : y - x ≤ k) (hd : dp + k < recursionLimit) (hu : un + 8 * k < cLine)
   (ret : ∀ t h' tk', Fr h₀ L h' m → News h₀ L h' newsF → Q (.int (dval n.toNat (seg ds x y)) t) { s with heap := h', toks := tk' }) :
   wpAny (model PySem.Challenge.rw_ti0020_01.row.prog w) (ktrTop dp un gd cn cs L a ccd cl outer) (call (.ref f) [.int x t, .int y u]) Q E s :=
  H x y h0 h1 h2 h3 dp un gd cn cs a ccd cl outer A₀ base h₀ L m s Q E t u B F X N T hk hd hu ret

theorem d2i_spec (w : World) (l : Addr) (vs : List Value) (ds : List Int) (nn : Nat) (n : Int) (tn : Tok) (hi : IntsAre vs ds) 
  (p : Program) (loose : List Str) (mean : ExcName → Option Value) (mg mb : Str → Option Value)
    (dp un : Nat) (gd : Option (List Code)) (cn : Str) (cs : Scope) (a : Addr) (ccd : Value) (cl : List (Str × Addr)) (outer : List Env) (A₀ : Around) (base h₀ : Heap) (L : Addr) (m : Str → Option Value) (s : Shared) (Q E : Value → Shared → Prop)
    (g : List (Addr × Obj) → List (Addr × Obj)) (rest : List (Addr × Obj))
    (B : Below A₀ base outer h₀) (F : Fr h₀ L s.heap m) (X : (Mine.hd.heap_39 w.params).In h₀) (C1 : CodeHd base 41 37) (C2 : CodeHd base 34 30)
    (hG : Led g) (hR : TabsL rest) 
    (N : News h₀ L s.heap (g rest)) (hl : ∀ r, (l, listOf vs.toArray nn) ∈ g r) (T : Top p loose mean mg mb h₀) (hk : cs.kind = .function) (hd : dp + 60 < recursionLimit) (hu : un + 600 < cLine) (hlen : ds.length ≤ 50) (hn0 : 0 ≤ n) (hn1 : n ≤ 10000) (hfig : Figs n.toNat ds)
    (hret : ∀ t h' tk' rest', TabsL rest' → Fr h₀ L h' m → News h₀ L h' (g rest') → Q (.int (dval n.toNat ds) t) { s with heap := h', toks := tk' }) :
    wpAny (model PySem.Challenge.rw_ti0020_01.row.prog w) (ktrTop dp un gd cn cs L a ccd cl outer) (call (.ref 42) [.ref l, .int n tn]) Q E s := by
  (rename Frag.In _ _ => Xfill; revert Xfill; k_fill; intro Xfill)
  have hlv : vs.length = ds.length := hi.length
  obtain ⟨pre, hg, hpre⟩ := hG.of
  obtain ⟨r1, r2, rfl, ht1, ht2⟩ := hR
  rw [hg] at N
  refine wpAny_call ?_
  refine' code_defC ?k1 ?k2 ?k3 ?k4 ?k5 ?kA ?kF ?kK ?k6 ?k7 ?k8 ?k9 ?kB ?kD ?_ ?c2 ?c3 ?c4; (case kA => exact rfl); (case kF => exact rfl); (case kK => assumption); (case k1 => k_asm); (case k2 => k_asm); (case k3 => k_asm); (case k4 => k_asm); (case k5 => k_asm); (case k6 => k_is); (case k7 => k_is); (case k8 => ktr_room); (case k9 => first | exact BindsTo.of_eq rfl | exact binds_K (by k_in) rfl (by k_is) rfl rfl rfl | fail "k_enter: no rule for these arguments"); (case kB => exact rfl); (case kD => decide +kernel); (case c2 => exact rfl); (case c3 => exact rfl); (case c4 => exact rfl); k_whole
  intro g' L' h' tk' cells' FG' F' N' Y' B' X' T' l1; k_cells Y'
  (try dsimp only); (try k_lift B'); (try k_fold)
  walk1
  rename_i o1 o2 o3 d1 d2 d3
  replace d1 : o1.data = Data.cell none := d1
  replace d2 : o2.data = Data.cell (some (Value.int n tn)) := d2
  replace d3 : o3.data = Data.cell (some (Value.ref l)) := d3
  refine' nestDef_K ?d0 ?k0 ?a0 ?_
  (case d0 => exact rfl); (case k0 => exact rfl); (case a0 => exact rfl)
  have hc37 : (37 : Nat) < L' := by
    obtain ⟨ps, hm⟩ := ht1.mem
    exact l1 (37, tabObj ps) (List.mem_append_right _ (List.mem_append_left _ hm))
  have hcU : ∀ p ∈ [(L' + 1 + 1 + 1, o1), (L' + 1 + 1, o2), (L' + 1, o3)] ++ pre, p.1 ≠ 37 := by
    intro p hp
    rcases List.mem_append.mp hp with hp | hp
    · simp only [List.mem_cons, List.not_mem_nil, or_false] at hp
      rcases hp with rfl | rfl | rfl <;> k_ne
    · exact (hpre p hp).1
  refine' nest_T (P := 37) (c := 41) (U := [(L' + 1 + 1 + 1, o1), (L' + 1 + 1, o2), (L' + 1, o3)] ++ pre) (r := r1) (V := r2) F' ?nN T' ?nC rfl hcU ?nV ?nr ?nb ?ncl ?_
  (case nN => simpa only [List.append_assoc] using N')
  (case nC => exact CodeHd.keeps C1 (Below.stays B'))
  (case nV => exact ht2.ne (by decide) (by decide))
  (case nr => exact ht1)
  (case nb => obtain ⟨ps, hm⟩ := ht1.mem; exact ⟨_, List.mem_append_right _ (List.mem_append_left _ hm), Nat.le_refl _⟩)
  (case ncl => exact rfl)
  intro f c' oc vc tc ctv doc h2 tk2 r1' F2 N2 ht1' hcm hod hov hlt1 hlt2 hor
  -- the ledger, its front written out
  obtain ⟨tl, etl⟩ : ∃ tl, tl = pre ++ (r1' ++ r2) := ⟨_, rfl⟩
  have htl : ∀ p ∈ tl, p.1 ≠ L' + 1 + 1 + 1 ∧ p.1 < f := by
    subst etl
    intro p hp
    have old : ∀ p ∈ pre ++ (r1 ++ r2), p.1 ≠ L' + 1 + 1 + 1 := fun p hp => Nat.ne_of_lt (Nat.lt_of_lt_of_le (l1 p hp) (Nat.le_add_right (L' : Nat) 3))
    rcases List.mem_append.mp hp with hp | hp
    · exact ⟨old p (List.mem_append_left _ hp), hlt1 p (List.mem_append_left _ (List.mem_append_right _ hp))⟩
    · rcases List.mem_append.mp hp with hp | hp
      · refine ⟨?_, hlt2 p hp⟩
        rcases hor p hp with ⟨o, ho⟩ | hn
        · exact old (p.1, o) (List.mem_append_right _ (List.mem_append_left _ ho))
        · exact Nat.ne_of_gt (hn (L' + 1 + 1 + 1, o1) (.head _))
      · exact ⟨old p (List.mem_append_right _ (List.mem_append_right _ hp)), hlt1 p (List.mem_append_right _ (List.mem_append_right _ hp))⟩
  have hf3 : (L' + 1 + 1 + 1 : Nat) < f := hlt1 (L' + 1 + 1 + 1, o1) (.head _)
  have hctl : (c', oc) ∈ tl := by rw [etl]; exact List.mem_append_right _ (List.mem_append_left _ hcm)
  have hltl : (l, listOf vs.toArray nn) ∈ tl := by
    rw [etl]
    have h := hl (r1' ++ r2)
    rw [hg] at h
    exact h
  simp only [List.append_assoc, ← etl, List.cons_append, List.nil_append] at N2
  refine' storeX_C F2 N2 (c := L' + 1 + 1 + 1) rfl (.tail ?u1 (.head ?u2)) d1 ?_ rfl rfl
  (case u1 => exact Nat.ne_of_gt hf3)
  (case u2 => exact List.forall_mem_cons.mpr ⟨(by refine neN ?_; dsimp only; omega), List.forall_mem_cons.mpr ⟨(by refine neN ?_; dsimp only; omega), fun p hp => (htl p hp).1⟩⟩)
  intro h3 o1' F3 N3 hd1'
  dsimp only at N3 ⊢
  obtain ⟨newsF, eN, NF⟩ : ∃ newsF, newsF = _ ∧ News _ _ _ newsF := ⟨_, rfl, N3⟩
  have mf := mem_of_eq eN
  have mi : (L' + 1 + 1 + 1, o1') ∈ newsF := by rw [eN]; exact .tail _ (.head _)
  have mn : (L' + 1 + 1, o2) ∈ newsF := by rw [eN]; exact .tail _ (.tail _ (.head _))
  have md : (L' + 1, o3) ∈ newsF := by rw [eN]; exact .tail _ (.tail _ (.tail _ (.head _)))
  have ml : (l, listOf vs.toArray nn) ∈ newsF := by rw [eN]; exact .tail _ (.tail _ (.tail _ (.tail _ hltl)))
  have mc : (c', oc) ∈ newsF := by rw [eN]; exact .tail _ (.tail _ (.tail _ (.tail _ hctl)))
  have inner : ∀ (k : Nat), InnerD w p loose mean mg mb f ds n newsF k := by
    clear eN NF N3 F3 hlt1 hlt2 hor hcm ht1' F2 N2 htl hf3 hctl hltl hret hcU l1 hc37 N' F' FG' B' X' T' N hl hpre hg hG ht1 ht2 etl
    intro k
    induction k with
    | zero => intro x y h0 h1 h2 h3; omega
    | succ k ih =>
      intro x y h0 h1 h2 h3 dp un gd cn cs a ccd cl outer A₀ base h₀ L m s Q E t u B F X N T hk hd hu hret
      refine wpAny_call ?_
      refine' code_nest ?k1 ?k2 ?k3 ?k4 ?k5 ?kA ?kF ?kK ?k6 ?k7 ?k8 ?k9 ?kB ?_ ?c2 ?c3 ?c4 ?c5
      (case kA => exact rfl)
      (case kF => exact rfl)
      (case kK => exact hk)
      (case k1 => exact B)
      (case k2 => exact F)
      (case k3 => exact X)
      (case k4 => exact N)
      (case k5 => exact T)
      (case k6 => exact mf)
      (case k7 => exact codeRec_news N mc hod hov)
      (case k8 => ktr_room)
      (case k9 => exact BindsTo.of_eq rfl)
      (case c5 => decide)
      (case kB => exact locs rfl)
      (case c2 => exact rfl)
      (case c3 => exact rfl)
      (case c4 => exact rfl)
      intro g' L' h' FG' F' N' B' X' T'
      (try dsimp only)
      (try k_fold)
      replace F' : Fr g' L' h' (fun z => ([(Str.ofString "R", Value.int y u), (Str.ofString "L", Value.int x t)] : List (Str × Value)).lookup z) := F'
      clear FG' mc hod hov
      have hxl : x < (ds.length : Int) := Int.lt_of_lt_of_le h1 h2
      have hx63 : x < 2 ^ 63 := Int.lt_trans hxl (Int.lt_of_le_of_lt (Int.ofNat_le.mpr hlen) (by decide))
      have hxm := fm_lo h1
      have hmy := fm_hi h1
      have hn2 : ((n.toNat : Nat) : Int) = n := Int.toNat_of_nonneg hn0
      have hmul : IntMulOk ((x + y).fdiv (2 ^ Int.toNat 1) - x) n := by
        refine IntMulOk.of_left (intBits_le (k := 64) ?_)
        have hl : ((x + y).fdiv (2 ^ Int.toNat 1) - x).natAbs ≤ 50 := by
          rw [nat_sub h0 hxm, Int.natAbs_natCast]
          exact sub_le_of (Nat.le_trans (tn_le (Int.le_trans hmy h2)) hlen)
        exact Nat.lt_of_le_of_lt hl (by decide)
      have hs0 : 0 ≤ ((x + y).fdiv (2 ^ Int.toNat 1) - x) * n := Int.mul_nonneg (Int.sub_nonneg_of_le hxm) hn0
      have hs1 : (Builtin.Int.intBits (dval n.toNat ((ds.drop ((x + y).fdiv (2 ^ Int.toNat 1)).toNat).take (y.toNat - ((x + y).fdiv (2 ^ Int.toNat 1)).toNat))) : Int) + ((x + y).fdiv (2 ^ Int.toNat 1) - x) * n ≤ 2 ^ 27 := by
        exact dval_fits h0 hxm hmy h2 hn0 hn1 (Nat.le_trans hlen (by decide)) hfig
      (repeat' (first | (k_unfold; (try dsimp only)) | (k_end; wrow_close) | with_reducible (first | (k_here; (with_reducible show wpAny _ _ (call (Value.ref _) _) _ _ _); k_dflt (refine' InnerD.use ?j0 ?j1 ?j2 ?j3 ?j4 ?j5 ?j6 ?j7 ?j8 ?j9 ?ja ?jb ?jc ?_; (case j0 => (rename InnerD _ _ _ _ _ _ _ _ _ _ _ => hI9; exact hI9)); (case j1 => k_asm); (case j2 => k_asm); (case j3 => k_asm); (case j4 => k_asm); (case j5 => k_asm); (case j6 => exact rfl); (case j7 => first | with_reducible assumption | exact Int.le_trans ‹_› (fm_lo ‹_›) | omega); (case j8 => first | with_reducible assumption | exact fm_lt ‹_› ‹_› | exact fm_gt ‹_› | ((try simp only [List.size_toArray]); omega)); (case j9 => first | with_reducible assumption | exact Int.le_trans (fm_hi ‹_›) ‹_› | ((try simp only [List.size_toArray]); omega)); (case ja => first | exact fm_dl ‹_› ‹_› | exact fm_dr ‹_› ‹_› ‹_› | ((try simp only [List.size_toArray]); omega)); (case jb => ((try dsimp only [ktrTop]); first | exact dp_mid ‹_› | exact dp_top ‹_› ‹_› | omega)); (case jc => ((try dsimp only [ktrTop]); first | exact un_mid ‹_› | exact un_top ‹_› ‹_› | omega)); k_whole); intro _ _ _ _ _; (try dsimp only); (try k_fold)) | ((with_reducible show wpAny _ _ (binaryOp _ _ _) _ _ _); first | (k_here; (with_reducible show wpAny _ _ (binaryOp Operator.LShift (Value.int _ _) (Value.int _ _)) _ _ _); refine lshift_int ?ha9 ?hb9 ?_; (case ha9 => with_reducible assumption); (case hb9 => with_reducible assumption)) | (k_here; (with_reducible show wpAny _ _ (binaryOp Operator.Mult (Value.int _ _) (Value.int _ _)) _ _ _); refine PyProof.Rows.mul_int ?_ ?hm9; (case hm9 => with_reducible assumption)))) | (k_here; (with_reducible show wpAny _ _ (call (Value.ref _) _) _ _ _); k_dflt (refine' InnerD.use ?j0 ?j1 ?j2 ?j3 ?j4 ?j5 ?j6 ?j7 ?j8 ?j9 ?ja ?jb ?jc ?_; (case j0 => (rename InnerD _ _ _ _ _ _ _ _ _ _ _ => hI9; exact hI9)); (case j1 => k_asm); (case j2 => k_asm); (case j3 => k_asm); (case j4 => k_asm); (case j5 => k_asm); (case j6 => exact rfl); (case j7 => first | with_reducible assumption | exact Int.le_trans ‹_› (fm_lo ‹_›) | omega); (case j8 => first | with_reducible assumption | exact fm_lt ‹_› ‹_› | exact fm_gt ‹_› | ((try simp only [List.size_toArray]); omega)); (case j9 => first | with_reducible assumption | exact Int.le_trans (fm_hi ‹_›) ‹_› | ((try simp only [List.size_toArray]); omega)); (case ja => first | exact fm_dl ‹_› ‹_› | exact fm_dr ‹_› ‹_› ‹_› | ((try simp only [List.size_toArray]); omega)); (case jb => ((try dsimp only [ktrTop]); first | exact dp_mid ‹_› | exact dp_top ‹_› ‹_› | omega)); (case jc => ((try dsimp only [ktrTop]); first | exact un_mid ‹_› | exact un_top ‹_› ‹_› | omega)); k_whole); intro _ _ _ _ _; (try dsimp only); (try k_fold)) | ((with_reducible show wpAny _ _ (binaryOp _ _ _) _ _ _); first | (k_here; (with_reducible show wpAny _ _ (binaryOp Operator.LShift (Value.int _ _) (Value.int _ _)) _ _ _); refine lshift_int ?ha9 ?hb9 ?_; (case ha9 => with_reducible assumption); (case hb9 => with_reducible assumption)) | (k_here; (with_reducible show wpAny _ _ (binaryOp Operator.Mult (Value.int _ _) (Value.int _ _)) _ _ _); refine PyProof.Rows.mul_int ?_ ?hm9; (case hm9 => with_reducible assumption))) | walk1 | (dsimp only; first | with_reducible (first | (k_here; (with_reducible show wpAny _ _ (call (Value.ref _) _) _ _ _); k_dflt (refine' InnerD.use ?j0 ?j1 ?j2 ?j3 ?j4 ?j5 ?j6 ?j7 ?j8 ?j9 ?ja ?jb ?jc ?_; (case j0 => (rename InnerD _ _ _ _ _ _ _ _ _ _ _ => hI9; exact hI9)); (case j1 => k_asm); (case j2 => k_asm); (case j3 => k_asm); (case j4 => k_asm); (case j5 => k_asm); (case j6 => exact rfl); (case j7 => first | with_reducible assumption | exact Int.le_trans ‹_› (fm_lo ‹_›) | omega); (case j8 => first | with_reducible assumption | exact fm_lt ‹_› ‹_› | exact fm_gt ‹_› | ((try simp only [List.size_toArray]); omega)); (case j9 => first | with_reducible assumption | exact Int.le_trans (fm_hi ‹_›) ‹_› | ((try simp only [List.size_toArray]); omega)); (case ja => first | exact fm_dl ‹_› ‹_› | exact fm_dr ‹_› ‹_› ‹_› | ((try simp only [List.size_toArray]); omega)); (case jb => ((try dsimp only [ktrTop]); first | exact dp_mid ‹_› | exact dp_top ‹_› ‹_› | omega)); (case jc => ((try dsimp only [ktrTop]); first | exact un_mid ‹_› | exact un_top ‹_› ‹_› | omega)); k_whole); intro _ _ _ _ _; (try dsimp only); (try k_fold)) | ((with_reducible show wpAny _ _ (binaryOp _ _ _) _ _ _); first | (k_here; (with_reducible show wpAny _ _ (binaryOp Operator.LShift (Value.int _ _) (Value.int _ _)) _ _ _); refine lshift_int ?ha9 ?hb9 ?_; (case ha9 => with_reducible assumption); (case hb9 => with_reducible assumption)) | (k_here; (with_reducible show wpAny _ _ (binaryOp Operator.Mult (Value.int _ _) (Value.int _ _)) _ _ _); refine PyProof.Rows.mul_int ?_ ?hm9; (case hm9 => with_reducible assumption)))) | (k_here; (with_reducible show wpAny _ _ (call (Value.ref _) _) _ _ _); k_dflt (refine' InnerD.use ?j0 ?j1 ?j2 ?j3 ?j4 ?j5 ?j6 ?j7 ?j8 ?j9 ?ja ?jb ?jc ?_; (case j0 => (rename InnerD _ _ _ _ _ _ _ _ _ _ _ => hI9; exact hI9)); (case j1 => k_asm); (case j2 => k_asm); (case j3 => k_asm); (case j4 => k_asm); (case j5 => k_asm); (case j6 => exact rfl); (case j7 => first | with_reducible assumption | exact Int.le_trans ‹_› (fm_lo ‹_›) | omega); (case j8 => first | with_reducible assumption | exact fm_lt ‹_› ‹_› | exact fm_gt ‹_› | ((try simp only [List.size_toArray]); omega)); (case j9 => first | with_reducible assumption | exact Int.le_trans (fm_hi ‹_›) ‹_› | ((try simp only [List.size_toArray]); omega)); (case ja => first | exact fm_dl ‹_› ‹_› | exact fm_dr ‹_› ‹_› ‹_› | ((try simp only [List.size_toArray]); omega)); (case jb => ((try dsimp only [ktrTop]); first | exact dp_mid ‹_› | exact dp_top ‹_› ‹_› | omega)); (case jc => ((try dsimp only [ktrTop]); first | exact un_mid ‹_› | exact un_top ‹_› ‹_› | omega)); k_whole); intro _ _ _ _ _; (try dsimp only); (try k_fold)) | ((with_reducible show wpAny _ _ (binaryOp _ _ _) _ _ _); first | (k_here; (with_reducible show wpAny _ _ (binaryOp Operator.LShift (Value.int _ _) (Value.int _ _)) _ _ _); refine lshift_int ?ha9 ?hb9 ?_; (case ha9 => with_reducible assumption); (case hb9 => with_reducible assumption)) | (k_here; (with_reducible show wpAny _ _ (binaryOp Operator.Mult (Value.int _ _) (Value.int _ _)) _ _ _); refine PyProof.Rows.mul_int ?_ ?hm9; (case hm9 => with_reducible assumption))) | walk1) | (leave1; (try dsimp only)) | fail "no step"))
      · rw [← dval_one n.toNat h0 (by assumption) h2]
        exact hret _ _ _ (by k_asm) (by k_asm)
      · have e := dval_join (M := (x + y).fdiv (2 ^ Int.toNat 1)) h0 hxm hmy h2 hn0
        rw [e]
        exact hret _ _ _ (by k_asm) (by k_asm)
  have hsub' : ∀ q ∈ tl, q ∈ newsF := fun q hq => by rw [eN]; exact .tail _ (.tail _ (.tail _ (.tail _ hq)))
  clear N3 F2 N2 hlt1 hlt2 hor hcm N' F' eN htl hcU l1 N
  have hI := inner ds.length
  clear inner
  have hTR : TabsL (r1' ++ r2) := ⟨r1', r2, rfl, ht1', ht2⟩
  have hsub : ∀ q ∈ g (r1' ++ r2), q ∈ newsF := by rw [hg, ← etl]; exact hsub'
  clear hsub' ht1' ht2 ht1 hG hg hl
  (repeat' (first | (k_unfold; (try dsimp only)) | (k_end; wrow_close) | with_reducible (first | ((with_reducible show wpAny _ _ (call _ _) _ _ _); first | (k_here; (with_reducible show wpAny _ _ (call (Value.ref _) _) _ _ _); k_dflt (refine' InnerD.use ?j0 ?j1 ?j2 ?j3 ?j4 ?j5 ?j6 ?j7 ?j8 ?j9 ?ja ?jb ?jc ?_; (case j0 => (rename InnerD _ _ _ _ _ _ _ _ _ _ _ => hI9; exact hI9)); (case j1 => k_asm); (case j2 => k_asm); (case j3 => k_asm); (case j4 => k_asm); (case j5 => k_asm); (case j6 => exact rfl); (case j7 => first | with_reducible assumption | exact Int.le_trans ‹_› (fm_lo ‹_›) | omega); (case j8 => first | with_reducible assumption | exact fm_lt ‹_› ‹_› | exact fm_gt ‹_› | ((try simp only [List.size_toArray]); omega)); (case j9 => first | with_reducible assumption | exact Int.le_trans (fm_hi ‹_›) ‹_› | ((try simp only [List.size_toArray]); omega)); (case ja => first | exact fm_dl ‹_› ‹_› | exact fm_dr ‹_› ‹_› ‹_› | ((try simp only [List.size_toArray]); omega)); (case jb => ((try dsimp only [ktrTop]); first | exact dp_mid ‹_› | exact dp_top ‹_› ‹_› | omega)); (case jc => ((try dsimp only [ktrTop]); first | exact un_mid ‹_› | exact un_top ‹_› ‹_› | omega)); k_whole); intro _ _ _ _ _; (try dsimp only); (try k_fold)) | (k_here; (with_reducible show wpAny _ _ (call (Value.builtin "len") [Value.ref _]) _ _ _); k_dflt (refine' len_L ?j1 ?j2 ?j3 ?_; (case j1 => k_asm); (case j2 => k_mem); (case j3 => first | with_reducible assumption | omega | (simp only [List.size_toArray]; omega))))) | (k_here; (with_reducible show wpAny _ _ (truthy (Value.ref _)) _ _ _); k_dflt (refine' truthy_L ?j1 ?j2 ?j3 ?p1 ?p2; (case j1 => k_asm); (case j2 => k_mem); (case j3 => first | with_reducible assumption | omega | (simp only [List.size_toArray]; omega))); (case' p1 => (wtm_at "t0")); (case' p2 => (wtm_at "t0")))) | ((with_reducible show wpAny _ _ (call _ _) _ _ _); first | (k_here; (with_reducible show wpAny _ _ (call (Value.ref _) _) _ _ _); k_dflt (refine' InnerD.use ?j0 ?j1 ?j2 ?j3 ?j4 ?j5 ?j6 ?j7 ?j8 ?j9 ?ja ?jb ?jc ?_; (case j0 => (rename InnerD _ _ _ _ _ _ _ _ _ _ _ => hI9; exact hI9)); (case j1 => k_asm); (case j2 => k_asm); (case j3 => k_asm); (case j4 => k_asm); (case j5 => k_asm); (case j6 => exact rfl); (case j7 => first | with_reducible assumption | exact Int.le_trans ‹_› (fm_lo ‹_›) | omega); (case j8 => first | with_reducible assumption | exact fm_lt ‹_› ‹_› | exact fm_gt ‹_› | ((try simp only [List.size_toArray]); omega)); (case j9 => first | with_reducible assumption | exact Int.le_trans (fm_hi ‹_›) ‹_› | ((try simp only [List.size_toArray]); omega)); (case ja => first | exact fm_dl ‹_› ‹_› | exact fm_dr ‹_› ‹_› ‹_› | ((try simp only [List.size_toArray]); omega)); (case jb => ((try dsimp only [ktrTop]); first | exact dp_mid ‹_› | exact dp_top ‹_› ‹_› | omega)); (case jc => ((try dsimp only [ktrTop]); first | exact un_mid ‹_› | exact un_top ‹_› ‹_› | omega)); k_whole); intro _ _ _ _ _; (try dsimp only); (try k_fold)) | (k_here; (with_reducible show wpAny _ _ (call (Value.builtin "len") [Value.ref _]) _ _ _); k_dflt (refine' len_L ?j1 ?j2 ?j3 ?_; (case j1 => k_asm); (case j2 => k_mem); (case j3 => first | with_reducible assumption | omega | (simp only [List.size_toArray]; omega))))) | (k_here; (with_reducible show wpAny _ _ (truthy (Value.ref _)) _ _ _); k_dflt (refine' truthy_L ?j1 ?j2 ?j3 ?p1 ?p2; (case j1 => k_asm); (case j2 => k_mem); (case j3 => first | with_reducible assumption | omega | (simp only [List.size_toArray]; omega))); (case' p1 => (wtm_at "t0")); (case' p2 => (wtm_at "t0"))) | walk1 | (dsimp only; first | with_reducible (first | ((with_reducible show wpAny _ _ (call _ _) _ _ _); first | (k_here; (with_reducible show wpAny _ _ (call (Value.ref _) _) _ _ _); k_dflt (refine' InnerD.use ?j0 ?j1 ?j2 ?j3 ?j4 ?j5 ?j6 ?j7 ?j8 ?j9 ?ja ?jb ?jc ?_; (case j0 => (rename InnerD _ _ _ _ _ _ _ _ _ _ _ => hI9; exact hI9)); (case j1 => k_asm); (case j2 => k_asm); (case j3 => k_asm); (case j4 => k_asm); (case j5 => k_asm); (case j6 => exact rfl); (case j7 => first | with_reducible assumption | exact Int.le_trans ‹_› (fm_lo ‹_›) | omega); (case j8 => first | with_reducible assumption | exact fm_lt ‹_› ‹_› | exact fm_gt ‹_› | ((try simp only [List.size_toArray]); omega)); (case j9 => first | with_reducible assumption | exact Int.le_trans (fm_hi ‹_›) ‹_› | ((try simp only [List.size_toArray]); omega)); (case ja => first | exact fm_dl ‹_› ‹_› | exact fm_dr ‹_› ‹_› ‹_› | ((try simp only [List.size_toArray]); omega)); (case jb => ((try dsimp only [ktrTop]); first | exact dp_mid ‹_› | exact dp_top ‹_› ‹_› | omega)); (case jc => ((try dsimp only [ktrTop]); first | exact un_mid ‹_› | exact un_top ‹_› ‹_› | omega)); k_whole); intro _ _ _ _ _; (try dsimp only); (try k_fold)) | (k_here; (with_reducible show wpAny _ _ (call (Value.builtin "len") [Value.ref _]) _ _ _); k_dflt (refine' len_L ?j1 ?j2 ?j3 ?_; (case j1 => k_asm); (case j2 => k_mem); (case j3 => first | with_reducible assumption | omega | (simp only [List.size_toArray]; omega))))) | (k_here; (with_reducible show wpAny _ _ (truthy (Value.ref _)) _ _ _); k_dflt (refine' truthy_L ?j1 ?j2 ?j3 ?p1 ?p2; (case j1 => k_asm); (case j2 => k_mem); (case j3 => first | with_reducible assumption | omega | (simp only [List.size_toArray]; omega))); (case' p1 => (wtm_at "t0")); (case' p2 => (wtm_at "t0")))) | ((with_reducible show wpAny _ _ (call _ _) _ _ _); first | (k_here; (with_reducible show wpAny _ _ (call (Value.ref _) _) _ _ _); k_dflt (refine' InnerD.use ?j0 ?j1 ?j2 ?j3 ?j4 ?j5 ?j6 ?j7 ?j8 ?j9 ?ja ?jb ?jc ?_; (case j0 => (rename InnerD _ _ _ _ _ _ _ _ _ _ _ => hI9; exact hI9)); (case j1 => k_asm); (case j2 => k_asm); (case j3 => k_asm); (case j4 => k_asm); (case j5 => k_asm); (case j6 => exact rfl); (case j7 => first | with_reducible assumption | exact Int.le_trans ‹_› (fm_lo ‹_›) | omega); (case j8 => first | with_reducible assumption | exact fm_lt ‹_› ‹_› | exact fm_gt ‹_› | ((try simp only [List.size_toArray]); omega)); (case j9 => first | with_reducible assumption | exact Int.le_trans (fm_hi ‹_›) ‹_› | ((try simp only [List.size_toArray]); omega)); (case ja => first | exact fm_dl ‹_› ‹_› | exact fm_dr ‹_› ‹_› ‹_› | ((try simp only [List.size_toArray]); omega)); (case jb => ((try dsimp only [ktrTop]); first | exact dp_mid ‹_› | exact dp_top ‹_› ‹_› | omega)); (case jc => ((try dsimp only [ktrTop]); first | exact un_mid ‹_› | exact un_top ‹_› ‹_› | omega)); k_whole); intro _ _ _ _ _; (try dsimp only); (try k_fold)) | (k_here; (with_reducible show wpAny _ _ (call (Value.builtin "len") [Value.ref _]) _ _ _); k_dflt (refine' len_L ?j1 ?j2 ?j3 ?_; (case j1 => k_asm); (case j2 => k_mem); (case j3 => first | with_reducible assumption | omega | (simp only [List.size_toArray]; omega))))) | (k_here; (with_reducible show wpAny _ _ (truthy (Value.ref _)) _ _ _); k_dflt (refine' truthy_L ?j1 ?j2 ?j3 ?p1 ?p2; (case j1 => k_asm); (case j2 => k_mem); (case j3 => first | with_reducible assumption | omega | (simp only [List.size_toArray]; omega))); (case' p1 => (wtm_at "t0")); (case' p2 => (wtm_at "t0"))) | walk1) | (leave1; (try dsimp only)) | fail "no step"))
  · have e : seg ds 0 (vs.toArray.size : Int) = ds := by
      unfold seg
      rw [List.size_toArray, hlv]; simp
    rw [e]
    exact hret _ _ _ _ hTR (by k_asm) (cb_drop (by k_asm) hsub)
  · have e : ds = [] := List.eq_nil_of_length_eq_zero (by omega)
    subst e
    exact hret _ _ _ _ hTR (by k_asm) (cb_drop (by k_asm) hsub)
end D1
theorem set_back_D1_z : True := by first | walk1 | trivial
-- Plain2
section Plain2
/-- the k figures of x to the base 2 ^ n, the lowest first -/
def digs (n : Nat) : Nat → Nat → List Int
  | 0, _ => []
  | k + 1, x => ((x % 2 ^ n : Nat) : Int) :: digs n k (x / 2 ^ n)
theorem digs_length (n : Nat) : ∀ k x, (digs n k x).length = k
  | 0, _ => rfl
  | k + 1, x => by rw [digs, List.length_cons, digs_length n k]
theorem digs_split (n : Nat) : ∀ (j k x : Nat), digs n (j + k) x = digs n j (x % 2 ^ (n * j)) ++ digs n k (x / 2 ^ (n * j))
  | 0, k, x => by simp [digs]
  | j + 1, k, x => by
    rw [show j + 1 + k = (j + k) + 1 from by omega, digs, digs, List.cons_append, digs_split n j k]
    have e : (2 : Nat) ^ (n * (j + 1)) = 2 ^ n * 2 ^ (n * j) := by rw [Nat.mul_succ, Nat.add_comm, Nat.pow_add]
    rw [e, Nat.mod_mul_right_mod, Nat.mod_mul_right_div_self, Nat.div_div_eq_div_mul]
theorem bitXor_low {x : Int} (h : 0 ≤ x) (s : Nat) : Builtin.bitXor x (x.fdiv (2 ^ s) * 2 ^ s) = ((x.toNat % 2 ^ s : Nat) : Int) := by
  obtain ⟨X, rfl⟩ := Int.eq_ofNat_of_zero_le h
  have e1 : ((X : Nat) : Int).fdiv (2 ^ s) = ((X / 2 ^ s : Nat) : Int) := by
    rw [Int.fdiv_eq_ediv_of_nonneg _ (Int.le_of_lt (pow2_pos s))]; norm_cast
  rw [e1, bitXor_and]
  have e2 : ((X / 2 ^ s : Nat) : Int) * 2 ^ s = ((X / 2 ^ s * 2 ^ s : Nat) : Int) := by norm_cast
  rw [e2]
  have e3 : Builtin.bitAnd ((X : Nat) : Int) ((X / 2 ^ s * 2 ^ s : Nat) : Int) = ((X / 2 ^ s * 2 ^ s : Nat) : Int) := by
    unfold Builtin.bitAnd
    have a1 : decide (0 ≤ ((X : Nat) : Int)) = true := by simp
    have a2 : decide (0 ≤ ((X / 2 ^ s * 2 ^ s : Nat) : Int)) = true := decide_eq_true (Int.natCast_nonneg _)
    rw [a1, a2]
    simp only [Int.toNat_natCast]
    congr 1
    apply Nat.eq_of_testBit_eq
    intro i
    rw [Nat.testBit_and, ← Nat.shiftRight_eq_div_pow, ← Nat.shiftLeft_eq, Nat.testBit_shiftLeft, Nat.testBit_shiftRight]
    by_cases hi : i ≥ s
    · simp [hi]
    · simp [hi]
  rw [e3, Int.toNat_natCast]
  have := Nat.div_add_mod X (2 ^ s)
  have h2 : X / 2 ^ s * 2 ^ s = 2 ^ s * (X / 2 ^ s) := Nat.mul_comm _ _
  omega
def putSeg (ds : List Int) (x : Nat) (sg : List Int) : List Int := ds.take x ++ sg ++ ds.drop (x + sg.length)
theorem putSeg_length {ds : List Int} {x : Nat} {sg : List Int} (h : x + sg.length ≤ ds.length) : (putSeg ds x sg).length = ds.length := by
  unfold putSeg; rw [List.length_append, List.length_append, List.length_take, List.length_drop, Nat.min_eq_left (Nat.le_trans (Nat.le_add_right _ _) h), Nat.add_sub_cancel' h]
theorem putSeg_one (ds : List Int) (x : Nat) (v : Int) (h : x < ds.length) : putSeg ds x [v] = ds.set x v := by
  unfold putSeg
  rw [List.set_eq_take_append_cons_drop, if_pos h]
  simp
theorem putSeg_two (ds : List Int) (x : Nat) (a b : List Int) (h : x + a.length + b.length ≤ ds.length) : putSeg (putSeg ds x a) (x + a.length) b = putSeg ds x (a ++ b) := by
  unfold putSeg
  have hx : (ds.take x).length = x := by rw [List.length_take]; omega
  have e1 : (ds.take x ++ a ++ ds.drop (x + a.length)).take (x + a.length) = ds.take x ++ a := by
    rw [List.take_append_of_le_length (by rw [List.length_append, hx]; omega), List.take_of_length_le (by rw [List.length_append, hx]; omega)]
  have e2 : (ds.take x ++ a ++ ds.drop (x + a.length)).drop (x + a.length + b.length) = ds.drop (x + (a ++ b).length) := by
    rw [List.drop_append, List.drop_of_length_le (by rw [List.length_append, hx]; omega), List.nil_append, List.drop_drop]
    congr 1
    rw [List.length_append, List.length_append, hx]; omega
  rw [e1, e2]
  simp only [List.append_assoc]
theorem putSeg_all (ds sg : List Int) (h : ds.length = sg.length) : putSeg ds 0 sg = sg := by
  unfold putSeg
  simp [← h]
theorem fdiv_pow_toNat {x : Int} (h : 0 ≤ x) (s : Nat) : x.fdiv (2 ^ s) = ((x.toNat / 2 ^ s : Nat) : Int) := by
  obtain ⟨X, rfl⟩ := Int.eq_ofNat_of_zero_le h
  rw [Int.fdiv_eq_ediv_of_nonneg _ (Int.le_of_lt (pow2_pos s)), Int.toNat_natCast]; norm_cast
theorem putSeg_digs {ds : List Int} {N X Y M V LO UP : Nat} (h1 : X ≤ M) (h2 : M ≤ Y) (h3 : Y ≤ ds.length) (hlo : LO = V % 2 ^ (N * (M - X))) (hup : UP = V / 2 ^ (N * (M - X))) :
    putSeg (putSeg ds X (digs N (M - X) LO)) M (digs N (Y - M) UP) = putSeg ds X (digs N (Y - X) V) := by
  subst hlo hup
  have e2 := putSeg_two ds X (digs N (M - X) (V % 2 ^ (N * (M - X)))) (digs N (Y - M) (V / 2 ^ (N * (M - X)))) (by rw [digs_length, digs_length, Nat.add_sub_cancel' h1, Nat.add_sub_cancel' h2]; exact h3)
  rw [digs_length, Nat.add_sub_cancel' h1] at e2
  rw [e2, sub3 h1 h2, digs_split]
/-- below a power of two, hidden from omega -/
def LtPow (x k : Nat) : Prop := x < 2 ^ k
theorem digs_one {N V : Nat} (h : LtPow V N) : digs N 1 V = [(V : Int)] := by
  simp only [digs]
  rw [Nat.mod_eq_of_lt h]
/-- how many figures a has to the base 2 ^ n -/
def ndig (n a : Nat) : Nat := (Builtin.Int.intBits (a : Int) + n - 1) / n
theorem lt_intBits (a : Nat) : a < 2 ^ Builtin.Int.intBits (a : Int) := by
  unfold Builtin.Int.intBits
  split
  · rename_i h; have : a = 0 := by simpa using h
    subst this; decide
  · rename_i h; exact Nat.lt_log2_self
theorem ndig_zero {n : Nat} (hn : 1 ≤ n) : ndig n 0 = 0 := by
  unfold ndig
  rw [show Builtin.Int.intBits ((0 : Nat) : Int) = 0 from rfl, Nat.zero_add]
  exact Nat.div_eq_of_lt (by omega)
theorem ndig_le {n a k : Nat} (hn : 1 ≤ n) (h : LtPow a (n * k)) : ndig n a ≤ k := by
  have hb : Builtin.Int.intBits (a : Int) ≤ n * k := intBits_le (by rw [Int.natAbs_natCast]; exact h)
  unfold ndig
  refine Nat.le_of_lt_succ (Nat.div_lt_of_lt_mul ?_)
  rw [Nat.mul_succ]; omega
theorem lt_ndig {n a : Nat} (hn : 1 ≤ n) : LtPow a (n * ndig n a) := by
  unfold LtPow
  refine Nat.lt_of_lt_of_le (lt_intBits a) (Nat.pow_le_pow_right (by decide) ?_)
  unfold ndig
  generalize Builtin.Int.intBits (a : Int) = b
  have h1 := Nat.div_add_mod (b + n - 1) n
  have h2 := Nat.mod_lt (b + n - 1) (show n > 0 by omega)
  omega
theorem ndig_int {av n : Int} (ha : 0 ≤ av) (hn : 1 ≤ n) : ((Builtin.Int.intBits av : Int) + n - 1).fdiv n = (ndig n.toNat av.toNat : Int) := by
  obtain ⟨A, rfl⟩ := Int.eq_ofNat_of_zero_le ha
  obtain ⟨N, rfl⟩ := Int.eq_ofNat_of_zero_le (show 0 ≤ n by omega)
  simp only [Int.toNat_natCast]
  rw [Int.fdiv_eq_ediv_of_nonneg _ (by omega)]
  unfold ndig
  have e : ((Builtin.Int.intBits ((A : Nat) : Int) : Int) + (N : Int) - 1) = ((Builtin.Int.intBits ((A : Nat) : Int) + N - 1 : Nat) : Int) := by omega
  rw [e]; norm_cast
end Plain2
-- I1
section I1
set_option maxRecDepth 100000
set_option maxHeartbeats 8000000
theorem set_back_I1 : True := by
  w_top off
  first | walk1 | trivial
theorem all_ne_of {tl : List (Addr × Obj)} {b d : Addr} (h : ∀ p ∈ tl, p.1 < b) (hbd : @LE.le Nat _ b d) : ∀ p ∈ tl, p.1 ≠ d := fun p hp => Nat.ne_of_lt (Nat.lt_of_lt_of_le (h p hp) hbd)
local macro_rules | `(tactic| k_all) => `(tactic| (refine' all_ne_of (by with_reducible assumption) ?_; (try dsimp only); omega))

theorem swap2 {h₀ h : Heap} {L : Addr} {x y : Addr × Obj} {r : List (Addr × Obj)} (N : News h₀ L h (x :: y :: r)) : ∃ R, R = x :: r ∧ News h₀ L h (y :: R) :=
  ⟨_, rfl, fun q hq => N q (by
    rcases List.mem_cons.mp hq with rfl | hq
    · exact .tail _ (.head _)
    · rcases List.mem_cons.mp hq with rfl | hq
      · exact .head _
      · exact .tail _ (.tail _ hq))⟩
local macro_rules | `(tactic| k_all) => `(tactic| with_reducible assumption)
local macro_rules | `(tactic| k_upd) => `(tactic| ((rename ∀ v v' : List Value, Upd _ _ _ _ _ => hU9); exact hU9 _ _))
theorem ints_replicate (t : Tok) (x : Int) : ∀ k, IntsAre (List.replicate k (Value.int x t)) (List.replicate k x)
  | 0 => .nil
  | k + 1 => .cons x t (ints_replicate t x k)
theorem zeros_mul {prog : Program} {w : World} {A : Around} {E : Value → Shared → Prop} {s : Shared} {h₀ : Heap} {L l : Addr} {m : Str → Option Value} {news : List (Addr × Obj)} {t0 u : Tok} {x : Int} {nn : Nat} {Q : Value → Shared → Prop} (F : Fr h₀ L s.heap m) (N : News h₀ L s.heap news) (hm : (l, listOf [Value.int 0 t0].toArray nn) ∈ news) (h0 : 0 ≤ x) (h1 : x ≤ 200)
    (h : ∀ D h' vs', IntsAre vs' (List.replicate x.toNat 0) → Fr h₀ L h' m → News h₀ L h' ((D, listOf vs'.toArray 0) :: news) → (∀ p ∈ news, p.1 < D) → Q (.ref D) { s with heap := h' }) : wpAny (model prog w) A (binaryOp .Mult (.ref l) (.int x u)) Q E s := by
  refine KMa.mul F N (PySem.IsL.isList (n := nn) (N _ hm).1) (by omega) (by omega) ?_ (ws := List.replicate x.toNat (Value.int 0 t0)) ?_ fun D h' F' N' hl => h D h' _ (ints_replicate t0 0 _) F' N' hl
  · simp only [List.length_cons, List.length_nil]; omega
  · generalize x.toNat = k
    induction k with
    | zero => rfl
    | succ k ih => rw [List.replicate_succ, List.flatten_cons, ih]; rfl
def AllV (P : List Value → Prop) : Prop := ∀ v, P v
/-- the nested def of _int2digits: what a call of it puts into the list -/
def InnerI (w : World) (p : Program) (loose : List Str) (mean : ExcName → Option Value) (mg mb : Str → Option Value) (f : Addr) (K : Nat) (n : Int) (led : List Value → List (Addr × Obj)) (k : Nat) : Prop :=
  ∀ (xv x y : Int) (vs : List Value) (ds : List Int), 0 ≤ x → x < y → y ≤ K → y - x ≤ k → 0 ≤ xv → LtPow xv.toNat (n.toNat * (y.toNat - x.toNat)) → IntsAre vs ds → ds.length = K → ∀ (dp un : Nat) (gd : Option (List Code)) (cn : Str) (cs : Scope) (a : Addr) (ccd : Value) (cl : List (Str × Addr)) (outer : List Env) (A₀ : Around) (base h₀ : Heap) (L : Addr) (m : Str → Option Value) (s : Shared) (Q E : Value → Shared → Prop) (t u v : Tok),
      Below A₀ base outer h₀ → Fr h₀ L s.heap m → (Mine.hd.heap_39 w.params).In h₀ → News h₀ L s.heap (led vs) → Top p loose mean mg mb h₀ → cs.kind = .function → dp + k < recursionLimit → un + 8 * k < cLine →
      (∀ h' tk' vs', IntsAre vs' (putSeg ds x.toNat (digs n.toNat (y.toNat - x.toNat) xv.toNat)) → Fr h₀ L h' m → News h₀ L h' (led vs') → Q .none { s with heap := h', toks := tk' }) →
      wpAny (model PySem.Challenge.rw_ti0020_01.row.prog w) (ktrTop dp un gd cn cs L a ccd cl outer) (call (.ref f) [.int xv t, .int x u, .int y v]) Q E s
theorem InnerI.use {w : World} {p : Program} {loose : List Str} {mean : ExcName → Option Value} {mg mb : Str → Option Value} {f : Addr} {K : Nat} {n : Int} {led : List Value → List (Addr × Obj)} {k : Nat} {xv x y : Int} {vs : List Value} {ds : List Int} {dp un : Nat} {gd : Option (List Code)} {cn : Str} {cs : Scope} {a : Addr} {ccd : Value} {cl : List (Str × Addr)} {outer : List Env} {A₀ : Around} {base h₀ : Heap} {L : Addr} {m : Str → Option Value} {s : Shared} {Q E : Value → Shared → Prop} {t u v : Tok}
   (H : InnerI w p loose mean mg mb f K n led k) (B : Below A₀ base outer h₀) (F : Fr h₀ L s.heap m) (X : (Mine.hd.heap_39 w.params).In h₀) (N : News h₀ L s.heap (led vs)) (T : Top p loose mean mg mb h₀) (hk : cs.kind = .function)
   (h0 : 0 ≤ x) (h1 : x < y) (h2 : y ≤ K) (h3 : y - x ≤ k) (hd : dp + k < recursionLimit) (hu : un + 8 * k < cLine)
   (hx0 : 0 ≤ xv) (hx1 : LtPow xv.toNat (n.toNat * (y.toNat - x.toNat))) (hi : IntsAre vs ds) (hlen : ds.length = K)
   (ret : ∀ h' tk' vs', IntsAre vs' (putSeg ds x.toNat (digs n.toNat (y.toNat - x.toNat) xv.toNat)) → Fr h₀ L h' m → News h₀ L h' (led vs') → Q .none { s with heap := h', toks := tk' }) :
   wpAny (model PySem.Challenge.rw_ti0020_01.row.prog w) (ktrTop dp un gd cn cs L a ccd cl outer) (call (.ref f) [.int xv t, .int x u, .int y v]) Q E s :=
  H xv x y vs ds h0 h1 h2 h3 hx0 hx1 hi hlen dp un gd cn cs a ccd cl outer A₀ base h₀ L m s Q E t u v B F X N T hk hd hu ret

local macro_rules | `(tactic| wtm_at "t2") => `(tactic| (intro h9 tk9 vs9 hi9 F9 N9; (rename AllV _ => hA9); (obtain ⟨ma9, mb9, mc9, md9, me9⟩ := hA9 vs9); (try dsimp only); (try k_fold)))
theorem i2d_spec (w : World) (av n : Int) (ta tn : Tok) 
  (p : Program) (loose : List Str) (mean : ExcName → Option Value) (mg mb : Str → Option Value)
    (dp un : Nat) (gd : Option (List Code)) (cn : Str) (cs : Scope) (a : Addr) (ccd : Value) (cl : List (Str × Addr)) (outer : List Env) (A₀ : Around) (base h₀ : Heap) (L : Addr) (m : Str → Option Value) (s : Shared) (Q E : Value → Shared → Prop)
    (g : List (Addr × Obj) → List (Addr × Obj)) (rest : List (Addr × Obj))
    (B : Below A₀ base outer h₀) (F : Fr h₀ L s.heap m) (X : (Mine.hd.heap_39 w.params).In h₀) (C1 : CodeHd base 41 37) (C2 : CodeHd base 34 30)
    (hG : Led g) (hR : TabsL rest) 
    (N : News h₀ L s.heap (g rest)) (T : Top p loose mean mg mb h₀) (hk : cs.kind = .function) (hd : dp + 60 < recursionLimit) (hu : un + 600 < cLine)
    (ha0 : 0 ≤ av) (hn0 : 1 ≤ n) (hn1 : n ≤ 10000) (hfit : LtPow av.toNat (n.toNat * 50))
    (hret : ∀ D vs' h' tk' rest', IntsAre vs' (digs n.toNat (ndig n.toNat av.toNat) av.toNat) → TabsL rest' → Fr h₀ L h' m → News h₀ L h' ((D, listOf vs'.toArray 0) :: g rest') → (37 : Nat) < D → (∀ p ∈ g rest', p.1 ≠ D) → Q (.ref D) { s with heap := h', toks := tk' }) :
    wpAny (model PySem.Challenge.rw_ti0020_01.row.prog w) (ktrTop dp un gd cn cs L a ccd cl outer) (call (.ref 35) [.int av ta, .int n tn]) Q E s := by
  (rename Frag.In _ _ => Xfill; revert Xfill; k_fill; intro Xfill)
  obtain ⟨pre, hg, hpre⟩ := hG.of
  obtain ⟨r1, r2, rfl, ht1, ht2⟩ := hR
  rw [hg] at N
  refine wpAny_call ?_
  refine' code_defC ?k1 ?k2 ?k3 ?k4 ?k5 ?kA ?kF ?kK ?k6 ?k7 ?k8 ?k9 ?kB ?kD ?_ ?c2 ?c3 ?c4; (case kA => exact rfl); (case kF => exact rfl); (case kK => assumption); (case k1 => k_asm); (case k2 => k_asm); (case k3 => k_asm); (case k4 => k_asm); (case k5 => k_asm); (case k6 => k_is); (case k7 => k_is); (case k8 => ktr_room); (case k9 => first | exact BindsTo.of_eq rfl | exact binds_K (by k_in) rfl (by k_is) rfl rfl rfl | fail "k_enter: no rule for these arguments"); (case kB => exact rfl); (case kD => decide +kernel); (case c2 => exact rfl); (case c3 => exact rfl); (case c4 => exact rfl); k_whole
  intro g' L' h' tk' cells' FG' F' N' Y' B' X' T' l1; k_cells Y'
  (try dsimp only); (try k_lift B'); (try k_fold)
  rename_i o1 o2 o3 d1 d2 d3
  replace d1 : o1.data = Data.cell none := d1
  replace d2 : o2.data = Data.cell none := d2
  replace d3 : o3.data = Data.cell (some (Value.int n tn)) := d3
  replace F' : Fr g' L' h' (fun z => if z = Str.ofString "a" then some (Value.int av ta) else none) := F'
  simp only [List.cons_append, List.nil_append] at N'
  have hc37 : (37 : Nat) < L' := by
    obtain ⟨ps, hm⟩ := ht1.mem
    exact l1 (37, tabObj ps) (List.mem_append_right _ (List.mem_append_left _ hm))
  clear N FG'
  have hkn := ndig_int ha0 hn0
  have hk50 : ndig n.toNat av.toNat ≤ 50 := ndig_le (by omega) hfit
  have hk0 : 0 ≤ ((Builtin.Int.intBits av : Int) + n - 1).fdiv n := by rw [hkn]; exact Int.natCast_nonneg _
  have hk1 : ((Builtin.Int.intBits av : Int) + n - 1).fdiv n ≤ 200 := by rw [hkn]; exact Int.le_trans (Int.ofNat_le.mpr hk50) (by decide)
  (repeat' (first | (k_unfold; (try dsimp only)) | (k_end; wrow_close) | with_reducible (first | (k_here; (with_reducible show wpAny _ _ (binaryOp Operator.Mult (Value.ref _) (Value.int _ _)) _ _ _); k_dflt (refine' zeros_mul ?j1 ?j2 ?j3 ?j4 ?j5 ?_; (case j1 => k_asm); (case j2 => k_asm); (case j3 => k_mem); (case j4 => with_reducible assumption); (case j5 => with_reducible assumption)); wtm_at "t1")) | (k_here; (with_reducible show wpAny _ _ (binaryOp Operator.Mult (Value.ref _) (Value.int _ _)) _ _ _); k_dflt (refine' zeros_mul ?j1 ?j2 ?j3 ?j4 ?j5 ?_; (case j1 => k_asm); (case j2 => k_asm); (case j3 => k_mem); (case j4 => with_reducible assumption); (case j5 => with_reducible assumption)); wtm_at "t1") | walk1 | (dsimp only; first | with_reducible (first | (k_here; (with_reducible show wpAny _ _ (binaryOp Operator.Mult (Value.ref _) (Value.int _ _)) _ _ _); k_dflt (refine' zeros_mul ?j1 ?j2 ?j3 ?j4 ?j5 ?_; (case j1 => k_asm); (case j2 => k_asm); (case j3 => k_mem); (case j4 => with_reducible assumption); (case j5 => with_reducible assumption)); wtm_at "t1")) | (k_here; (with_reducible show wpAny _ _ (binaryOp Operator.Mult (Value.ref _) (Value.int _ _)) _ _ _); k_dflt (refine' zeros_mul ?j1 ?j2 ?j3 ?j4 ?j5 ?_; (case j1 => k_asm); (case j2 => k_asm); (case j3 => k_mem); (case j4 => with_reducible assumption); (case j5 => with_reducible assumption)); wtm_at "t1") | walk1) | (leave1; (try dsimp only)) | fail "no step"))
  rename_i l0 _ ll0 D _ vD hiD ll1 h2 o2' F2 N2 hd2
  refine' nestDef_K ?d0 ?k0 ?a0 ?_
  (case d0 => exact rfl); (case k0 => exact rfl); (case a0 => exact rfl)
  have hUne : ∀ d : Addr, @LE.le Nat _ d 37 → ∀ p ∈ [(D, listOf vD.toArray 0), (l0, listOf #[Value.int 0 tk'] 0), (L' + 1 + 1 + 1, o1), (L' + 1 + 1, o2'), (L' + 1, o3)], p.1 ≠ d := by
    intro d hd37 p hp
    simp only [List.mem_cons, List.not_mem_nil, or_false] at hp
    rcases hp with rfl | rfl | rfl | rfl | rfl <;> (refine neN ?_; dsimp only; omega)
  have hcU : ∀ p ∈ [(D, listOf vD.toArray 0), (l0, listOf #[Value.int 0 tk'] 0), (L' + 1 + 1 + 1, o1), (L' + 1 + 1, o2'), (L' + 1, o3)] ++ (pre ++ r1), p.1 ≠ 30 := by
    intro p hp
    rcases List.mem_append.mp hp with hp | hp
    · exact hUne 30 (by decide) p hp
    · rcases List.mem_append.mp hp with hp | hp
      · exact (hpre p hp).2
      · exact ht1.ne (by decide) (by decide) p hp
  refine' nest_T (P := 30) (c := 34) (U := [(D, listOf vD.toArray 0), (l0, listOf #[Value.int 0 tk'] 0), (L' + 1 + 1 + 1, o1), (L' + 1 + 1, o2'), (L' + 1, o3)] ++ (pre ++ r1)) (r := r2) (V := []) F2 ?nN T' ?nC rfl hcU ?nV ?nr ?nb ?ncl ?_
  (case nN => simpa only [List.append_assoc, List.append_nil, List.cons_append, List.nil_append] using N2)
  (case nC => exact CodeHd.keeps C2 (Below.stays B'))
  (case nV => exact fun _ h => nomatch h)
  (case nr => exact ht2)
  (case nb => obtain ⟨ps, hm⟩ := ht1.mem; exact ⟨_, List.mem_append_left _ (List.mem_append_right _ (List.mem_append_right _ hm)), Nat.le_refl _⟩)
  (case ncl => exact rfl)
  intro f c' oc vc tc ctv doc h3 tk3 r2' F3 N3 ht2' hcm hod hov hlt1 hlt2 hor
  obtain ⟨tl, etl⟩ : ∃ tl, tl = pre ++ (r1 ++ r2') := ⟨_, rfl⟩
  have hLD : @LT.lt Nat _ (L' + 1 + 1 + 1) D := ll1.2.1
  have htl : ∀ p ∈ tl, p.1 ≠ L' + 1 + 1 + 1 ∧ p.1 ≠ D ∧ p.1 ≠ f := by
    subst etl
    have old : ∀ p ∈ pre ++ (r1 ++ r2), p.1 ≠ L' + 1 + 1 + 1 ∧ p.1 ≠ D := fun p hp =>
      have h : @LT.lt Nat _ p.1 L' := l1 p hp
      ⟨Nat.ne_of_lt (Nat.lt_of_lt_of_le h (Nat.le_add_right (L' : Nat) 3)), Nat.ne_of_lt (Nat.lt_trans (Nat.lt_of_lt_of_le h (Nat.le_add_right (L' : Nat) 3)) hLD)⟩
    intro p hp
    rcases List.mem_append.mp hp with hp | hp
    · exact ⟨(old p (List.mem_append_left _ hp)).1, (old p (List.mem_append_left _ hp)).2, Nat.ne_of_lt (hlt1 p (List.mem_append_left _ (List.mem_append_right _ (List.mem_append_left _ hp))))⟩
    · rcases List.mem_append.mp hp with hp | hp
      · have h := old p (List.mem_append_right _ (List.mem_append_left _ hp))
        exact ⟨h.1, h.2, Nat.ne_of_lt (hlt1 p (List.mem_append_left _ (List.mem_append_right _ (List.mem_append_right _ hp))))⟩
      · have hpf := Nat.ne_of_lt (hlt2 p hp)
        rcases hor p hp with ⟨o, ho⟩ | hn
        · have h := old (p.1, o) (List.mem_append_right _ (List.mem_append_right _ ho))
          exact ⟨h.1, h.2, hpf⟩
        · exact ⟨Nat.ne_of_gt (hn (L' + 1 + 1 + 1, o1) (List.mem_append_left _ (List.mem_append_left _ (.tail _ (.tail _ (.head _)))))), Nat.ne_of_gt (hn (D, listOf vD.toArray 0) (List.mem_append_left _ (List.mem_append_left _ (.head _)))), hpf⟩
  have hf3 : @LT.lt Nat _ (L' + 1 + 1 + 1) f := hlt1 (L' + 1 + 1 + 1, o1) (List.mem_append_left _ (List.mem_append_left _ (.tail _ (.tail _ (.head _)))))
  have hfD : @LT.lt Nat _ D f := hlt1 (D, listOf vD.toArray 0) (List.mem_append_left _ (List.mem_append_left _ (.head _)))
  have hctl : (c', oc) ∈ tl := by rw [etl]; exact List.mem_append_right _ (List.mem_append_right _ hcm)
  simp only [List.append_assoc, List.append_nil, ← etl, List.cons_append, List.nil_append] at N3
  refine' storeX_C F3 N3 (c := L' + 1 + 1 + 1) rfl (.tail ?u1 (.tail ?u2 (.tail ?u3 (.head ?u4)))) d1 ?_ rfl rfl
  (case u1 => exact Nat.ne_of_gt hf3)
  (case u2 => (refine neN ?_; dsimp only; omega))
  (case u3 => (refine neN ?_; dsimp only; omega))
  (case u4 => exact List.forall_mem_cons.mpr ⟨(by refine neN ?_; dsimp only; omega), List.forall_mem_cons.mpr ⟨(by refine neN ?_; dsimp only; omega), fun p hp => (htl p hp).1⟩⟩)
  intro h4 o1' F4 N4 hd1'
  dsimp only at N4 ⊢
  obtain ⟨newsR, eR, NF⟩ := swap2 N4
  have mf := mem_of_eq eR
  have mi : (L' + 1 + 1 + 1, o1') ∈ newsR := by rw [eR]; exact .tail _ (.tail _ (.head _))
  have ma : (L' + 1 + 1, o2') ∈ newsR := by rw [eR]; exact .tail _ (.tail _ (.tail _ (.head _)))
  have mn : (L' + 1, o3) ∈ newsR := by rw [eR]; exact .tail _ (.tail _ (.tail _ (.tail _ (.head _))))
  have mc : (c', oc) ∈ newsR := by rw [eR]; exact .tail _ (.tail _ (.tail _ (.tail _ (.tail _ hctl))))
  have hneR : ∀ p ∈ newsR, p.1 ≠ D := by
    rw [eR]
    exact List.forall_mem_cons.mpr ⟨Nat.ne_of_gt hfD, List.forall_mem_cons.mpr ⟨(by refine neN ?_; dsimp only; omega), List.forall_mem_cons.mpr ⟨(by refine neN ?_; dsimp only; omega), List.forall_mem_cons.mpr ⟨(by refine neN ?_; dsimp only; omega), List.forall_mem_cons.mpr ⟨(by refine neN ?_; dsimp only; omega), fun p hp => (htl p hp).2.1⟩⟩⟩⟩⟩
  have hsub' : ∀ q ∈ tl, q ∈ newsR := fun q hq => by rw [eR]; exact .tail _ (.tail _ (.tail _ (.tail _ (.tail _ hq))))
  clear eR N4 F3 N3 N2 F2 hlt1 hlt2 hor hcm hcU hUne l1 htl
  obtain ⟨led, hled⟩ : ∃ led : List Value → List (Addr × Obj), ∀ v, led v = (D, listOf v.toArray 0) :: newsR := ⟨_, fun _ => rfl⟩
  have hUpd : ∀ v v' : List Value, Upd D (listOf v.toArray 0) (listOf v'.toArray 0) (led v) (led v') := fun v v' => by rw [hled, hled]; exact .head hneR
  have hKb : vD.length ≤ 200 := by rw [hiD.length, List.length_replicate]; exact tn_le hk1
  have inner : ∀ (k : Nat), InnerI w p loose mean mg mb f vD.length n led k := by
    clear NF F4 hsub' hret B' X' T' hpre hg hG ht1 ht2 etl ht2' hctl hiD hk0 hk1
    intro k
    induction k with
    | zero => intro xv x y vs ds h0 h1 h2 h3; exact absurd (Int.sub_pos_of_lt h1) (Int.not_lt.mpr h3)
    | succ k ih =>
      intro xv x y vs ds h0 h1 h2 h3 hx0 hx1 hi hlen dp un gd cn cs a ccd cl outer A₀ base h₀ L m s Q E t u v B F X N T hk hd hu hret
      have mfA := fun v => (hled v ▸ List.Mem.tail _ mf : _ ∈ led v)
      have miA : ∀ v, (L' + 1 + 1 + 1, o1') ∈ led v := fun v => by rw [hled]; exact .tail _ mi
      have maA : ∀ v, (L' + 1 + 1, o2') ∈ led v := fun v => by rw [hled]; exact .tail _ ma
      have mnA : ∀ v, (L' + 1, o3) ∈ led v := fun v => by rw [hled]; exact .tail _ mn
      have mcA : ∀ v, (c', oc) ∈ led v := fun v => by rw [hled]; exact .tail _ mc
      have mDA : ∀ v, (D, listOf v.toArray 0) ∈ led v := fun v => by rw [hled]; exact .head _
      have hAll : AllV _ := fun v => And.intro (mfA v) (And.intro (miA v) (And.intro (maA v) (And.intro (mnA v) (mDA v))))
      clear mf mi ma mn mc
      have mf := mfA vs
      have mi := miA vs
      have ma := maA vs
      have mn := mnA vs
      have mc := mcA vs
      have mD := mDA vs
      refine wpAny_call ?_
      refine' code_nest ?k1 ?k2 ?k3 ?k4 ?k5 ?kA ?kF ?kK ?k6 ?k7 ?k8 ?k9 ?kB ?_ ?c2 ?c3 ?c4 ?c5
      (case kA => exact rfl)
      (case kF => exact rfl)
      (case kK => exact hk)
      (case k1 => exact B)
      (case k2 => exact F)
      (case k3 => exact X)
      (case k4 => exact N)
      (case k5 => exact T)
      (case k6 => exact mf)
      (case k7 => exact codeRec_news N mc hod hov)
      (case k8 => ktr_room)
      (case k9 => exact BindsTo.of_eq rfl)
      (case c5 => decide)
      (case kB => exact locs rfl)
      (case c2 => exact rfl)
      (case c3 => exact rfl)
      (case c4 => exact rfl)
      intro g' L' h' FG' F' N' B' X' T'
      (try dsimp only)
      (try k_fold)
      replace F' : Fr g' L' h' (fun z => ([(Str.ofString "R", Value.int y v), (Str.ofString "L", Value.int x u), (Str.ofString "x", Value.int xv t)] : List (Str × Value)).lookup z) := F'
      clear FG' mc mcA hod hov N mfA miA maA mnA mDA
      have hn0' : 0 ≤ n := Int.le_trans (by decide) hn0
      have hn2 : ((n.toNat : Nat) : Int) = n := Int.toNat_of_nonneg hn0'
      have hxm := fm_lo h1
      have hmy := fm_hi h1
      have hM0 : 0 ≤ (x + y).fdiv (2 ^ Int.toNat 1) := Int.le_trans h0 hxm
      have hMK : (x + y).fdiv (2 ^ Int.toNat 1) ≤ (vD.length : Int) := Int.le_trans hmy h2
      have hXM : x.toNat ≤ ((x + y).fdiv (2 ^ Int.toNat 1)).toNat := Int.toNat_le_toNat hxm
      have hMY : ((x + y).fdiv (2 ^ Int.toNat 1)).toNat ≤ y.toNat := Int.toNat_le_toNat hmy
      have hYL : y.toNat ≤ ds.length := by rw [hlen]; exact tn_le h2
      have hyK : y.toNat ≤ 200 := Nat.le_trans (tn_le h2) hKb
      have hmul : IntMulOk ((x + y).fdiv (2 ^ Int.toNat 1) - x) n := by
        refine IntMulOk.of_right (intBits_le (k := 64) ?_)
        rw [← hn2, Int.natAbs_natCast]
        exact Nat.lt_of_le_of_lt (tn_le hn1) (by decide)
      have hs0 : 0 ≤ ((x + y).fdiv (2 ^ Int.toNat 1) - x) * n := Int.mul_nonneg (Int.sub_nonneg_of_le hxm) hn0'
      have hx63 : x < 2 ^ 63 := Int.lt_of_lt_of_le h1 (Int.le_trans h2 (Int.le_trans (Int.ofNat_le.mpr hKb) (by decide)))
      have hsn : (((x + y).fdiv (2 ^ Int.toNat 1) - x) * n).toNat = n.toNat * (((x + y).fdiv (2 ^ Int.toNat 1)).toNat - x.toNat) := shift_nat hxm hn0' h0
      have hsum : n.toNat * (y.toNat - x.toNat) = n.toNat * (((x + y).fdiv (2 ^ Int.toNat 1)).toNat - x.toNat) + n.toNat * (y.toNat - ((x + y).fdiv (2 ^ Int.toNat 1)).toNat) := by
        rw [← Nat.mul_add, sub3 hXM hMY]
      have hxl : x < (ds.length : Int) := by rw [hlen]; exact Int.lt_of_lt_of_le h1 h2
      have hup : LtPow (xv.fdiv (2 ^ (((x + y).fdiv (2 ^ Int.toNat 1) - x) * n).toNat)).toNat (n.toNat * (y.toNat - ((x + y).fdiv (2 ^ Int.toNat 1)).toNat)) := by
        rw [fdiv_pow_toNat hx0, hsn, Int.toNat_natCast]
        unfold LtPow at hx1 ⊢
        rw [hsum, Nat.pow_add] at hx1
        exact Nat.div_lt_of_lt_mul hx1
      have hl1 : (Builtin.Int.intBits (xv.fdiv (2 ^ (((x + y).fdiv (2 ^ Int.toNat 1) - x) * n).toNat)) : Int) + ((x + y).fdiv (2 ^ Int.toNat 1) - x) * n ≤ 2 ^ 27 := by
        have hb : Builtin.Int.intBits (xv.fdiv (2 ^ (((x + y).fdiv (2 ^ Int.toNat 1) - x) * n).toNat)) ≤ n.toNat * (y.toNat - ((x + y).fdiv (2 ^ Int.toNat 1)).toNat) := by
          refine intBits_le ?_
          have e : (xv.fdiv (2 ^ (((x + y).fdiv (2 ^ Int.toNat 1) - x) * n).toNat)).natAbs = (xv.fdiv (2 ^ (((x + y).fdiv (2 ^ Int.toNat 1) - x) * n).toNat)).toNat := by
            rw [fdiv_pow_toNat hx0]; rfl
          rw [e]; exact hup
        have hm : n.toNat * (y.toNat - ((x + y).fdiv (2 ^ Int.toNat 1)).toNat) ≤ 10000 * 200 := Nat.mul_le_mul (tn_le hn1) (sub_le_of hyK)
        have hk : ((x + y).fdiv (2 ^ Int.toNat 1) - x) * n ≤ 200 * 10000 := Int.le_trans (Int.mul_le_mul_of_nonneg_right (show (x + y).fdiv (2 ^ Int.toNat 1) - x ≤ 200 from int_sub_le (Int.le_trans hMK (Int.ofNat_le.mpr hKb)) h0) hn0') (Int.mul_le_mul_of_nonneg_left hn1 (by decide))
        exact Int.le_trans (Int.add_le_add (Int.ofNat_le.mpr (Nat.le_trans hb hm)) hk) (by decide)
      have hlo0 : 0 ≤ Builtin.bitXor xv (xv.fdiv (2 ^ (((x + y).fdiv (2 ^ Int.toNat 1) - x) * n).toNat) * 2 ^ (((x + y).fdiv (2 ^ Int.toNat 1) - x) * n).toNat) := by
        rw [bitXor_low hx0]; exact Int.natCast_nonneg _
      have hlo1 : LtPow (Builtin.bitXor xv (xv.fdiv (2 ^ (((x + y).fdiv (2 ^ Int.toNat 1) - x) * n).toNat) * 2 ^ (((x + y).fdiv (2 ^ Int.toNat 1) - x) * n).toNat)).toNat (n.toNat * (((x + y).fdiv (2 ^ Int.toNat 1)).toNat - x.toNat)) := by
        rw [bitXor_low hx0, hsn, Int.toNat_natCast]
        exact Nat.mod_lt _ (Nat.two_pow_pos _)
      have hup0 : 0 ≤ xv.fdiv (2 ^ (((x + y).fdiv (2 ^ Int.toNat 1) - x) * n).toNat) := by
        rw [fdiv_pow_toNat hx0]; exact Int.natCast_nonneg _
      have hpl : (putSeg ds x.toNat (digs n.toNat (((x + y).fdiv (2 ^ Int.toNat 1)).toNat - x.toNat) (Builtin.bitXor xv (xv.fdiv (2 ^ (((x + y).fdiv (2 ^ Int.toNat 1) - x) * n).toNat) * 2 ^ (((x + y).fdiv (2 ^ Int.toNat 1) - x) * n).toNat)).toNat)).length = vD.length := by
        rw [putSeg_length, hlen]
        rw [digs_length, Nat.add_sub_cancel' hXM]; exact Nat.le_trans hMY hYL
      (repeat' (first | (k_unfold; (try dsimp only)) | (k_end; wrow_close) | with_reducible (first | (k_here; (with_reducible show wpAny _ _ (call (Value.ref _) _) _ _ _); k_dflt (refine' InnerI.use ?j0 ?j1 ?j2 ?j3 ?j4 ?j5 ?j6 ?j7 ?j8 ?j9 ?ja ?jb ?jc ?jd ?je ?jf ?jg ?_; (case j0 => (rename InnerI _ _ _ _ _ _ _ _ _ _ _ => hI9; exact hI9)); (case j1 => k_asm); (case j2 => k_asm); (case j3 => k_asm); (case j4 => k_asm); (case j5 => k_asm); (case j6 => exact rfl); (case j7 => first | with_reducible assumption | exact Int.le_trans ‹_› (fm_lo ‹_›) | omega); (case j8 => first | with_reducible assumption | exact fm_lt ‹_› ‹_› | exact fm_gt ‹_› | ((try simp only [List.size_toArray]); omega)); (case j9 => first | with_reducible assumption | exact Int.le_trans (fm_hi ‹_›) ‹_› | ((try simp only [List.size_toArray]); omega)); (case ja => first | exact fm_dl ‹_› ‹_› | exact fm_dr ‹_› ‹_› ‹_› | ((try simp only [List.size_toArray]); omega)); (case jb => ((try dsimp only [ktrTop]); first | exact dp_mid ‹_› | omega)); (case jc => ((try dsimp only [ktrTop]); first | exact un_mid ‹_› | omega)); (case jd => first | with_reducible assumption | omega); (case je => with_reducible assumption); (case jf => with_reducible assumption); (case jg => first | with_reducible assumption | omega); k_whole); wtm_at "t2") | (k_here; (with_reducible show wpAny _ _ (setItem (Value.ref _) (Value.int _ _) (Value.int _ _)) _ _ _); k_dflt (refine' ksa_set ?k1 ?k2 ?k3 ?k4 ?k5 ?k6 ?k7 ?_; (case k1 => k_asm); (case k2 => k_asm); (case k3 => k_upd); (case k4 => with_reducible assumption); (case k5 => with_reducible assumption); (case k6 => with_reducible assumption); (case k7 => with_reducible assumption); k_whole); intro _ _ _ _ _ _; (try k_sweep)) | ((with_reducible show wpAny _ _ (binaryOp _ _ _) _ _ _); first | (k_here; (with_reducible show wpAny _ _ (binaryOp Operator.LShift (Value.int _ _) (Value.int _ _)) _ _ _); refine lshift_int ?ha9 ?hb9 ?_; (case ha9 => with_reducible assumption); (case hb9 => with_reducible assumption)) | (k_here; (with_reducible show wpAny _ _ (binaryOp Operator.Mult (Value.int _ _) (Value.int _ _)) _ _ _); refine PyProof.Rows.mul_int ?_ ?hm9; (case hm9 => with_reducible assumption)))) | (k_here; (with_reducible show wpAny _ _ (call (Value.ref _) _) _ _ _); k_dflt (refine' InnerI.use ?j0 ?j1 ?j2 ?j3 ?j4 ?j5 ?j6 ?j7 ?j8 ?j9 ?ja ?jb ?jc ?jd ?je ?jf ?jg ?_; (case j0 => (rename InnerI _ _ _ _ _ _ _ _ _ _ _ => hI9; exact hI9)); (case j1 => k_asm); (case j2 => k_asm); (case j3 => k_asm); (case j4 => k_asm); (case j5 => k_asm); (case j6 => exact rfl); (case j7 => first | with_reducible assumption | exact Int.le_trans ‹_› (fm_lo ‹_›) | omega); (case j8 => first | with_reducible assumption | exact fm_lt ‹_› ‹_› | exact fm_gt ‹_› | ((try simp only [List.size_toArray]); omega)); (case j9 => first | with_reducible assumption | exact Int.le_trans (fm_hi ‹_›) ‹_› | ((try simp only [List.size_toArray]); omega)); (case ja => first | exact fm_dl ‹_› ‹_› | exact fm_dr ‹_› ‹_› ‹_› | ((try simp only [List.size_toArray]); omega)); (case jb => ((try dsimp only [ktrTop]); first | exact dp_mid ‹_› | omega)); (case jc => ((try dsimp only [ktrTop]); first | exact un_mid ‹_› | omega)); (case jd => first | with_reducible assumption | omega); (case je => with_reducible assumption); (case jf => with_reducible assumption); (case jg => first | with_reducible assumption | omega); k_whole); wtm_at "t2") | (k_here; (with_reducible show wpAny _ _ (setItem (Value.ref _) (Value.int _ _) (Value.int _ _)) _ _ _); k_dflt (refine' ksa_set ?k1 ?k2 ?k3 ?k4 ?k5 ?k6 ?k7 ?_; (case k1 => k_asm); (case k2 => k_asm); (case k3 => k_upd); (case k4 => with_reducible assumption); (case k5 => with_reducible assumption); (case k6 => with_reducible assumption); (case k7 => with_reducible assumption); k_whole); intro _ _ _ _ _ _; (try k_sweep)) | ((with_reducible show wpAny _ _ (binaryOp _ _ _) _ _ _); first | (k_here; (with_reducible show wpAny _ _ (binaryOp Operator.LShift (Value.int _ _) (Value.int _ _)) _ _ _); refine lshift_int ?ha9 ?hb9 ?_; (case ha9 => with_reducible assumption); (case hb9 => with_reducible assumption)) | (k_here; (with_reducible show wpAny _ _ (binaryOp Operator.Mult (Value.int _ _) (Value.int _ _)) _ _ _); refine PyProof.Rows.mul_int ?_ ?hm9; (case hm9 => with_reducible assumption))) | walk1 | (dsimp only; first | with_reducible (first | (k_here; (with_reducible show wpAny _ _ (call (Value.ref _) _) _ _ _); k_dflt (refine' InnerI.use ?j0 ?j1 ?j2 ?j3 ?j4 ?j5 ?j6 ?j7 ?j8 ?j9 ?ja ?jb ?jc ?jd ?je ?jf ?jg ?_; (case j0 => (rename InnerI _ _ _ _ _ _ _ _ _ _ _ => hI9; exact hI9)); (case j1 => k_asm); (case j2 => k_asm); (case j3 => k_asm); (case j4 => k_asm); (case j5 => k_asm); (case j6 => exact rfl); (case j7 => first | with_reducible assumption | exact Int.le_trans ‹_› (fm_lo ‹_›) | omega); (case j8 => first | with_reducible assumption | exact fm_lt ‹_› ‹_› | exact fm_gt ‹_› | ((try simp only [List.size_toArray]); omega)); (case j9 => first | with_reducible assumption | exact Int.le_trans (fm_hi ‹_›) ‹_› | ((try simp only [List.size_toArray]); omega)); (case ja => first | exact fm_dl ‹_› ‹_› | exact fm_dr ‹_› ‹_› ‹_› | ((try simp only [List.size_toArray]); omega)); (case jb => ((try dsimp only [ktrTop]); first | exact dp_mid ‹_› | omega)); (case jc => ((try dsimp only [ktrTop]); first | exact un_mid ‹_› | omega)); (case jd => first | with_reducible assumption | omega); (case je => with_reducible assumption); (case jf => with_reducible assumption); (case jg => first | with_reducible assumption | omega); k_whole); wtm_at "t2") | (k_here; (with_reducible show wpAny _ _ (setItem (Value.ref _) (Value.int _ _) (Value.int _ _)) _ _ _); k_dflt (refine' ksa_set ?k1 ?k2 ?k3 ?k4 ?k5 ?k6 ?k7 ?_; (case k1 => k_asm); (case k2 => k_asm); (case k3 => k_upd); (case k4 => with_reducible assumption); (case k5 => with_reducible assumption); (case k6 => with_reducible assumption); (case k7 => with_reducible assumption); k_whole); intro _ _ _ _ _ _; (try k_sweep)) | ((with_reducible show wpAny _ _ (binaryOp _ _ _) _ _ _); first | (k_here; (with_reducible show wpAny _ _ (binaryOp Operator.LShift (Value.int _ _) (Value.int _ _)) _ _ _); refine lshift_int ?ha9 ?hb9 ?_; (case ha9 => with_reducible assumption); (case hb9 => with_reducible assumption)) | (k_here; (with_reducible show wpAny _ _ (binaryOp Operator.Mult (Value.int _ _) (Value.int _ _)) _ _ _); refine PyProof.Rows.mul_int ?_ ?hm9; (case hm9 => with_reducible assumption)))) | (k_here; (with_reducible show wpAny _ _ (call (Value.ref _) _) _ _ _); k_dflt (refine' InnerI.use ?j0 ?j1 ?j2 ?j3 ?j4 ?j5 ?j6 ?j7 ?j8 ?j9 ?ja ?jb ?jc ?jd ?je ?jf ?jg ?_; (case j0 => (rename InnerI _ _ _ _ _ _ _ _ _ _ _ => hI9; exact hI9)); (case j1 => k_asm); (case j2 => k_asm); (case j3 => k_asm); (case j4 => k_asm); (case j5 => k_asm); (case j6 => exact rfl); (case j7 => first | with_reducible assumption | exact Int.le_trans ‹_› (fm_lo ‹_›) | omega); (case j8 => first | with_reducible assumption | exact fm_lt ‹_› ‹_› | exact fm_gt ‹_› | ((try simp only [List.size_toArray]); omega)); (case j9 => first | with_reducible assumption | exact Int.le_trans (fm_hi ‹_›) ‹_› | ((try simp only [List.size_toArray]); omega)); (case ja => first | exact fm_dl ‹_› ‹_› | exact fm_dr ‹_› ‹_› ‹_› | ((try simp only [List.size_toArray]); omega)); (case jb => ((try dsimp only [ktrTop]); first | exact dp_mid ‹_› | omega)); (case jc => ((try dsimp only [ktrTop]); first | exact un_mid ‹_› | omega)); (case jd => first | with_reducible assumption | omega); (case je => with_reducible assumption); (case jf => with_reducible assumption); (case jg => first | with_reducible assumption | omega); k_whole); wtm_at "t2") | (k_here; (with_reducible show wpAny _ _ (setItem (Value.ref _) (Value.int _ _) (Value.int _ _)) _ _ _); k_dflt (refine' ksa_set ?k1 ?k2 ?k3 ?k4 ?k5 ?k6 ?k7 ?_; (case k1 => k_asm); (case k2 => k_asm); (case k3 => k_upd); (case k4 => with_reducible assumption); (case k5 => with_reducible assumption); (case k6 => with_reducible assumption); (case k7 => with_reducible assumption); k_whole); intro _ _ _ _ _ _; (try k_sweep)) | ((with_reducible show wpAny _ _ (binaryOp _ _ _) _ _ _); first | (k_here; (with_reducible show wpAny _ _ (binaryOp Operator.LShift (Value.int _ _) (Value.int _ _)) _ _ _); refine lshift_int ?ha9 ?hb9 ?_; (case ha9 => with_reducible assumption); (case hb9 => with_reducible assumption)) | (k_here; (with_reducible show wpAny _ _ (binaryOp Operator.Mult (Value.int _ _) (Value.int _ _)) _ _ _); refine PyProof.Rows.mul_int ?_ ?hm9; (case hm9 => with_reducible assumption))) | walk1) | (leave1; (try dsimp only)) | fail "no step"))
      · (rename IntsAre (List.set _ _ _) _ => hiS)
        have e1 : putSeg ds x.toNat (digs n.toNat (y.toNat - x.toNat) xv.toNat) = ds.set x.toNat xv := by
          have h1 : y.toNat - x.toNat = 1 := ts1 h0 (by assumption)
          rw [h1] at hx1 ⊢
          rw [Nat.mul_one] at hx1
          rw [digs_one hx1, Int.toNat_of_nonneg hx0, putSeg_one _ _ _ (tn_lt h0 hxl)]
        exact hret _ _ _ (e1 ▸ hiS) (by k_asm) (by k_asm)
      · (rename IntsAre _ (putSeg (putSeg _ _ _) _ _) => hiS)
        have e1 := putSeg_digs (ds := ds) (N := n.toNat) (X := x.toNat) (Y := y.toNat) (M := ((x + y).fdiv (2 ^ Int.toNat 1)).toNat) (V := xv.toNat) (LO := (Builtin.bitXor xv (xv.fdiv (2 ^ (((x + y).fdiv (2 ^ Int.toNat 1) - x) * n).toNat) * 2 ^ (((x + y).fdiv (2 ^ Int.toNat 1) - x) * n).toNat)).toNat) (UP := (xv.fdiv (2 ^ (((x + y).fdiv (2 ^ Int.toNat 1) - x) * n).toNat)).toNat) hXM hMY hYL
          (by rw [bitXor_low hx0, hsn, Int.toNat_natCast]) (by rw [fdiv_pow_toNat hx0, hsn, Int.toNat_natCast])
        exact hret _ _ _ (e1 ▸ hiS) (by k_asm) (by k_asm)
  have hI := inner vD.length
  have mfA := fun v => (hled v ▸ List.Mem.tail _ mf : _ ∈ led v)
  have miA : ∀ v, (L' + 1 + 1 + 1, o1') ∈ led v := fun v => by rw [hled]; exact .tail _ mi
  have maA : ∀ v, (L' + 1 + 1, o2') ∈ led v := fun v => by rw [hled]; exact .tail _ ma
  have mnA : ∀ v, (L' + 1, o3) ∈ led v := fun v => by rw [hled]; exact .tail _ mn
  have mDA : ∀ v, (D, listOf v.toArray 0) ∈ led v := fun v => by rw [hled]; exact .head _
  have hAll : AllV _ := fun v => And.intro (mfA v) (And.intro (miA v) (And.intro (maA v) (And.intro (mnA v) (mDA v))))
  have hTR : TabsL (r1 ++ r2') := ⟨r1, r2', rfl, ht1, ht2'⟩
  have hsub : ∀ q ∈ g (r1 ++ r2'), q ∈ newsR := by rw [hg, ← etl]; exact hsub'
  clear hsub' ht2' ht2 ht1 hg inner
  clear mf mi ma mn mc
  have mf := mfA vD
  have mi := miA vD
  have ma := maA vD
  have mn := mnA vD
  have mD := mDA vD
  rw [← hled vD] at NF
  clear mfA miA maA mnA mDA
  have hvl : vD.length = ndig n.toNat av.toNat := by rw [hiD.length, List.length_replicate, hkn, Int.toNat_natCast]
  have hrl : (List.replicate (((Builtin.Int.intBits av : Int) + n - 1).fdiv n).toNat (0 : Int)).length = vD.length := hiD.length.symm
  have hlt : LtPow av.toNat (n.toNat * ((vD.toArray.size : Int).toNat - Int.toNat 0)) := by
    rw [List.size_toArray, hvl, Int.toNat_natCast]; exact lt_ndig (by omega)
  have h37D : (37 : Nat) < D := Nat.lt_trans (Nat.lt_succ_of_lt hc37) (Nat.lt_trans (Nat.lt_succ_self _) (Nat.lt_trans (Nat.lt_succ_self _) hLD))
  have hneG : ∀ p ∈ g (r1 ++ r2'), p.1 ≠ D := fun p hp => hneR p (hsub p hp)
  have hpos : av = 0 ∨ 0 < vD.length := by
    by_cases h : av = 0
    · exact .inl h
    refine .inr ?_
    rw [hvl]
    refine Nat.pos_of_ne_zero fun e => ?_
    have h2 := lt_ndig (n := n.toNat) (a := av.toNat) (by omega)
    rw [e] at h2
    have h3 : av.toNat < 1 := h2
    exact h (Int.le_antisymm (Int.toNat_eq_zero.mp (Nat.lt_one_iff.mp h3)) ha0)
  have hend : ∀ vs' h' tk', IntsAre vs' (digs n.toNat (ndig n.toNat av.toNat) av.toNat) → Fr h₀ L h' m → News h₀ L h' (led vs') → Q (.ref D) { s with heap := h', toks := tk' } := fun vs' h' tk' hi' F' N' =>
    hret D vs' h' tk' _ hi' hTR F' (by
      rw [hled] at N'
      exact fun p hp => N' p (by
        rcases List.mem_cons.mp hp with rfl | hp
        · exact .head _
        · exact .tail _ (hsub p hp))) h37D hneG
  have hvE : vD.length = ndig n.toNat av.toNat := hvl
  clear hret hsub hneR hneG hTR hvl
  have hvl2 : vD.length ≤ 50 := by rw [hiD.length, List.length_replicate, hkn, Int.toNat_natCast]; exact hk50
  (repeat' (first | (k_unfold; (try dsimp only)) | (k_end; wrow_close) | with_reducible (first | (k_here; (with_reducible show wpAny _ _ (call (Value.builtin "len") [Value.ref _]) _ _ _); k_dflt (refine' len_L ?j1 ?j2 ?j3 ?_; (case j1 => k_asm); (case j2 => k_mem); (case j3 => first | with_reducible assumption | omega | (simp only [List.size_toArray]; omega))))) | (k_here; (with_reducible show wpAny _ _ (call (Value.builtin "len") [Value.ref _]) _ _ _); k_dflt (refine' len_L ?j1 ?j2 ?j3 ?_; (case j1 => k_asm); (case j2 => k_mem); (case j3 => first | with_reducible assumption | omega | (simp only [List.size_toArray]; omega)))) | walk1 | (dsimp only; first | with_reducible (first | (k_here; (with_reducible show wpAny _ _ (call (Value.builtin "len") [Value.ref _]) _ _ _); k_dflt (refine' len_L ?j1 ?j2 ?j3 ?_; (case j1 => k_asm); (case j2 => k_mem); (case j3 => first | with_reducible assumption | omega | (simp only [List.size_toArray]; omega))))) | (k_here; (with_reducible show wpAny _ _ (call (Value.builtin "len") [Value.ref _]) _ _ _); k_dflt (refine' len_L ?j1 ?j2 ?j3 ?_; (case j1 => k_asm); (case j2 => k_mem); (case j3 => first | with_reducible assumption | omega | (simp only [List.size_toArray]; omega)))) | walk1) | (leave1; (try dsimp only)) | fail "no step"))
  · refine' InnerI.use ?j0 ?j1 ?j2 ?j3 ?j4 ?j5 ?j6 ?j7 ?j8 ?j9 ?ja ?jb ?jc ?jd ?je ?jf ?jg ?_
    (case j0 => exact hI)
    (case j1 => k_asm)
    (case j2 => k_asm)
    (case j3 => k_asm)
    (case j4 => k_asm)
    (case j5 => k_asm)
    (case j6 => exact rfl)
    (case j7 => omega)
    (case j8 => (rw [List.size_toArray]; exact Int.ofNat_lt.mpr (hpos.resolve_left (by assumption))))
    (case j9 => rw [List.size_toArray]; exact Int.le_refl _)
    (case ja => rw [List.size_toArray, Int.sub_zero]; exact Int.le_refl _)
    (case jb => exact dp_top hd hvl2)
    (case jc => exact un_top hu hvl2)
    (case jd => with_reducible assumption)
    (case je => with_reducible assumption)
    (case jf => with_reducible assumption)
    (case jg => with_reducible assumption)
    intro h9 tk9 vs9 hiS F9 N9
    obtain ⟨ma9, mb9, mc9, md9, me9⟩ := hAll vs9
    clear NF F4 mf mi ma mn mD
    (try dsimp only)
    k_steps
    rw [show Int.toNat 0 = 0 from rfl, List.size_toArray, Int.toNat_natCast, Nat.sub_zero, hvE, putSeg_all _ _ (by rw [digs_length, List.length_replicate, hkn, Int.toNat_natCast])] at hiS
    exact hend _ _ _ hiS (by k_asm) (by k_asm)
  · have hz : av = 0 := by assumption
    subst hz
    have e : vD = [] := List.eq_nil_of_length_eq_zero (hvE.trans (ndig_zero (n := n.toNat) (by omega)))
    have e2 : digs n.toNat (ndig n.toNat (Int.toNat 0)) (Int.toNat 0) = [] := by
      rw [show ndig n.toNat (Int.toNat 0) = 0 from ndig_zero (by omega)]; rfl
    refine hend [] _ _ ?_ (by k_asm) (by rw [← e]; k_asm)
    rw [e2]; exact .nil
end I1
theorem set_back_I1_z : True := by first | walk1 | trivial
-- V1
section V1
set_option maxRecDepth 100000
set_option maxHeartbeats 8000000
theorem set_back_V1 : True := by
  w_top off
  first | walk1 | trivial
abbrev tupObj (xs : Array Value) : Obj := { cls := .type "tuple", data := .seq xs }
theorem divmod_L {prog : Program} {w : World} {A : Around} {E : Value → Shared → Prop} {s : Shared} {a b : Int} {t u : Tok} {Q : Value → Shared → Prop} {h₀ : Heap} {L : Addr} {m : Str → Option Value} {news : List (Addr × Obj)} (F : Fr h₀ L s.heap m) (N : News h₀ L s.heap news) (hb : b ≠ 0) (hp : Builtin.divisionGoesByPylong a b = false)
    (h : ∀ D h' t1 t2, Fr h₀ L h' m → News h₀ L h' ((D, tupObj #[.int (a.fdiv b) t1, .int (a.fmod b) t2]) :: news) → (∀ p ∈ news, p.1 < D) → Q (.ref D) { s with toks := s.toks + 1 + 1, heap := h' }) :
    wpAny (model prog w) A (call (.builtin "divmod") [.int a t, .int b u]) Q E s :=
  divmod_N F N hb (fun h' F' N' => h _ h' _ _ F' N' fun p hp => Heap.lt_size (N p hp).1) (.inl hp)
theorem div2n1n_spec {w : World} {x y n : Int} {tx ty tn : Tok} {news : List (Addr × Obj)}
  {p : Program} {loose : List Str} {mean : ExcName → Option Value} {mg mb : Str → Option Value}
    {dp un : Nat} {gd : Option (List Code)} {cn : Str} {cs : Scope} {a : Addr} {ccd : Value} {cl : List (Str × Addr)} {outer : List Env} {A₀ : Around} {base h₀ : Heap} {L : Addr} {m : Str → Option Value} {s : Shared} {Q E : Value → Shared → Prop}
    (B : Below A₀ base outer h₀) (F : Fr h₀ L s.heap m) (X : (Mine.hd.heap_39 w.params).In h₀)
    (N : News h₀ L s.heap news) (T : Top p loose mean mg mb h₀) (hk : cs.kind = .function) (hd : dp + 10 < recursionLimit) (hu : un + 50 < cLine)
    (hy : y ≠ 0) (hyb : Builtin.divisionGoesByPylong x y = false) (hdl : (Builtin.Int.intBits x : Int) - n ≤ 4000)
    (hret : ∀ D t1 t2 h' tk', Fr h₀ L h' m → News h₀ L h' ((D, tupObj #[.int (x.fdiv y) t1, .int (x.fmod y) t2]) :: news) → (∀ p ∈ news, p.1 < D) → Q (.ref D) { s with heap := h', toks := tk' }) :
    wpAny (model PySem.Challenge.rw_ti0020_01.row.prog w) (ktrTop dp un gd cn cs L a ccd cl outer) (call (.ref 21) [.int x tx, .int y ty, .int n tn]) Q E s := by
  (rename Frag.In _ _ => Xfill; revert Xfill; k_fill; intro Xfill)
  refine wpAny_call ?_
  k_dflt cell_enter
  (repeat' (first | (k_unfold; (try dsimp only)) | (k_end; wrow_close) | with_reducible (first | (k_here; (with_reducible show wpAny _ _ (call (Value.builtin "divmod") [Value.int _ _, Value.int _ _]) _ _ _); k_dflt (refine' divmod_L ?j1 ?j2 ?j3 ?j4 ?_; (case j1 => k_asm); (case j2 => k_asm); (case j3 => with_reducible assumption); (case j4 => with_reducible assumption)); intro _ _ _ _ _ _ _)) | (k_here; (with_reducible show wpAny _ _ (call (Value.builtin "divmod") [Value.int _ _, Value.int _ _]) _ _ _); k_dflt (refine' divmod_L ?j1 ?j2 ?j3 ?j4 ?_; (case j1 => k_asm); (case j2 => k_asm); (case j3 => with_reducible assumption); (case j4 => with_reducible assumption)); intro _ _ _ _ _ _ _) | walk1 | (dsimp only; first | with_reducible (first | (k_here; (with_reducible show wpAny _ _ (call (Value.builtin "divmod") [Value.int _ _, Value.int _ _]) _ _ _); k_dflt (refine' divmod_L ?j1 ?j2 ?j3 ?j4 ?_; (case j1 => k_asm); (case j2 => k_asm); (case j3 => with_reducible assumption); (case j4 => with_reducible assumption)); intro _ _ _ _ _ _ _)) | (k_here; (with_reducible show wpAny _ _ (call (Value.builtin "divmod") [Value.int _ _, Value.int _ _]) _ _ _); k_dflt (refine' divmod_L ?j1 ?j2 ?j3 ?j4 ?_; (case j1 => k_asm); (case j2 => k_asm); (case j3 => with_reducible assumption); (case j4 => with_reducible assumption)); intro _ _ _ _ _ _ _) | walk1) | (leave1; (try dsimp only)) | fail "no step"))
  exact hret _ _ _ _ _ (by k_asm) (by k_asm) (by with_reducible assumption)
end V1
theorem set_back_V1_z : True := by first | walk1 | trivial
-- Loop
section Loop
set_option maxRecDepth 100000
set_option maxHeartbeats 8000000
section
variable {prog : Program} {w : World} {A : Around} {E : Value → Shared → Prop} {s : Shared} {env : Env} {h₀ : Heap} {x : Str} {body : List Stmt} {Q : Flow → Shared → Prop}

/-- how a turn of a loop ends: left by return or break, or the word holds for the next turn (the iterator I is laid aside) -/
def TurnEnd (h₀ : Heap) (L I : Addr) (it : Obj) (J : (Str → Option Value) → List (Addr × Obj) → Prop) (s₁ : Shared) (s₂ : Shared) : Prop :=
  ∃ h' tk m' news', s₂ = { s₁ with heap := h', toks := tk } ∧ Fr h₀ L h' m' ∧ News h₀ L h' ((I, it) :: news') ∧ (∀ p ∈ news', p.1 ≠ I) ∧ J m' news'
def TurnPost (h₀ : Heap) (L I : Addr) (it : Obj) (J : (Str → Option Value) → List (Addr × Obj) → Prop) (s₁ : Shared) (Q : Flow → Shared → Prop) (f : Flow) (s₂ : Shared) : Prop :=
  match f with
  | .ret v => Q (.ret v) s₂
  | .brk => Q .next s₂
  | _ => TurnEnd h₀ L I it J s₁ s₂
theorem TurnEnd.intro {L I : Addr} {it : Obj} {J : (Str → Option Value) → List (Addr × Obj) → Prop} {s₁ : Shared} {h' : Heap} {tk : Nat} {m' : Str → Option Value} {news' : List (Addr × Obj)}
    (F : Fr h₀ L h' m') (N : News h₀ L h' ((I, it) :: news')) (hn : ∀ p ∈ news', p.1 ≠ I) (hj : J m' news') : TurnEnd h₀ L I it J s₁ { s₁ with heap := h', toks := tk } := ⟨h', tk, m', news', rfl, F, N, hn, hj⟩

theorem loop_inv {I : Addr} {rd : List (Addr × Obj)} {n : Nat} {P : Nat → Value → Prop} {St : Nat → Heap → Prop} {m : Str → Option Value} {news : List (Addr × Obj)}
    (W : Walks prog w A I (I :: rd.map (·.1)) [I] n P St) (hst : St 0 s.heap) (hIo : ∃ o, s.heap.get? I = some o)
    (hSt : ∀ i h, St i h → ∃ o, h.get? I = some o) (hI : h₀.get? I = none) (hIL : I ≠ env.locals)
    (hrd : ∀ p ∈ rd, p.1 ≠ env.locals ∧ p.1 ≠ I) (F : Fr h₀ env.locals s.heap m) (N : News h₀ env.locals s.heap news) (hoff : ∀ p ∈ news, p.1 ≠ I)
    (J : Nat → (Str → Option Value) → List (Addr × Obj) → Prop) (hJ0 : J 0 m news) (hJm : ∀ i m₁ news₁, J i m₁ news₁ → ∀ p ∈ rd, p ∈ news₁)
    (turn : ∀ i v m₁ news₁ h tk it, i < n → P i v → J i m₁ news₁ → (∀ p ∈ news₁, p.1 ≠ I) → Fr h₀ env.locals h (fun y => if y = x then some v else m₁ y) → News h₀ env.locals h ((I, it) :: news₁) →
      wpAny (model prog w) A (execs body env) (TurnPost h₀ env.locals I it (J (i + 1)) { s with heap := h, toks := tk } Q) E { s with heap := h, toks := tk })
    (done : ∀ m₁ news₁ h tk, J n m₁ news₁ → Fr h₀ env.locals h m₁ → News h₀ env.locals h news₁ → Q .next { s with heap := h, toks := tk }) :
    LoopAtV prog w A h₀ env x body Q E (.ref I) s := by
  refine ⟨I, _, _, n, P, St, m, news, J, rfl, W, ?_, ?_, ?_, hst, F, N, hJ0, ?_, ?_⟩
  · intro hm
    rcases List.mem_cons.mp hm with e | hm
    · exact hIL e.symm
    · obtain ⟨p, hp, e⟩ := List.mem_map.mp hm
      exact (hrd p hp).1 e
  · intro b hb
    rw [List.mem_singleton.mp hb]
    exact hI
  · intro p hp hm
    exact hoff p hp (List.mem_singleton.mp hm)
  · rintro i v m₁ news₁ s₁ own ⟨hh, tk, rfl⟩ hin hP hJ hnw hown hget hall hst' F₁ N₁
    obtain ⟨it, hit⟩ := hSt _ _ hst'
    have hmI := hall I (List.mem_cons_self ..) hI _ hit
    have hne : ∀ p ∈ news₁, p.1 ≠ I := fun p hp e => hnw p hp (List.mem_singleton.mpr e)
    have N₂ : News h₀ env.locals hh ((I, it) :: news₁) := fun p hp => by
      rcases List.mem_cons.mp hp with rfl | hp
      · exact N₁ _ (List.mem_append_left _ hmI)
      · exact N₁ _ (List.mem_append_right _ hp)
    have hsub : ∀ p ∈ own, p = (I, it) ∨ p ∈ rd := fun p hp => by
      have h2 : hh.get? p.1 = some p.2 := hget p hp
      rcases List.mem_cons.mp (hown p hp) with h1 | h1
      · rw [h1, hit] at h2
        exact .inl (Prod.ext h1 (Option.some.inj h2).symm)
      · obtain ⟨q, hq, e⟩ := List.mem_map.mp h1
        have h3 := (N₂ q (.tail _ (hJm _ _ _ hJ q hq))).1
        rw [e, h2] at h3
        refine .inr ?_
        rw [show p = q from Prod.ext e.symm (Option.some.inj h3)]
        exact hq
    refine wpAny_mono (turn i v m₁ news₁ hh tk it hin hP hJ hne F₁ N₂) (fun f s₂ p => ?_) fun _ _ e => e
    have fin : TurnEnd h₀ env.locals I it (J (i + 1)) { s with heap := hh, toks := tk } s₂ → LoopStepU h₀ env.locals [I] own (J (i + 1)) { s with heap := hh, toks := tk } .next s₂ := by
      rintro ⟨h', tk', m', news', e, F', N', hn, hj⟩
      refine ⟨rfl, h', tk', m', news', e, F', fun p hp => ?_, fun p hp hm => hn p hp (List.mem_singleton.mp hm), hj⟩
      rcases List.mem_append.mp hp with hp | hp
      · rcases hsub p hp with rfl | hp
        · exact N' _ (List.mem_cons_self ..)
        · exact N' _ (.tail _ (hJm _ _ _ hj p hp))
      · exact N' _ (.tail _ hp)
    cases f with
    | ret v => exact .ret p
    | brk => exact .brk p
    | next => exact .next (fin p)
    | cont => exact .cont (fin p)
  · rintro h' tk m' news' F' N' _ hj
    exact done m' news' h' tk hj F' N'

/-- for x in reversed(l), by a word that holds between the turns -/
theorem iter_revInv {ax I : Addr} {vs : List Value} {nn : Nat} {m : Str → Option Value} {news : List (Addr × Obj)}
    (hh : A.handled = none) (F : Fr h₀ env.locals s.heap m) (N : News h₀ env.locals s.heap ((I, revObj ax ((vs.length : Int) - 1)) :: news)) (hoff : ∀ p ∈ news, p.1 ≠ I) (hm : (ax, listOf vs.toArray nn) ∈ news)
    (J : Nat → (Str → Option Value) → List (Addr × Obj) → Prop) (hJ0 : J 0 m news) (hJm : ∀ i m₁ news₁, J i m₁ news₁ → (ax, listOf vs.toArray nn) ∈ news₁)
    (turn : ∀ i v m₁ news₁ h tk it, i < vs.length → vs[vs.length - 1 - i]? = some v → J i m₁ news₁ → (∀ p ∈ news₁, p.1 ≠ I) → Fr h₀ env.locals h (fun y => if y = x then some v else m₁ y) → News h₀ env.locals h ((I, it) :: news₁) →
      wpAny (model prog w) A (execs body env) (TurnPost h₀ env.locals I it (J (i + 1)) { s with heap := h, toks := tk } Q) E { s with heap := h, toks := tk })
    (done : ∀ m₁ news₁ h tk, J vs.length m₁ news₁ → Fr h₀ env.locals h m₁ → News h₀ env.locals h news₁ → Q .next { s with heap := h, toks := tk }) :
    wpAny (model prog w) A (pyIter (.ref I)) (fun it s₂ => LoopAtV prog w A h₀ env x body Q E it s₂) E s := by
  have hIx := N _ (List.mem_cons_self ..)
  have hax := N _ (List.mem_cons_of_mem _ hm)
  have hl : s.heap.IsList ax vs.toArray := PySem.IsL.isList (n := nn) hax.1
  have hne : ax ≠ I := hoff _ hm
  have hit : s.heap.IsRevIter I ax ((vs.length : Int) - 1) := ⟨_, hIx.1, rfl, rfl⟩
  refine wpAny_pyIter_revIter hit ?_
  have W := Walks.listRev (prog := prog) (w := w) hh I ax hne vs.toArray
  have hlen : vs.toArray.size = vs.length := by simp
  rw [hlen] at W
  refine loop_inv (rd := [(ax, listOf vs.toArray nn)]) W ⟨Nat.zero_le _, ?_, hl⟩ ⟨_, hIx.1⟩ (fun i h st => let ⟨o, ho, _⟩ := st.2.1; ⟨o, ho⟩) hIx.2.2 hIx.2.1 (fun p hp => by rw [List.mem_singleton.mp hp]; exact ⟨hax.2.1, hne⟩) F (fun p hp => N p (.tail _ hp)) hoff J hJ0
    (fun i m₁ news₁ hj p hp => by rw [List.mem_singleton.mp hp]; exact hJm i m₁ news₁ hj) (fun i v m₁ news₁ h tk it hi hv => turn i v m₁ news₁ h tk it hi (by simpa using hv)) done
  have e : (vs.length : Int) - 1 - ((0 : Nat) : Int) = (vs.length : Int) - 1 := by omega
  rw [e]
  exact hit

/-- for x in l, l a list of the ledger's -/
theorem iter_listInv {ax : Addr} {vs : List Value} {nn : Nat} {m : Str → Option Value} {news : List (Addr × Obj)}
    (hh : A.handled = none) (F : Fr h₀ env.locals s.heap m) (N : News h₀ env.locals s.heap news) (hm : (ax, listOf vs.toArray nn) ∈ news)
    (J : Nat → (Str → Option Value) → List (Addr × Obj) → Prop) (hJ0 : J 0 m news) (hJm : ∀ i m₁ news₁, J i m₁ news₁ → (ax, listOf vs.toArray nn) ∈ news₁)
    (turn : ∀ I i v m₁ news₁ h tk it, (∀ p ∈ news, p.1 < I) → i < vs.length → vs[i]? = some v → J i m₁ news₁ → (∀ p ∈ news₁, p.1 ≠ I) → Fr h₀ env.locals h (fun y => if y = x then some v else m₁ y) → News h₀ env.locals h ((I, it) :: news₁) →
      wpAny (model prog w) A (execs body env) (TurnPost h₀ env.locals I it (J (i + 1)) { s with heap := h, toks := tk } Q) E { s with heap := h, toks := tk })
    (done : ∀ m₁ news₁ h tk, J vs.length m₁ news₁ → Fr h₀ env.locals h m₁ → News h₀ env.locals h news₁ → Q .next { s with heap := h, toks := tk }) :
    wpAny (model prog w) A (pyIter (.ref ax)) (fun it s₂ => LoopAtV prog w A h₀ env x body Q E it s₂) E s := by
  have hax := N _ hm
  have hl : s.heap.IsList ax vs.toArray := PySem.IsL.isList (n := nn) hax.1
  have hlt : ax < s.heap.objs.size := Heap.lt_size hax.1
  have hne : ax ≠ s.heap.objs.size := Nat.ne_of_lt hlt
  refine wpAny_pyIter_list hl ?_
  have W := Walks.list (prog := prog) (w := w) hh s.heap.objs.size ax hne vs.toArray
  have hlen : vs.toArray.size = vs.length := by simp
  rw [hlen] at W
  have hfr : ∀ p ∈ news, p.1 < s.heap.objs.size := fun p hp => Heap.lt_size (N p hp).1
  have hnone : h₀.get? s.heap.objs.size = none := Heap.get?_none_of_le (Nat.le_trans F.above (Nat.le_of_lt F.ns.lt))
  refine loop_inv (s := { s with heap := s.heap.push _ }) (rd := [(ax, listOf vs.toArray nn)]) W ⟨⟨_, Heap.get?_push_size _ rfl, rfl, rfl⟩, hl.at fun o e => Heap.get?_push_of_some _ e⟩ ⟨_, Heap.get?_push_size _ rfl⟩ (fun i h st => let ⟨o, ho, _⟩ := st.1; ⟨o, ho⟩) hnone (Nat.ne_of_gt F.ns.lt)
    (fun p hp => by rw [List.mem_singleton.mp hp]; exact ⟨hax.2.1, hne⟩) (F.push _) (fun p hp => ⟨Heap.get?_push_of_some _ (N p hp).1, (N p hp).2⟩) (fun p hp => Nat.ne_of_lt (hfr p hp)) J hJ0
    (fun i m₁ news₁ hj p hp => by rw [List.mem_singleton.mp hp]; exact hJm i m₁ news₁ hj) (fun i v m₁ news₁ h tk it hi hv => turn _ i v m₁ news₁ h tk it hfr hi (by simpa using hv)) done
end
end Loop
-- Plain3
section Plain3
/-- figures, the highest first -/
def hval (n : Nat) (l : List Int) : Int := l.foldl (fun x d => x * 2 ^ n + d) 0
theorem hval_snoc (n : Nat) (l : List Int) (d : Int) : hval n (l ++ [d]) = hval n l * 2 ^ n + d := by simp [hval]
theorem dval_reverse (n : Nat) (l : List Int) : dval n l.reverse = hval n l := by
  suffices h : ∀ r : List Int, dval n r = hval n r.reverse by rw [h, List.reverse_reverse]
  intro r
  induction r with
  | nil => rfl
  | cons d r ih => rw [List.reverse_cons, hval_snoc, ← ih, dval, Int.add_comm]
theorem digs_get (n : Nat) : ∀ (k j x : Nat), j < k → (digs n k x)[j]? = some ((x / 2 ^ (n * j) % 2 ^ n : Nat) : Int)
  | 0, _, _, h => absurd h (Nat.not_lt_zero _)
  | k + 1, 0, x, _ => by simp [digs]
  | k + 1, j + 1, x, h => by
    rw [digs, List.getElem?_cons_succ, digs_get n k j _ (Nat.lt_of_succ_lt_succ h), Nat.div_div_eq_div_mul, ← Nat.pow_add, Nat.mul_succ, Nat.add_comm]
theorem lt_of_intBits {b : Int} (h : 0 ≤ b) : b.toNat < 2 ^ Builtin.Int.intBits b := by
  obtain ⟨B, rfl⟩ := Int.eq_ofNat_of_zero_le h
  exact lt_intBits B
theorem noPyl {x b : Int} (h : Builtin.Int.intBits b ≤ 8000) : Builtin.divisionGoesByPylong x b = false := by
  refine PyProof.noPylong_of_log2 ?_
  unfold Builtin.Int.intBits at h
  split at h
  · rename_i h0
    have : b = 0 := by simpa using h0
    subst this; decide
  · omega
/-- one step of the long division -/
theorem longdiv (X M B : Nat) (hM : 0 < M) (hB : 0 < B) :
    (X / M % B * M + X % M) % B = X % B ∧ X / B = X / M / B * M + (X / M % B * M + X % M) / B ∧ (X / M % B * M + X % M) / B < M := by
  have e1 := Nat.div_add_mod X M
  have e2 := Nat.div_add_mod (X / M) B
  have hx : X = B * (X / M / B * M) + (X / M % B * M + X % M) := by
    have : X = M * (B * (X / M / B) + X / M % B) + X % M := by rw [e2]; exact e1.symm
    calc X = M * (B * (X / M / B) + X / M % B) + X % M := this
      _ = B * (X / M / B * M) + (X / M % B * M + X % M) := by
        rw [Nat.mul_add]
        have a1 : M * (B * (X / M / B)) = B * (X / M / B * M) := by rw [Nat.mul_comm M, Nat.mul_assoc]
        rw [a1, Nat.mul_comm M, Nat.add_assoc]
  refine ⟨?_, ?_, ?_⟩
  · conv => rhs; rw [hx]
    rw [Nat.mul_add_mod]
  · conv => lhs; rw [hx]
    rw [Nat.mul_add_div hB]
  · refine Nat.div_lt_of_lt_mul ?_
    have h1 : X / M % B + 1 ≤ B := Nat.mod_lt _ hB
    have h2 := Nat.mod_lt X hM
    have h3 : (X / M % B + 1) * M ≤ B * M := Nat.mul_le_mul_right _ h1
    rw [Nat.add_mul, Nat.one_mul] at h3
    omega
theorem fdiv_nat (a b : Nat) : ((a : Nat) : Int).fdiv (b : Int) = ((a / b : Nat) : Int) := by
  rw [Int.fdiv_eq_ediv_of_nonneg _ (Int.natCast_nonneg _)]; rfl
theorem fmod_nat (a b : Nat) : ((a : Nat) : Int).fmod (b : Int) = ((a % b : Nat) : Int) := by
  rw [Int.fmod_eq_emod_of_nonneg _ (Int.natCast_nonneg _)]; rfl

/-- a turn of _divmod_pos: A the dividend, B the divisor, N its bits, k the figures, i the turns taken -/
theorem turn_div {A B N k i : Nat} (hB : 0 < B) (hBN : B < 2 ^ N) (hi : i < k) {rv dv : Int} (hrv : rv = ((A / 2 ^ (N * (k - i)) % B : Nat) : Int)) (hdv : dv = ((A / 2 ^ (N * (k - 1 - i)) % 2 ^ N : Nat) : Int)) :
    (rv * 2 ^ N + dv).fmod B = ((A / 2 ^ (N * (k - (i + 1))) % B : Nat) : Int) ∧
    ((A / 2 ^ (N * (k - (i + 1))) / B : Nat) : Int) = ((A / 2 ^ (N * (k - i)) / B : Nat) : Int) * 2 ^ N + (rv * 2 ^ N + dv).fdiv B ∧
    0 ≤ (rv * 2 ^ N + dv).fdiv B ∧ (rv * 2 ^ N + dv).fdiv B < 2 ^ N := by
  subst hrv hdv
  have ek : k - 1 - i = k - (i + 1) := sub_flip
  have eX : A / 2 ^ (N * (k - i)) = A / 2 ^ (N * (k - (i + 1))) / 2 ^ N := by
    rw [Nat.div_div_eq_div_mul, ← Nat.pow_add]
    congr 2
    rw [sub_one_up hi, Nat.mul_succ]
  rw [ek, eX]
  generalize A / 2 ^ (N * (k - (i + 1))) = X
  obtain ⟨h1, h2, h3⟩ := longdiv X (2 ^ N) B (Nat.two_pow_pos _) hB
  have e : ((X / 2 ^ N % B : Nat) : Int) * 2 ^ N + ((X % 2 ^ N : Nat) : Int) = ((X / 2 ^ N % B * 2 ^ N + X % 2 ^ N : Nat) : Int) := by norm_cast
  rw [e, fmod_nat, fdiv_nat, h1]
  refine ⟨rfl, ?_, Int.natCast_nonneg _, ?_⟩
  · conv => lhs; rw [h2]
    norm_cast
  · exact_mod_cast h3
theorem turn_bits {A B N k i c : Nat} (hB : 0 < B) (hBN : B < 2 ^ N) (hi : i < k) (hdiv : LtPow B c ∨ LtPow A (N + c)) {rv dv : Int} (hrv : rv = ((A / 2 ^ (N * (k - i)) % B : Nat) : Int)) (hdv : dv = ((A / 2 ^ (N * (k - 1 - i)) % 2 ^ N : Nat) : Int)) :
    Builtin.Int.intBits rv ≤ N ∧ (Builtin.Int.intBits (rv * 2 ^ N + dv) : Int) - (N : Int) ≤ c := by
  have hlt : A / 2 ^ (N * (k - i)) % B < 2 ^ c := by
    rcases hdiv with h | h
    · exact Nat.lt_trans (Nat.mod_lt _ hB) h
    · refine Nat.lt_of_le_of_lt (Nat.mod_le _ _) ?_
      refine Nat.div_lt_of_lt_mul (Nat.lt_of_lt_of_le h ?_)
      rw [← Nat.pow_add]
      refine Nat.pow_le_pow_right (by decide) (Nat.add_le_add_right ?_ _)
      exact Nat.le_mul_of_pos_right _ (by omega)
  subst hrv hdv
  constructor
  · refine intBits_le ?_
    rw [Int.natAbs_natCast]
    exact Nat.lt_trans (Nat.mod_lt _ hB) hBN
  · have hb : Builtin.Int.intBits (((A / 2 ^ (N * (k - i)) % B : Nat) : Int) * 2 ^ N + ((A / 2 ^ (N * (k - 1 - i)) % 2 ^ N : Nat) : Int)) ≤ c + N := by
      refine intBits_le ?_
      have e : ((A / 2 ^ (N * (k - i)) % B : Nat) : Int) * 2 ^ N + ((A / 2 ^ (N * (k - 1 - i)) % 2 ^ N : Nat) : Int) = ((A / 2 ^ (N * (k - i)) % B * 2 ^ N + A / 2 ^ (N * (k - 1 - i)) % 2 ^ N : Nat) : Int) := by norm_cast
      rw [e, Int.natAbs_natCast, Nat.pow_add]
      have h2 := Nat.mod_lt (A / 2 ^ (N * (k - 1 - i))) (Nat.two_pow_pos N)
      have h3 := Nat.mul_le_mul_right (2 ^ N) hlt
      rw [Nat.succ_mul] at h3
      omega
    omega
end Plain3
-- V2
local macro_rules | `(tactic| wtm_at "r0") => `(tactic| first | exact LedOf.base (by with_reducible assumption) | exact LedOf.nil | (refine' LedOf.cons ?hh ?xx; (case hh => omega); (case xx => wtm_at "r0")))
section V2
set_option maxRecDepth 100000
set_option maxHeartbeats 8000000
theorem set_back_V2 : True := by
  w_top off
  first | walk1 | trivial
theorem i2d_use {w : World} {av n : Int} {ta tn : Tok} {p : Program} {loose : List Str} {mean : ExcName → Option Value} {mg mb : Str → Option Value} {dp un : Nat} {gd : Option (List Code)} {cn : Str} {cs : Scope} {a : Addr} {ccd : Value} {cl : List (Str × Addr)} {outer : List Env} {A₀ : Around} {base h₀ : Heap} {L : Addr} {m : Str → Option Value} {s : Shared} {Q E : Value → Shared → Prop}
    {g : List (Addr × Obj) → List (Addr × Obj)} {rest led : List (Addr × Obj)}
    (hR : TabsL rest) (B : Below A₀ base outer h₀) (F : Fr h₀ L s.heap m) (X : (Mine.hd.heap_39 w.params).In h₀) (C1 : CodeHd base 41 37) (C2 : CodeHd base 34 30)
    (N : News h₀ L s.heap led) (hL : LedOf rest led g) (T : Top p loose mean mg mb h₀) (hk : cs.kind = .function) (hd : dp + 60 < recursionLimit) (hu : un + 600 < cLine)
    (ha0 : 0 ≤ av) (hn0 : 1 ≤ n) (hn1 : n ≤ 10000) (hfit : LtPow av.toNat (n.toNat * 50))
    (hret : ∀ D vs' h' tk' rest', IntsAre vs' (digs n.toNat (ndig n.toNat av.toNat) av.toNat) → TabsL rest' → Fr h₀ L h' m → News h₀ L h' ((D, listOf vs'.toArray 0) :: g rest') → (37 : Nat) < D → (∀ p ∈ g rest', p.1 ≠ D) → Q (.ref D) { s with heap := h', toks := tk' }) :
    wpAny (model PySem.Challenge.rw_ti0020_01.row.prog w) (ktrTop dp un gd cn cs L a ccd cl outer) (call (.ref 35) [.int av ta, .int n tn]) Q E s := by
  obtain ⟨rfl, hG⟩ := hL.eq
  exact i2d_spec w av n ta tn p loose mean mg mb dp un gd cn cs a ccd cl outer A₀ base h₀ L m s Q E g rest B F X C1 C2 hG hR N T hk hd hu ha0 hn0 hn1 hfit hret
local macro_rules | `(tactic| k_all) => `(tactic| with_reducible assumption)
theorem d2i_use {w : World} {l : Addr} {vs : List Value} {ds : List Int} {nn : Nat} {n : Int} {tn : Tok}
  {p : Program} {loose : List Str} {mean : ExcName → Option Value} {mg mb : Str → Option Value}
    {dp un : Nat} {gd : Option (List Code)} {cn : Str} {cs : Scope} {a : Addr} {ccd : Value} {cl : List (Str × Addr)} {outer : List Env} {A₀ : Around} {base h₀ : Heap} {L : Addr} {m : Str → Option Value} {s : Shared} {Q E : Value → Shared → Prop}
    {g : List (Addr × Obj) → List (Addr × Obj)} {rest led : List (Addr × Obj)}
    (hR : TabsL rest) (B : Below A₀ base outer h₀) (F : Fr h₀ L s.heap m) (X : (Mine.hd.heap_39 w.params).In h₀) (C1 : CodeHd base 41 37) (C2 : CodeHd base 34 30)
    (N : News h₀ L s.heap led) (hL : LedOf rest led g) (hl : ∀ r, (l, listOf vs.toArray nn) ∈ g r) (T : Top p loose mean mg mb h₀) (hk : cs.kind = .function) (hd : dp + 60 < recursionLimit) (hu : un + 600 < cLine)
    (hi : IntsAre vs ds) (hlen : ds.length ≤ 50) (hn0 : 0 ≤ n) (hn1 : n ≤ 10000) (hfig : Figs n.toNat ds)
    (hret : ∀ t h' tk' rest', TabsL rest' → Fr h₀ L h' m → News h₀ L h' (g rest') → Q (.int (dval n.toNat ds) t) { s with heap := h', toks := tk' }) :
    wpAny (model PySem.Challenge.rw_ti0020_01.row.prog w) (ktrTop dp un gd cn cs L a ccd cl outer) (call (.ref 42) [.ref l, .int n tn]) Q E s := by
  obtain ⟨rfl, hG⟩ := hL.eq
  exact d2i_spec w l vs ds nn n tn hi p loose mean mg mb dp un gd cn cs a ccd cl outer A₀ base h₀ L m s Q E g rest B F X C1 C2 hG hR N hl T hk hd hu hlen hn0 hn1 hfig hret
theorem ints_snoc {x : Int} {t : Tok} : ∀ {vs : List Value} {ns : List Int}, IntsAre vs ns → IntsAre (vs ++ [.int x t]) (ns ++ [x])
  | _, _, .nil => .cons x t .nil
  | _, _, .cons i u h => .cons i u (ints_snoc h)
theorem ints_rev : ∀ {vs : List Value} {ns : List Int}, IntsAre vs ns → IntsAre vs.reverse ns.reverse
  | _, _, .nil => .nil
  | _, _, .cons i u h => by rw [List.reverse_cons, List.reverse_cons]; exact ints_snoc (ints_rev h)
theorem allNe_of {d : Addr} : ∀ {l : List (Addr × Obj)}, AllLt d l → ∀ p ∈ l, p.1 ≠ d
  | [], _, _, h => nomatch h
  | q :: r, h, p, hp => by
    rcases List.mem_cons.mp hp with rfl | hp
    · exact Nat.ne_of_lt h.1
    · exact allNe_of h.2 p hp
theorem size_ok {n : Nat} (h : n ≤ 1000) : n ≤ sizeLine := Nat.le_trans h (by decide +kernel)
theorem intBits_pos {b : Int} (h : 0 < b) : (1 : Int) ≤ (Builtin.Int.intBits b : Int) := by
  unfold Builtin.Int.intBits
  rw [if_neg (by simp; omega)]
  omega
theorem pin4 {m : Str → Option Value} {x1 x2 x3 x4 : Str} {v1 v2 v3 v4 : Value} (h1 : m x1 = some v1) (h2 : m x2 = some v2) (h3 : m x3 = some v3) (h4 : m x4 = some v4) :
    m = fun y => if y = x1 then some v1 else if y = x2 then some v2 else if y = x3 then some v3 else if y = x4 then some v4 else m y := by
  funext y
  split
  · rename_i h; subst h; exact h1
  split
  · rename_i h; subst h; exact h2
  split
  · rename_i h; subst h; exact h3
  split
  · rename_i h; subst h; exact h4
  rfl
theorem divmod_pos_spec (w : World) (av bv : Int) (ta tb : Tok)
  (p : Program) (loose : List Str) (mean : ExcName → Option Value) (mg mb : Str → Option Value)
    (dp un : Nat) (gd : Option (List Code)) (cn : Str) (cs : Scope) (a : Addr) (ccd : Value) (cl : List (Str × Addr)) (outer : List Env) (A₀ : Around) (base h₀ : Heap) (L : Addr) (m : Str → Option Value) (s : Shared) (Q E : Value → Shared → Prop)
    (g : List (Addr × Obj) → List (Addr × Obj)) (rest : List (Addr × Obj))
    (B : Below A₀ base outer h₀) (F : Fr h₀ L s.heap m) (X : (Mine.hd.heap_39 w.params).In h₀) (C1 : CodeHd base 41 37) (C2 : CodeHd base 34 30)
    (hG : Led g) (hR : TabsL rest)
    (N : News h₀ L s.heap (g rest)) (T : Top p loose mean mg mb h₀) (hk : cs.kind = .function) (hd : dp + 80 < recursionLimit) (hu : un + 700 < cLine)
    (ha0 : 0 ≤ av) (hb0 : 0 < bv) (hb1 : Builtin.Int.intBits bv ≤ 8000) (hfit : LtPow av.toNat (Builtin.Int.intBits bv * 50))
    (hdiv : LtPow bv.toNat 4000 ∨ LtPow av.toNat (Builtin.Int.intBits bv + 4000))
    (hret : ∀ D t1 t2 h' tk' rest', TabsL rest' → Fr h₀ L h' m → News h₀ L h' ((D, tupObj #[.int (av / bv) t1, .int (av % bv) t2]) :: g rest') → Q (.ref D) { s with heap := h', toks := tk' }) :
    wpAny (model PySem.Challenge.rw_ti0020_01.row.prog w) (ktrTop dp un gd cn cs L a ccd cl outer) (call (.ref 49) [.int av ta, .int bv tb]) Q E s := by
  (rename Frag.In _ _ => Xfill; revert Xfill; k_fill; intro Xfill)
  refine wpAny_call ?_
  k_dflt cell_enter
  rename_i g' L' h' FG' F' N' B' X' T'
  clear N FG'
  replace F' : Fr g' L' h' (fun z => ([(Str.ofString "b", Value.int bv tb), (Str.ofString "a", Value.int av ta)] : List (Str × Value)).lookup z) := F'
  have hn1 : (1 : Int) ≤ (Builtin.Int.intBits bv : Int) := intBits_pos hb0
  have hfit' : LtPow av.toNat ((Builtin.Int.intBits bv : Int).toNat * 50) := hfit
  (repeat' (first | (k_unfold; (try dsimp only)) | (k_end; wrow_close) | with_reducible (first | (k_here; (with_reducible show wpAny _ _ (call (Value.ref 35) _) _ _ _); k_dflt (refine' i2d_use ?jR ?jB ?jF ?jX ?jC1 ?jC2 ?jN ?jG ?jT ?jk ?jd ?ju ?p1 ?p2 ?p3 ?p4 ?_; (case jR => with_reducible assumption); (case jB => k_asm); (case jF => k_asm); (case jX => k_asm); (case jC1 => with_reducible assumption); (case jC2 => with_reducible assumption); (case jN => k_asm); (case jG => wtm_at "r0"); (case jT => k_asm); (case jk => exact rfl); (case jd => ((try dsimp only [ktrTop]); omega)); (case ju => ((try dsimp only [ktrTop]); omega)); (case p1 => first | with_reducible assumption | omega); (case p2 => first | with_reducible assumption | omega); (case p3 => first | with_reducible assumption | omega); (case p4 => with_reducible assumption); k_whole); intro _ _ _ _ _ _ _ _ _ _ _; (try dsimp only); (try k_fold))) | (k_here; (with_reducible show wpAny _ _ (call (Value.ref 35) _) _ _ _); k_dflt (refine' i2d_use ?jR ?jB ?jF ?jX ?jC1 ?jC2 ?jN ?jG ?jT ?jk ?jd ?ju ?p1 ?p2 ?p3 ?p4 ?_; (case jR => with_reducible assumption); (case jB => k_asm); (case jF => k_asm); (case jX => k_asm); (case jC1 => with_reducible assumption); (case jC2 => with_reducible assumption); (case jN => k_asm); (case jG => wtm_at "r0"); (case jT => k_asm); (case jk => exact rfl); (case jd => ((try dsimp only [ktrTop]); omega)); (case ju => ((try dsimp only [ktrTop]); omega)); (case p1 => first | with_reducible assumption | omega); (case p2 => first | with_reducible assumption | omega); (case p3 => first | with_reducible assumption | omega); (case p4 => with_reducible assumption); k_whole); intro _ _ _ _ _ _ _ _ _ _ _; (try dsimp only); (try k_fold)) | walk1 | (dsimp only; first | with_reducible (first | (k_here; (with_reducible show wpAny _ _ (call (Value.ref 35) _) _ _ _); k_dflt (refine' i2d_use ?jR ?jB ?jF ?jX ?jC1 ?jC2 ?jN ?jG ?jT ?jk ?jd ?ju ?p1 ?p2 ?p3 ?p4 ?_; (case jR => with_reducible assumption); (case jB => k_asm); (case jF => k_asm); (case jX => k_asm); (case jC1 => with_reducible assumption); (case jC2 => with_reducible assumption); (case jN => k_asm); (case jG => wtm_at "r0"); (case jT => k_asm); (case jk => exact rfl); (case jd => ((try dsimp only [ktrTop]); omega)); (case ju => ((try dsimp only [ktrTop]); omega)); (case p1 => first | with_reducible assumption | omega); (case p2 => first | with_reducible assumption | omega); (case p3 => first | with_reducible assumption | omega); (case p4 => with_reducible assumption); k_whole); intro _ _ _ _ _ _ _ _ _ _ _; (try dsimp only); (try k_fold))) | (k_here; (with_reducible show wpAny _ _ (call (Value.ref 35) _) _ _ _); k_dflt (refine' i2d_use ?jR ?jB ?jF ?jX ?jC1 ?jC2 ?jN ?jG ?jT ?jk ?jd ?ju ?p1 ?p2 ?p3 ?p4 ?_; (case jR => with_reducible assumption); (case jB => k_asm); (case jF => k_asm); (case jX => k_asm); (case jC1 => with_reducible assumption); (case jC2 => with_reducible assumption); (case jN => k_asm); (case jG => wtm_at "r0"); (case jT => k_asm); (case jk => exact rfl); (case jd => ((try dsimp only [ktrTop]); omega)); (case ju => ((try dsimp only [ktrTop]); omega)); (case p1 => first | with_reducible assumption | omega); (case p2 => first | with_reducible assumption | omega); (case p3 => first | with_reducible assumption | omega); (case p4 => with_reducible assumption); k_whole); intro _ _ _ _ _ _ _ _ _ _ _; (try dsimp only); (try k_fold)) | walk1) | (leave1; (try dsimp only)) | fail "no step"))
  rename_i _ _ D9 vs9 _ _ rest9 hi9 hR9 hD9 hne9 _ _ _ l _ ll _ I _ F2 N2 lI
  obtain ⟨gr, egr⟩ : ∃ gr, gr = g rest9 := ⟨_, rfl⟩
  rw [← egr] at ll lI N2 hne9
  have hlD : ∀ p ∈ (D9, listOf vs9.toArray 0) :: gr, p.1 ≠ l := allNe_of (show AllLt l ((D9, listOf vs9.toArray 0) :: gr) from ll)
  have hlI : ∀ p ∈ (l, listOf #[] 0) :: (D9, listOf vs9.toArray 0) :: gr, p.1 ≠ I := allNe_of (show AllLt I ((l, listOf #[] 0) :: (D9, listOf vs9.toArray 0) :: gr) from lI)
  have hk9 : vs9.length = ndig (Builtin.Int.intBits bv) av.toNat := by rw [hi9.length, digs_length]; rfl
  obtain ⟨Bn, rfl⟩ := Int.eq_ofNat_of_zero_le (Int.le_of_lt hb0)
  have hBn0 : 0 < Bn := by omega
  have hBN : Bn < 2 ^ Builtin.Int.intBits (Bn : Int) := lt_intBits Bn
  have hdiv' : LtPow Bn 4000 ∨ LtPow av.toNat (Builtin.Int.intBits (Bn : Int) + 4000) := hdiv
  have hk50 : vs9.length ≤ 50 := by rw [hk9]; exact ndig_le (by omega) hfit
  obtain ⟨N0, hN0e⟩ : ∃ N0, N0 = Builtin.Int.intBits (Bn : Int) := ⟨_, rfl⟩
  have hz0 : av.toNat / 2 ^ (Builtin.Int.intBits (Bn : Int) * (vs9.length - 0)) = 0 := by
    rw [Nat.sub_zero, hk9]
    exact Nat.div_eq_of_lt (lt_ndig (by omega))
  refine' iter_revInv (ax := D9) (vs := vs9) (nn := 0) rfl F2 N2 hlI (.tail _ (.head _)) (fun i m₁ led => ∃ (rv : Int) (tr t1 t2 : Tok) (vq : List Value) (qs : List Int) (nq : Nat), i ≤ vs9.length ∧ m₁ (Str.ofString "r") = some (.int rv tr) ∧ m₁ (Str.ofString "b") = some (.int (Bn : Int) t1) ∧ m₁ (Str.ofString "n") = some (.int (Builtin.Int.intBits (Bn : Int)) t2) ∧ m₁ (Str.ofString "q_digits") = some (.ref l) ∧
     led = (l, listOf vq.toArray nq) :: (D9, listOf vs9.toArray 0) :: gr ∧ IntsAre vq qs ∧ qs.length = i ∧ Figs (Builtin.Int.intBits (Bn : Int)) qs ∧ rv = ((av.toNat / 2 ^ (Builtin.Int.intBits (Bn : Int) * (vs9.length - i)) % Bn : Nat) : Int) ∧ hval (Builtin.Int.intBits (Bn : Int)) qs = ((av.toNat / 2 ^ (Builtin.Int.intBits (Bn : Int) * (vs9.length - i)) / Bn : Nat) : Int)) ?_ ?_ ?_ ?_
  · refine ⟨0, _, tb, _, [], [], 0, Nat.zero_le _, rfl, rfl, rfl, rfl, rfl, .nil, rfl, fun _ h => (nomatch h), ?_, ?_⟩
    · rw [hz0]; simp
    · rw [hz0]; simp [hval]
  · rintro i m₁ led ⟨rv, tr, t1, t2, vq, qs, nq, _, _, _, _, _, rfl, _⟩
    exact .tail _ (.head _)
  · rintro i v m₁ led h tk it hi hv ⟨rv, tr, t1, t2, vq, qs, nq, hik, hm1, hm2, hm3, hm4, rfl, hvq, hql, hqf, hrv, hhv⟩ hneI Ft Nt
    rw [pin4 hm1 hm2 hm3 hm4] at Ft
    change Fr g' L' h _ at Ft
    change News g' L' h _ at Nt
    dsimp only at Ft
    obtain ⟨dv, td, rfl, hdv⟩ : ∃ (dv : Int) (td : Tok), v = .int dv td ∧ dv = ((av.toNat / 2 ^ (Builtin.Int.intBits (Bn : Int) * (vs9.length - 1 - i)) % 2 ^ Builtin.Int.intBits (Bn : Int) : Nat) : Int) := by
      have hg := digs_get (Builtin.Int.intBits (Bn : Int)) (ndig (Builtin.Int.intBits (Bn : Int)) av.toNat) (vs9.length - 1 - i) av.toNat (by omega)
      obtain ⟨t, ht⟩ := hi9.get (vs9.length - 1 - i) _ hg
      rw [hv] at ht
      exact ⟨_, t, Option.some.inj ht, rfl⟩
    obtain ⟨hb1', hdl'⟩ := turn_bits hBn0 hBN hi hdiv' hrv hdv
    obtain ⟨hst1, hst2, hst3, hst4⟩ := turn_div hBn0 hBN hi hrv hdv
    have hN0 : 0 ≤ (Builtin.Int.intBits (Bn : Int) : Int) := Int.natCast_nonneg _
    have hsh : (Builtin.Int.intBits rv : Int) + (Builtin.Int.intBits (Bn : Int) : Int) ≤ 2 ^ 27 := by
      have : (2 : Int) ^ 27 = 134217728 := by decide
      omega
    have hbne : (Bn : Int) ≠ 0 := by omega
    have hpyl : Builtin.divisionGoesByPylong (rv * 2 ^ (Builtin.Int.intBits (Bn : Int) : Int).toNat + dv) Bn = false := noPyl hb1
    have hdl : (Builtin.Int.intBits (rv * 2 ^ (Builtin.Int.intBits (Bn : Int) : Int).toNat + dv) : Int) - (Builtin.Int.intBits (Bn : Int) : Int) ≤ 4000 := hdl'
    have hszq : vq.toArray.size ≤ sizeLine := by rw [List.size_toArray, hvq.length, hql]; exact size_ok (by omega)
    have hneI2 := hneI
    clear hm1 hm2 hm3 hm4 F2 N2 hrv hdv hv hret hb1' hdl' hdiv hdiv'
    (repeat' (first | (k_unfold; (try dsimp only)) | (k_end; wrow_close) | with_reducible (first | ((with_reducible show wpAny _ _ (call _ _) _ _ _); first | (k_here; (with_reducible show wpAny _ _ (call (Value.builtin "list.append") [Value.ref _, _]) _ _ _); k_dflt (refine' append_K ?k1 ?k2 ?k3 ?_ ?z; (case k1 => k_asm); (case k2 => k_asm); (case k3 => k_upd); (case z => with_reducible assumption); k_whole); intro _ _ _; (try k_sweep)) | (k_here; (with_reducible show wpAny _ _ (call (Value.ref 21) _) _ _ _); k_dflt (refine' div2n1n_spec ?jB ?jF ?jX ?jN ?jT ?jk ?jd ?ju ?p1 ?p2 ?p3 ?_; (case jB => k_asm); (case jF => k_asm); (case jX => k_asm); (case jN => k_asm); (case jT => k_asm); (case jk => exact rfl); (case jd => ((try dsimp only [ktrTop]); omega)); (case ju => ((try dsimp only [ktrTop]); omega)); (case p1 => with_reducible assumption); (case p2 => with_reducible assumption); (case p3 => with_reducible assumption); k_whole); wtm_at "t3")) | (k_here; (with_reducible show wpAny _ _ (binaryOp Operator.LShift (Value.int _ _) (Value.int _ _)) _ _ _); refine lshift_int ?ha9 ?hb9 ?_; (case ha9 => with_reducible assumption); (case hb9 => with_reducible assumption))) | ((with_reducible show wpAny _ _ (call _ _) _ _ _); first | (k_here; (with_reducible show wpAny _ _ (call (Value.builtin "list.append") [Value.ref _, _]) _ _ _); k_dflt (refine' append_K ?k1 ?k2 ?k3 ?_ ?z; (case k1 => k_asm); (case k2 => k_asm); (case k3 => k_upd); (case z => with_reducible assumption); k_whole); intro _ _ _; (try k_sweep)) | (k_here; (with_reducible show wpAny _ _ (call (Value.ref 21) _) _ _ _); k_dflt (refine' div2n1n_spec ?jB ?jF ?jX ?jN ?jT ?jk ?jd ?ju ?p1 ?p2 ?p3 ?_; (case jB => k_asm); (case jF => k_asm); (case jX => k_asm); (case jN => k_asm); (case jT => k_asm); (case jk => exact rfl); (case jd => ((try dsimp only [ktrTop]); omega)); (case ju => ((try dsimp only [ktrTop]); omega)); (case p1 => with_reducible assumption); (case p2 => with_reducible assumption); (case p3 => with_reducible assumption); k_whole); wtm_at "t3")) | (k_here; (with_reducible show wpAny _ _ (binaryOp Operator.LShift (Value.int _ _) (Value.int _ _)) _ _ _); refine lshift_int ?ha9 ?hb9 ?_; (case ha9 => with_reducible assumption); (case hb9 => with_reducible assumption)) | walk1 | (dsimp only; first | with_reducible (first | ((with_reducible show wpAny _ _ (call _ _) _ _ _); first | (k_here; (with_reducible show wpAny _ _ (call (Value.builtin "list.append") [Value.ref _, _]) _ _ _); k_dflt (refine' append_K ?k1 ?k2 ?k3 ?_ ?z; (case k1 => k_asm); (case k2 => k_asm); (case k3 => k_upd); (case z => with_reducible assumption); k_whole); intro _ _ _; (try k_sweep)) | (k_here; (with_reducible show wpAny _ _ (call (Value.ref 21) _) _ _ _); k_dflt (refine' div2n1n_spec ?jB ?jF ?jX ?jN ?jT ?jk ?jd ?ju ?p1 ?p2 ?p3 ?_; (case jB => k_asm); (case jF => k_asm); (case jX => k_asm); (case jN => k_asm); (case jT => k_asm); (case jk => exact rfl); (case jd => ((try dsimp only [ktrTop]); omega)); (case ju => ((try dsimp only [ktrTop]); omega)); (case p1 => with_reducible assumption); (case p2 => with_reducible assumption); (case p3 => with_reducible assumption); k_whole); wtm_at "t3")) | (k_here; (with_reducible show wpAny _ _ (binaryOp Operator.LShift (Value.int _ _) (Value.int _ _)) _ _ _); refine lshift_int ?ha9 ?hb9 ?_; (case ha9 => with_reducible assumption); (case hb9 => with_reducible assumption))) | ((with_reducible show wpAny _ _ (call _ _) _ _ _); first | (k_here; (with_reducible show wpAny _ _ (call (Value.builtin "list.append") [Value.ref _, _]) _ _ _); k_dflt (refine' append_K ?k1 ?k2 ?k3 ?_ ?z; (case k1 => k_asm); (case k2 => k_asm); (case k3 => k_upd); (case z => with_reducible assumption); k_whole); intro _ _ _; (try k_sweep)) | (k_here; (with_reducible show wpAny _ _ (call (Value.ref 21) _) _ _ _); k_dflt (refine' div2n1n_spec ?jB ?jF ?jX ?jN ?jT ?jk ?jd ?ju ?p1 ?p2 ?p3 ?_; (case jB => k_asm); (case jF => k_asm); (case jX => k_asm); (case jN => k_asm); (case jT => k_asm); (case jk => exact rfl); (case jd => ((try dsimp only [ktrTop]); omega)); (case ju => ((try dsimp only [ktrTop]); omega)); (case p1 => with_reducible assumption); (case p2 => with_reducible assumption); (case p3 => with_reducible assumption); k_whole); wtm_at "t3")) | (k_here; (with_reducible show wpAny _ _ (binaryOp Operator.LShift (Value.int _ _) (Value.int _ _)) _ _ _); refine lshift_int ?ha9 ?hb9 ?_; (case ha9 => with_reducible assumption); (case hb9 => with_reducible assumption)) | walk1) | (leave1; (try dsimp only)) | fail "no step"))
    rename_i Fe Ne
    rw [List.push_toArray] at Ne
    refine TurnEnd.intro Fe (fun p hp => Ne p (.tail _ hp)) ?_ ⟨_, _, _, _, vq ++ [_], qs ++ [_], _, by omega, rfl, rfl, rfl, rfl, rfl, ints_snoc hvq, by rw [List.length_append, hql]; rfl, ?_, hst1, ?_⟩
    · intro p hp
      rcases List.mem_cons.mp hp with rfl | hp
      · exact hneI2 (l, listOf vq.toArray nq) (.head _)
      · exact hneI2 _ (.tail _ hp)
    · intro d hd
      rcases List.mem_append.mp hd with hd | hd
      · exact hqf d hd
      · rw [List.mem_singleton.mp hd]; exact ⟨hst3, hst4⟩
    · rw [hval_snoc, hhv]
      exact hst2.symm
  · rintro m₁ led h tk ⟨rv, tr, t1, t2, vq, qs, nq, hik, hm1, hm2, hm3, hm4, rfl, hvq, hql, hqf, hrv, hhv⟩ Ft Nt
    rw [pin4 hm1 hm2 hm3 hm4] at Ft
    change Fr g' L' h _ at Ft
    change News g' L' h _ at Nt
    dsimp only at Ft ⊢
    clear hm1 hm2 hm3 hm4 F2 N2
    subst egr
    have hri : IntsAre vq.toArray.toList.reverse qs.reverse := ints_rev hvq
    have hz : vq.toArray.toList.length ≤ sizeLine := by
      show vq.length ≤ sizeLine
      rw [hvq.length, hql]; exact size_ok (by omega)
    have hfg : Figs (Builtin.Int.intBits (Bn : Int) : Int).toNat qs.reverse := fun d hd => hqf d (List.mem_reverse.mp hd)
    have hrl : qs.reverse.length ≤ 50 := by rw [List.length_reverse, hql]; exact hk50
    have hN0 : 0 ≤ (Builtin.Int.intBits (Bn : Int) : Int) := Int.natCast_nonneg _
    have hdv : dval (Builtin.Int.intBits (Bn : Int) : Int).toNat qs.reverse = av / Bn := by
      rw [dval_reverse]
      show hval (Builtin.Int.intBits (Bn : Int)) qs = _
      rw [hhv, Nat.sub_self, Nat.mul_zero, Nat.pow_zero, Nat.div_one]
      conv => rhs; rw [← Int.toNat_of_nonneg ha0]
      rfl
    have hrv2 : rv = av % Bn := by
      rw [hrv, Nat.sub_self, Nat.mul_zero, Nat.pow_zero, Nat.div_one]
      conv => rhs; rw [← Int.toNat_of_nonneg ha0]
      rfl
    have hlD37 : (37 : Nat) < l := by omega
    (repeat' (first | (k_unfold; (try dsimp only)) | (k_end; wrow_close) | with_reducible (first | ((with_reducible show wpAny _ _ (call _ _) _ _ _); first | (k_here; (with_reducible show wpAny _ _ (call (Value.builtin "list.reverse") [Value.ref _]) _ _ _); k_dflt (refine' kl_reverse ?F ?N ?e ?U ?z ?_; (case F => k_asm); (case N => k_asm); (case e => exact rfl); (case U => k_upd); (case z => with_reducible assumption)); intro _ _ _; (try k_sweep)) | (k_here; (with_reducible show wpAny _ _ (call (Value.ref 42) _) _ _ _); k_dflt (refine' d2i_use ?jR ?jB ?jF ?jX ?jC1 ?jC2 ?jN ?jG ?jl ?jT ?jk ?jd ?ju ?p0 ?p1 ?p2 ?p3 ?p4 ?_; (case jR => with_reducible assumption); (case jB => k_asm); (case jF => k_asm); (case jX => k_asm); (case jC1 => with_reducible assumption); (case jC2 => with_reducible assumption); (case jN => k_asm); (case jG => wtm_at "r0"); (case jl => (intro _; k_mem)); (case jT => k_asm); (case jk => exact rfl); (case jd => ((try dsimp only [ktrTop]); omega)); (case ju => ((try dsimp only [ktrTop]); omega)); (case p0 => with_reducible assumption); (case p1 => first | with_reducible assumption | omega); (case p2 => first | with_reducible assumption | omega); (case p3 => first | with_reducible assumption | omega); (case p4 => with_reducible assumption); k_whole); intro _ _ _ _ _ _ _; (try dsimp only); (try k_fold)))) | ((with_reducible show wpAny _ _ (call _ _) _ _ _); first | (k_here; (with_reducible show wpAny _ _ (call (Value.builtin "list.reverse") [Value.ref _]) _ _ _); k_dflt (refine' kl_reverse ?F ?N ?e ?U ?z ?_; (case F => k_asm); (case N => k_asm); (case e => exact rfl); (case U => k_upd); (case z => with_reducible assumption)); intro _ _ _; (try k_sweep)) | (k_here; (with_reducible show wpAny _ _ (call (Value.ref 42) _) _ _ _); k_dflt (refine' d2i_use ?jR ?jB ?jF ?jX ?jC1 ?jC2 ?jN ?jG ?jl ?jT ?jk ?jd ?ju ?p0 ?p1 ?p2 ?p3 ?p4 ?_; (case jR => with_reducible assumption); (case jB => k_asm); (case jF => k_asm); (case jX => k_asm); (case jC1 => with_reducible assumption); (case jC2 => with_reducible assumption); (case jN => k_asm); (case jG => wtm_at "r0"); (case jl => (intro _; k_mem)); (case jT => k_asm); (case jk => exact rfl); (case jd => ((try dsimp only [ktrTop]); omega)); (case ju => ((try dsimp only [ktrTop]); omega)); (case p0 => with_reducible assumption); (case p1 => first | with_reducible assumption | omega); (case p2 => first | with_reducible assumption | omega); (case p3 => first | with_reducible assumption | omega); (case p4 => with_reducible assumption); k_whole); intro _ _ _ _ _ _ _; (try dsimp only); (try k_fold))) | walk1 | (dsimp only; first | with_reducible (first | ((with_reducible show wpAny _ _ (call _ _) _ _ _); first | (k_here; (with_reducible show wpAny _ _ (call (Value.builtin "list.reverse") [Value.ref _]) _ _ _); k_dflt (refine' kl_reverse ?F ?N ?e ?U ?z ?_; (case F => k_asm); (case N => k_asm); (case e => exact rfl); (case U => k_upd); (case z => with_reducible assumption)); intro _ _ _; (try k_sweep)) | (k_here; (with_reducible show wpAny _ _ (call (Value.ref 42) _) _ _ _); k_dflt (refine' d2i_use ?jR ?jB ?jF ?jX ?jC1 ?jC2 ?jN ?jG ?jl ?jT ?jk ?jd ?ju ?p0 ?p1 ?p2 ?p3 ?p4 ?_; (case jR => with_reducible assumption); (case jB => k_asm); (case jF => k_asm); (case jX => k_asm); (case jC1 => with_reducible assumption); (case jC2 => with_reducible assumption); (case jN => k_asm); (case jG => wtm_at "r0"); (case jl => (intro _; k_mem)); (case jT => k_asm); (case jk => exact rfl); (case jd => ((try dsimp only [ktrTop]); omega)); (case ju => ((try dsimp only [ktrTop]); omega)); (case p0 => with_reducible assumption); (case p1 => first | with_reducible assumption | omega); (case p2 => first | with_reducible assumption | omega); (case p3 => first | with_reducible assumption | omega); (case p4 => with_reducible assumption); k_whole); intro _ _ _ _ _ _ _; (try dsimp only); (try k_fold)))) | ((with_reducible show wpAny _ _ (call _ _) _ _ _); first | (k_here; (with_reducible show wpAny _ _ (call (Value.builtin "list.reverse") [Value.ref _]) _ _ _); k_dflt (refine' kl_reverse ?F ?N ?e ?U ?z ?_; (case F => k_asm); (case N => k_asm); (case e => exact rfl); (case U => k_upd); (case z => with_reducible assumption)); intro _ _ _; (try k_sweep)) | (k_here; (with_reducible show wpAny _ _ (call (Value.ref 42) _) _ _ _); k_dflt (refine' d2i_use ?jR ?jB ?jF ?jX ?jC1 ?jC2 ?jN ?jG ?jl ?jT ?jk ?jd ?ju ?p0 ?p1 ?p2 ?p3 ?p4 ?_; (case jR => with_reducible assumption); (case jB => k_asm); (case jF => k_asm); (case jX => k_asm); (case jC1 => with_reducible assumption); (case jC2 => with_reducible assumption); (case jN => k_asm); (case jG => wtm_at "r0"); (case jl => (intro _; k_mem)); (case jT => k_asm); (case jk => exact rfl); (case jd => ((try dsimp only [ktrTop]); omega)); (case ju => ((try dsimp only [ktrTop]); omega)); (case p0 => with_reducible assumption); (case p1 => first | with_reducible assumption | omega); (case p2 => first | with_reducible assumption | omega); (case p3 => first | with_reducible assumption | omega); (case p4 => with_reducible assumption); k_whole); intro _ _ _ _ _ _ _; (try dsimp only); (try k_fold))) | walk1) | (leave1; (try dsimp only)) | fail "no step"))
    rename_i kF kN _ _
    rw [hdv, hrv2] at kN
    exact hret _ _ _ _ _ _ (by with_reducible assumption) kF (cb_drop kN (fun p hp => by
      rcases List.mem_cons.mp hp with rfl | hp
      · exact .head _
      · exact .tail _ (.tail _ (.tail _ hp))))
end V2
theorem set_back_V2_z : True := by first | walk1 | trivial
-- HasAttr
section HasAttr
set_option maxRecDepth 100000
set_option maxHeartbeats 8000000
theorem set_back_HasAttr : True := by
  w_top off
  first | walk1 | trivial
local macro_rules | `(tactic| walk_at "WPS") => `(tactic| (first
  | assumption
  | with_reducible (first
      | refine wpAny_pure ?_ | refine wpAny_bind ?_ | refine wpAny_holding ?_ | refine wpAny_standAt ?_ | refine wpAny_point ?_ | refine wpAny_rule ?_
      | refine wpAny_letGo ?_ | refine wpAny_mkInt' ?_ | refine wpAny_mkStr' ?_ | refine wpAny_fresh' ?_ | refine wpAny_alloc' ?_ | refine wpAny_attempt ?_
      | refine wpAny_throw ?_
      | refine wpAny_of_eq (by assumption) ?_ | refine wpAny_typeOf (by assumption) ?_
      | refine wpAny_specialOf_val (by assumption) (by assumption) ?_ | refine wpAny_specialOf (by assumption) (by assumption) ?_
      | refine wpAny_isInstance_val (by assumption) (by assumption) ?_ | refine wpAny_isInstance (by assumption) (by assumption) ?_
      | refine wpAny_call ?_ | refine wpAny_runValue ?_ | refine wpAny_run ?_)
  | ((with_reducible refine' wpAny_load' ?hc ?_); (case hc => (heap_get; done)))
  | ((with_reducible refine' wpAny_loadPart' ?hc ?_); (case hc => (heap_get; done)))
  | ((with_reducible refine' wpAny_handled_none ?hc ?_); (case hc => assumption))
  | ((with_reducible refine' wpAny_ite_false ?hc ?_); (case hc => first | rfl | (simp [*]; done)))
  | ((with_reducible refine' wpAny_ite_true ?hc ?_); (case hc => first | rfl | (simp [*]; done)))
  | wp_delta
  | with_reducible_and_instances refine wpAny_pure ?_
  | with_reducible_and_instances refine wpAny_bind ?_))
theorem lk_str_getitem : typeLookup (.type "str") (Str.ofString "__getitem__") = pure (some (.builtin "str.__getitem__")) := by rw [typeLookup_type, builtinLookup_eq_fast]; kernel_rfl
theorem lk_list_getitem : typeLookup (.type "list") (Str.ofString "__getitem__") = pure (some (.builtin "list.__getitem__")) := by rw [typeLookup_type, builtinLookup_eq_fast]; kernel_rfl
theorem entry_hasattr : entryFor table "hasattr" = some Builtin.«hasattr» := entryFor_of_fast (by kernel_rfl)
theorem kind_hasattr : builtinKind "hasattr" = none := by decide +kernel
theorem plain_hasattr : plainId "hasattr" = true := by decide +kernel
theorem args_hasattr (a b : Value) : argsOk "hasattr" ⟨[a, b], []⟩ := by unfold argsOk; kernel_rfl
theorem typeOf_str_getitem : typeOf (.builtin "str.__getitem__") = pure (.type "wrapper_descriptor") := by kernel_rfl
theorem typeOf_list_getitem : typeOf (.builtin "list.__getitem__") = pure (.type "method_descriptor") := by kernel_rfl
theorem slot_wd_get : Slot "wrapper_descriptor" "__get__" "wrapper_descriptor.__get__" :=
  .of (owner := "wrapper_descriptor") (n := "__get__") (by rw [typeLookup_type, builtinLookup_eq_fast]; kernel_rfl) (by decide +kernel) (by decide +kernel) (by decide +kernel)
    (by first | exact .inl (by decide +kernel) | exact .inr (by decide +kernel)) (by rw [isSubtype_type]; kernel_rfl)
theorem slot_md_get : Slot "method_descriptor" "__get__" "method_descriptor.__get__" :=
  .of (owner := "method_descriptor") (n := "__get__") (by rw [typeLookup_type, builtinLookup_eq_fast]; kernel_rfl) (by decide +kernel) (by decide +kernel) (by decide +kernel)
    (by first | exact .inl (by decide +kernel) | exact .inr (by decide +kernel)) (by rw [isSubtype_type]; kernel_rfl)
theorem wd_set_none : typeLookup (.type "wrapper_descriptor") (Str.ofString "__set__") = pure none := by rw [typeLookup_type, builtinLookup_eq_fast]; kernel_rfl
theorem wd_delete_none : typeLookup (.type "wrapper_descriptor") (Str.ofString "__delete__") = pure none := by rw [typeLookup_type, builtinLookup_eq_fast]; kernel_rfl
theorem md_set_none : typeLookup (.type "method_descriptor") (Str.ofString "__set__") = pure none := by rw [typeLookup_type, builtinLookup_eq_fast]; kernel_rfl
theorem md_delete_none : typeLookup (.type "method_descriptor") (Str.ofString "__delete__") = pure none := by rw [typeLookup_type, builtinLookup_eq_fast]; kernel_rfl
theorem entry_wd_get : entryFor table "wrapper_descriptor.__get__" = some Builtin.«wrapper_descriptor.__get__» := entryFor_of_fast (by kernel_rfl)
theorem entry_md_get : entryFor table "method_descriptor.__get__" = some Builtin.«method_descriptor.__get__» := entryFor_of_fast (by kernel_rfl)
theorem args_wd_get (a b c : Value) : argsOk "wrapper_descriptor.__get__" ⟨[a, b, c], []⟩ := by unfold argsOk; kernel_rfl
theorem args_md_get (a b c : Value) : argsOk "method_descriptor.__get__" ⟨[a, b, c], []⟩ := by unfold argsOk; kernel_rfl
theorem owner_str_getitem : (".".intercalate ("str.__getitem__".cutAt '.').dropLast) = "str" := by
  have e0 : "str.__getitem__".cutAt '.' = ["str", "__getitem__"] := by first | rfl | decide +kernel
  rw [e0]; decide +kernel
theorem owner_list_getitem : (".".intercalate ("list.__getitem__".cutAt '.').dropLast) = "list" := by
  have e0 : "list.__getitem__".cutAt '.' = ["list", "__getitem__"] := by first | rfl | decide +kernel
  rw [e0]; decide +kernel
theorem sub_str_owner : isSubtype (.type "str") (.type (".".intercalate ("str.__getitem__".cutAt '.').dropLast)) = pure true := by
  rw [owner_str_getitem, isSubtype_type]; kernel_rfl
theorem sub_list_owner : isSubtype (.type "list") (.type (".".intercalate ("list.__getitem__".cutAt '.').dropLast)) = pure true := by
  rw [owner_list_getitem, isSubtype_type]; kernel_rfl

theorem sub_list_module : isSubtype (.type "list") (.type "module") = pure false := by rw [isSubtype_type]; kernel_rfl
section
variable {prog : Program} {w : World} {A : Around} {E : Value → Shared → Prop} {h : Heap} {g : Array GenState} {d : Drawn} {t : Nat} {os : OsState} {x : Str} {u : Tok}
theorem gi_get_str {R : Result → Shared → Prop} (hq : ∀ o, R (.ok (.ret (.ref h.objs.size))) ⟨h.push o, g, d, t, os⟩) :
    codeAny (model prog w) A (.call (.builtin "wrapper_descriptor.__get__") ⟨[.builtin "str.__getitem__", .str x u, .type "str"], []⟩) R ⟨h, g, d, t, os⟩ := by
  have hT : (⟨h, g, d, t, os⟩ : Shared).TypeIs (.str x u) "str" := rfl
  have hT5 : (⟨h, g, d, t, os⟩ : Shared).TypeIs (.builtin "str.__getitem__") "wrapper_descriptor" := typeOf_str_getitem
  have f8 := sub_str_owner
  refine codeAny_call_builtin slot_wd_get.plain entry_wd_get (slot_wd_get.check _ _ _ _ _ _ _ _ hT5 (args_wd_get _ _ _) ?_)
  unfold Builtin.«wrapper_descriptor.__get__»
  repeat (walk_at "WPS")
  exact hq _
theorem gi_entry_str {tk : Tok} {Q : Fin → Shared → Prop}  (hq : ∀ o, Q (.done (.ret (.ref h.objs.size))) ⟨h.push o, g, d, t, os⟩) :
    wpAny (model prog w) A (Builtin.«object.__getattribute__» ⟨[.str x u, .str (Str.ofString "__getitem__") tk], []⟩) Q E ⟨h, g, d, t, os⟩ := by
  have hT : (⟨h, g, d, t, os⟩ : Shared).TypeIs (.str x u) "str" := rfl
  have hT5 : (⟨h, g, d, t, os⟩ : Shared).TypeIs (.builtin "str.__getitem__") "wrapper_descriptor" := typeOf_str_getitem
  have f4 := lk_str_getitem
  have f5 := typeOf_str_getitem
  have f6 := slot_wd_get.lookup
  have f7 := wd_set_none
  have f8 := wd_delete_none
  unfold Builtin.«object.__getattribute__»
  repeat (walk_at "WPS")
  exact gi_get_str fun o => wpAny_pure (hq o)
theorem gi_call_str {tk : Tok} {R : Result → Shared → Prop} (hq : ∀ o, R (.ok (.ret (.ref h.objs.size))) ⟨h.push o, g, d, t, os⟩) :
    codeAny (model prog w) A (.call (.builtin "object.__getattribute__") ⟨[.str x u, .str (Str.ofString "__getitem__") tk], []⟩) R ⟨h, g, d, t, os⟩ :=
  codeAny_call_builtin F.slot_str_getattribute.plain F.entry_object_getattribute (F.slot_str_getattribute.check _ _ _ _ _ _ _ _ (show (⟨h, g, d, t, os⟩ : Shared).TypeIs (.str x u) "str" from rfl) (F.args_object_getattribute_2 _ _) (gi_entry_str hq))
theorem gi_get_list {a : Addr} {o : Obj} {R : Result → Shared → Prop} (hx : h.get? a = some o) (hc : o.cls = .type "list") (hq : ∀ o, R (.ok (.ret (.ref h.objs.size))) ⟨h.push o, g, d, t, os⟩) :
    codeAny (model prog w) A (.call (.builtin "method_descriptor.__get__") ⟨[.builtin "list.__getitem__", .ref a, .type "list"], []⟩) R ⟨h, g, d, t, os⟩ := by
  have hT : (⟨h, g, d, t, os⟩ : Shared).TypeIs (.ref a) "list" := ⟨_, hx, hc⟩
  have hT5 : (⟨h, g, d, t, os⟩ : Shared).TypeIs (.builtin "list.__getitem__") "method_descriptor" := typeOf_list_getitem
  have f8 := sub_list_owner
  refine codeAny_call_builtin slot_md_get.plain entry_md_get (slot_md_get.check _ _ _ _ _ _ _ _ hT5 (args_md_get _ _ _) ?_)
  unfold Builtin.«method_descriptor.__get__»
  repeat (walk_at "WPS")
  exact hq _
theorem gi_entry_list {a : Addr} {o : Obj} {tk : Tok} {Q : Fin → Shared → Prop} (hx : h.get? a = some o) (hc : o.cls = .type "list") (hdi : o.dict = none) (hda : ∃ xs k, o.data = .seq xs k)  (hq : ∀ o, Q (.done (.ret (.ref h.objs.size))) ⟨h.push o, g, d, t, os⟩) :
    wpAny (model prog w) A (Builtin.«object.__getattribute__» ⟨[.ref a, .str (Str.ofString "__getitem__") tk], []⟩) Q E ⟨h, g, d, t, os⟩ := by
  obtain ⟨xs, k, hda⟩ := hda
  obtain ⟨oc, od, odt, osl⟩ := o
  simp only at hc hdi hda
  subst hc hdi hda
  have hT : (⟨h, g, d, t, os⟩ : Shared).TypeIs (.ref a) "list" := ⟨_, hx, rfl⟩
  have hT5 : (⟨h, g, d, t, os⟩ : Shared).TypeIs (.builtin "list.__getitem__") "method_descriptor" := typeOf_list_getitem
  have f4 := lk_list_getitem
  have f5 := typeOf_list_getitem
  have f6 := slot_md_get.lookup
  have f7 := md_set_none
  have f8 := md_delete_none
  unfold Builtin.«object.__getattribute__»
  repeat (walk_at "WPS")
  exact gi_get_list hx rfl fun o => wpAny_pure (hq o)
theorem gi_call_list {a : Addr} {o : Obj} {tk : Tok} {R : Result → Shared → Prop} (hx : h.get? a = some o) (hc : o.cls = .type "list") (hdi : o.dict = none) (hda : ∃ xs k, o.data = .seq xs k) (hq : ∀ o, R (.ok (.ret (.ref h.objs.size))) ⟨h.push o, g, d, t, os⟩) :
    codeAny (model prog w) A (.call (.builtin "list.__getattribute__") ⟨[.ref a, .str (Str.ofString "__getitem__") tk], []⟩) R ⟨h, g, d, t, os⟩ :=
  codeAny_call_builtin F.slot_list_getattribute.plain F.entry_list_ga (F.slot_list_getattribute.check _ _ _ _ _ _ _ _ (show (⟨h, g, d, t, os⟩ : Shared).TypeIs (.ref a) "list" from ⟨_, hx, hc⟩) (F.args_list_getattribute_2 _ _) (gi_entry_list hx hc hdi hda hq))
end

theorem hasattr_str {prog : Program} {w : World} {A : Around} {E : Value → Shared → Prop} {s : Shared} {x : Str} {t u : Tok} {Q : Value → Shared → Prop}
   (hq : ∀ o, Q (.bool true) { s with heap := s.heap.push o }) :
   wpAny (model prog w) A (call (.builtin "hasattr") [.str x t, .str (Str.ofString "__getitem__") u]) Q E s := by
  refine call_function_entry kind_hasattr plain_hasattr entry_hasattr (args_hasattr _ _) ?_
  unfold Builtin.«hasattr»
  obtain ⟨h, g, d, tk, os⟩ := s
  have hT : (⟨h, g, d, tk, os⟩ : Shared).TypeIs (.str x t) "str" := rfl
  have f2 := F.slot_str_getattribute.lookup
  have f3 := F.slot_str_getattribute.bind (.str x t)
  have f4 := lk_str_getitem
  repeat (walk_at "WPS")
  refine gi_call_str fun o => ?_
  dsimp only
  repeat (walk_at "WPS")
  exact ⟨_, rfl, hq o⟩

theorem hasattr_list {prog : Program} {w : World} {A : Around} {E : Value → Shared → Prop} {s : Shared} {a : Addr} {o : Obj} {u : Tok} {Q : Value → Shared → Prop}
   (hx : s.heap.get? a = some o) (hc : o.cls = .type "list") (hdi : o.dict = none) (hda : ∃ xs k, o.data = .seq xs k) (hq : ∀ o, Q (.bool true) { s with heap := s.heap.push o }) :
   wpAny (model prog w) A (call (.builtin "hasattr") [.ref a, .str (Str.ofString "__getitem__") u]) Q E s := by
  refine call_function_entry kind_hasattr plain_hasattr entry_hasattr (args_hasattr _ _) ?_
  unfold Builtin.«hasattr»
  obtain ⟨h, g, d, tk, os⟩ := s
  have hT : (⟨h, g, d, tk, os⟩ : Shared).TypeIs (.ref a) "list" := ⟨_, hx, hc⟩
  have f2 := F.slot_list_getattribute.lookup
  have f3 := F.slot_list_getattribute.bind (.ref a)
  have f4 := lk_list_getitem
  have f5 := sub_list_module
  repeat (walk_at "WPS")
  refine gi_call_list hx hc hdi hda fun o => ?_
  dsimp only
  repeat (walk_at "WPS")
  exact ⟨_, rfl, hq o⟩
end HasAttr
theorem set_back_HasAttr_z : True := by first | walk1 | trivial
-- G1
section G1
set_option maxRecDepth 100000
set_option maxHeartbeats 8000000
theorem set_back_G1 : True := by
  w_top off
  first | walk1 | trivial
local macro_rules | `(tactic| k_all) => `(tactic| with_reducible assumption)
section
variable {w : World} {p : Program} {loose : List Str} {mean : ExcName → Option Value} {mg mb : Str → Option Value}
    {dp un : Nat} {gd : Option (List Code)} {cn : Str} {cs : Scope} {a : Addr} {ccd : Value} {cl : List (Str × Addr)} {outer : List Env} {A₀ : Around} {base h₀ : Heap} {L : Addr} {m : Str → Option Value} {s : Shared} {Q E : Value → Shared → Prop}
    {g : List (Addr × Obj) → List (Addr × Obj)} {rest led news : List (Addr × Obj)}
theorem divmod_pos_use {av bv : Int} {ta tb : Tok}
    (hR : TabsL rest) (B : Below A₀ base outer h₀) (F : Fr h₀ L s.heap m) (X : (Mine.hd.heap_39 w.params).In h₀) (C1 : CodeHd base 41 37) (C2 : CodeHd base 34 30)
    (N : News h₀ L s.heap led) (hL : LedOf rest led g) (T : Top p loose mean mg mb h₀) (hk : cs.kind = .function) (hd : dp + 80 < recursionLimit) (hu : un + 700 < cLine)
    (ha0 : 0 ≤ av) (hb0 : 0 < bv) (hb1 : Builtin.Int.intBits bv ≤ 8000) (hfit : LtPow av.toNat (Builtin.Int.intBits bv * 50))
    (hdiv : LtPow bv.toNat 4000 ∨ LtPow av.toNat (Builtin.Int.intBits bv + 4000))
    (hret : ∀ D t1 t2 h' tk' rest', TabsL rest' → Fr h₀ L h' m → News h₀ L h' ((D, tupObj #[.int (av / bv) t1, .int (av % bv) t2]) :: g rest') → Q (.ref D) { s with heap := h', toks := tk' }) :
    wpAny (model PySem.Challenge.rw_ti0020_01.row.prog w) (ktrTop dp un gd cn cs L a ccd cl outer) (call (.ref 49) [.int av ta, .int bv tb]) Q E s := by
  obtain ⟨rfl, hG⟩ := hL.eq
  exact divmod_pos_spec w av bv ta tb p loose mean mg mb dp un gd cn cs a ccd cl outer A₀ base h₀ L m s Q E g rest B F X C1 C2 hG hR N T hk hd hu ha0 hb0 hb1 hfit hdiv hret
theorem int_divmod_spec {av bv : Int} {ta tb : Tok}
    (hR : TabsL rest) (B : Below A₀ base outer h₀) (F : Fr h₀ L s.heap m) (X : (Mine.hd.heap_39 w.params).In h₀) (C1 : CodeHd base 41 37) (C2 : CodeHd base 34 30)
    (N : News h₀ L s.heap led) (hL : LedOf rest led g) (T : Top p loose mean mg mb h₀) (hk : cs.kind = .function) (hd : dp + 90 < recursionLimit) (hu : un + 750 < cLine)
    (ha0 : 0 ≤ av) (hb0 : 0 < bv) (hb1 : Builtin.Int.intBits bv ≤ 8000) (hfit : LtPow av.toNat (Builtin.Int.intBits bv * 50))
    (hdiv : LtPow bv.toNat 4000 ∨ LtPow av.toNat (Builtin.Int.intBits bv + 4000))
    (hret : ∀ D t1 t2 h' tk' rest', TabsL rest' → Fr h₀ L h' m → News h₀ L h' ((D, tupObj #[.int (av / bv) t1, .int (av % bv) t2]) :: g rest') → Q (.ref D) { s with heap := h', toks := tk' }) :
    wpAny (model PySem.Challenge.rw_ti0020_01.row.prog w) (ktrTop dp un gd cn cs L a ccd cl outer) (call (.ref 56) [.int av ta, .int bv tb]) Q E s := by
  obtain ⟨rfl, hG⟩ := hL.eq
  (rename Frag.In _ _ => Xfill; revert Xfill; k_fill; intro Xfill)
  refine wpAny_call ?_
  k_dflt cell_enter
  rename_i g' L' h' FG' F' N' B' X' T'
  clear N FG'
  replace F' : Fr g' L' h' (fun z => ([(Str.ofString "b", Value.int bv tb), (Str.ofString "a", Value.int av ta)] : List (Str × Value)).lookup z) := F'
  (repeat' (first | (k_unfold; (try dsimp only)) | (k_end; wrow_close) | with_reducible (first | (k_here; (with_reducible show wpAny _ _ (call (Value.ref 49) _) _ _ _); k_dflt (refine' divmod_pos_use ?jR ?jB ?jF ?jX ?jC1 ?jC2 ?jN ?jG ?jT ?jk ?jd ?ju ?p0 ?p1 ?p2 ?p3 ?p4 ?_; (case jR => with_reducible assumption); (case jB => k_asm); (case jF => k_asm); (case jX => k_asm); (case jC1 => with_reducible assumption); (case jC2 => with_reducible assumption); (case jN => k_asm); (case jG => wtm_at "r0"); (case jT => k_asm); (case jk => exact rfl); (case jd => ((try dsimp only [ktrTop]); omega)); (case ju => ((try dsimp only [ktrTop]); omega)); (case p0 => with_reducible assumption); (case p1 => with_reducible assumption); (case p2 => with_reducible assumption); (case p3 => with_reducible assumption); (case p4 => with_reducible assumption); k_whole); intro _ _ _ _ _ _ _ _ _; (try dsimp only); (try k_fold))) | (k_here; (with_reducible show wpAny _ _ (call (Value.ref 49) _) _ _ _); k_dflt (refine' divmod_pos_use ?jR ?jB ?jF ?jX ?jC1 ?jC2 ?jN ?jG ?jT ?jk ?jd ?ju ?p0 ?p1 ?p2 ?p3 ?p4 ?_; (case jR => with_reducible assumption); (case jB => k_asm); (case jF => k_asm); (case jX => k_asm); (case jC1 => with_reducible assumption); (case jC2 => with_reducible assumption); (case jN => k_asm); (case jG => wtm_at "r0"); (case jT => k_asm); (case jk => exact rfl); (case jd => ((try dsimp only [ktrTop]); omega)); (case ju => ((try dsimp only [ktrTop]); omega)); (case p0 => with_reducible assumption); (case p1 => with_reducible assumption); (case p2 => with_reducible assumption); (case p3 => with_reducible assumption); (case p4 => with_reducible assumption); k_whole); intro _ _ _ _ _ _ _ _ _; (try dsimp only); (try k_fold)) | walk1 | (dsimp only; first | with_reducible (first | (k_here; (with_reducible show wpAny _ _ (call (Value.ref 49) _) _ _ _); k_dflt (refine' divmod_pos_use ?jR ?jB ?jF ?jX ?jC1 ?jC2 ?jN ?jG ?jT ?jk ?jd ?ju ?p0 ?p1 ?p2 ?p3 ?p4 ?_; (case jR => with_reducible assumption); (case jB => k_asm); (case jF => k_asm); (case jX => k_asm); (case jC1 => with_reducible assumption); (case jC2 => with_reducible assumption); (case jN => k_asm); (case jG => wtm_at "r0"); (case jT => k_asm); (case jk => exact rfl); (case jd => ((try dsimp only [ktrTop]); omega)); (case ju => ((try dsimp only [ktrTop]); omega)); (case p0 => with_reducible assumption); (case p1 => with_reducible assumption); (case p2 => with_reducible assumption); (case p3 => with_reducible assumption); (case p4 => with_reducible assumption); k_whole); intro _ _ _ _ _ _ _ _ _; (try dsimp only); (try k_fold))) | (k_here; (with_reducible show wpAny _ _ (call (Value.ref 49) _) _ _ _); k_dflt (refine' divmod_pos_use ?jR ?jB ?jF ?jX ?jC1 ?jC2 ?jN ?jG ?jT ?jk ?jd ?ju ?p0 ?p1 ?p2 ?p3 ?p4 ?_; (case jR => with_reducible assumption); (case jB => k_asm); (case jF => k_asm); (case jX => k_asm); (case jC1 => with_reducible assumption); (case jC2 => with_reducible assumption); (case jN => k_asm); (case jG => wtm_at "r0"); (case jT => k_asm); (case jk => exact rfl); (case jd => ((try dsimp only [ktrTop]); omega)); (case ju => ((try dsimp only [ktrTop]); omega)); (case p0 => with_reducible assumption); (case p1 => with_reducible assumption); (case p2 => with_reducible assumption); (case p3 => with_reducible assumption); (case p4 => with_reducible assumption); k_whole); intro _ _ _ _ _ _ _ _ _; (try dsimp only); (try k_fold)) | walk1) | (leave1; (try dsimp only)) | fail "no step"))
  · exfalso; omega
  · rename_i kF kN _ _
    exact hret _ _ _ _ _ _ (by with_reducible assumption) kF kN
end
end G1
theorem set_back_G1_z : True := by first | walk1 | trivial
-- E1
section E1
set_option maxRecDepth 100000
set_option maxHeartbeats 8000000
theorem set_back_E1 : True := by
  w_top off
  first | walk1 | trivial
theorem drop_ends (p q : Str) (mid : List Str) : (p :: (mid ++ [q])).dropLast = p :: mid := by rw [← List.cons_append, List.dropLast_concat]
theorem truthy_S {prog : Program} {w : World} {A : Around} {E : Value → Shared → Prop} {s : Shared} {x : Str} {t : Tok} {Q : Bool → Shared → Prop} (hx : x.length ≤ 1000) (h1 : x.length = 0 → Q false { s with toks := s.toks + 1 + 1 }) (h2 : x.length ≠ 0 → Q true { s with toks := s.toks + 1 + 1 }) : wpAny (model prog w) A (truthy (.str x t)) Q E s := by
  refine PySem.P.truthy_str (by omega) ?_
  by_cases e : x.length = 0
  · rw [show ((x.length : Int) != 0) = false from by simp [e]]; exact h1 e
  · rw [show ((x.length : Int) != 0) = true from by simpa using e]; exact h2 e
/-- x.find(y, i, j) -/
def find4 (x y : Str) (i j : Int) : Int := match Builtin.Str.occurrences x y (fromIndex x.length i) (min (fromIndex x.length j) x.length) 1 with | k :: _ => (k : Int) | [] => -1
theorem gives_find4 (x y : Str) (i j : Int) (t u v v2 : Tok) : Gives (Builtin.«str.find» ⟨[.str x t, .str y u, .int i v, .int j v2], []⟩) (.int (find4 x y i j)) := by
  show Gives (match Builtin.Str.occurrences x y (fromIndex x.length i) (min (fromIndex x.length j) x.length) 1 with | k :: _ => retInt k | [] => (do rule "str.find.not-found"; retInt (-1))) _
  unfold find4
  cases Builtin.Str.occurrences x y (fromIndex x.length i) (min (fromIndex x.length j) x.length) 1 with
  | nil => exact .rule (.of_eq rfl)
  | cons k _ => exact .of_eq rfl
theorem call_find4 {prog : Program} {w : World} {A : Around} {E : Value → Shared → Prop} {s : Shared} {x y : Str} {t u v v2 : Tok} {i j : Int} {Q : Value → Shared → Prop} (hq : Q (.int (find4 x y i j) s.toks) { s with toks := s.toks + 1 }) : wpAny (model prog w) A (call (.builtin "str.find") [.str x t, .str y u, .int i v, .int j v2]) Q E s :=
  call_gives PySem.F.slot_str_find (typeIs_str _ _ _) PySem.F.entry_str_find (PySem.F.args_str_find_4 _ _ _ _) (gives_find4 x y i j t u v v2) hq
def ellLoop (y : Str) (e : Int) : List Str → Int → Bool
  | [], _ => true
  | w :: r, st => if find4 y w st e < 0 then false else ellLoop y e r (find4 y w st e + w.length)
def ellFin (y : Str) (ws : List Str) (st e : Int) : Bool := if e < st then false else ellLoop y e ws st
def ellEnd (y : Str) (ws : List Str) (st : Int) (q : Str) : Bool := if q.length = 0 then ellFin y ws st y.length else if Txt.endswith y q then ellFin y ws.dropLast st (y.length - q.length) else false
/-- _ellipsis_match where the want's parts between dots are p, mid and q -/
def ellM (y p : Str) (mid : List Str) (q : Str) : Bool := if p.length = 0 then ellEnd y (p :: (mid ++ [q])) 0 q else if Txt.startswith y p then ellEnd y (mid ++ [q]) p.length q else false
theorem strs_ends {vs : List Value} {p q : Str} {mid : List Str} (h : StrsAre vs (p :: (mid ++ [q]))) : ∃ tp vm tq, vs = .str p tp :: (vm ++ [.str q tq]) ∧ StrsAre vm mid ∧ vm.length = mid.length := by
  cases h with
  | cons _ tp h =>
    rename_i vr
    suffices H : ∀ {mid : List Str} {vr : List Value}, StrsAre vr (mid ++ [q]) → ∃ vm tq, vr = vm ++ [.str q tq] ∧ StrsAre vm mid ∧ vm.length = mid.length by
      obtain ⟨vm, tq, e, hm, hl⟩ := H h
      exact ⟨tp, vm, tq, by rw [e], hm, hl⟩
    intro mid
    induction mid with
    | nil => intro vr h; cases h with | cons _ tq h => cases h; exact ⟨[], tq, rfl, .nil, rfl⟩
    | cons z r ih =>
      intro vr h
      cases h with
      | cons _ tz h =>
        obtain ⟨vm, tq, e, hm, hl⟩ := ih h
        exact ⟨.str z tz :: vm, tq, by rw [e]; rfl, .cons _ _ hm, by simp [hl]⟩
theorem strs_app {vs ws : List Value} {a b : List Str} (h : StrsAre vs a) (k : StrsAre ws b) : StrsAre (vs ++ ws) (a ++ b) := by
  induction h with
  | nil => exact k
  | cons y t _ ih => exact .cons y t ih
theorem arr_first (a : Value) (l : List Value) : (a :: l).toArray[(0 : Int).toNat]? = some a := by simp
theorem arr_last1 (a : Value) (l : List Value) (b : Value) : (a :: (l ++ [b])).toArray[(-1 + (((a :: (l ++ [b])).toArray.size : Nat) : Int)).toNat]? = some b := by
  have : (-1 + (((a :: (l ++ [b])).toArray.size : Nat) : Int)).toNat = l.length + 1 := by simp; omega
  rw [this]; simp
theorem arr_last2 (l : List Value) (b : Value) : (l ++ [b]).toArray[(-1 + (((l ++ [b]).toArray.size : Nat) : Int)).toNat]? = some b := by
  have : (-1 + (((l ++ [b]).toArray.size : Nat) : Int)).toNat = l.length := by simp; omega
  rw [this]; simp
theorem del_last (l : List Value) (b : Value) : ki_delL (l ++ [b]) l.length = some l := by
  induction l with
  | nil => rfl
  | cons a r ih => show (match ki_delL (r ++ [b]) r.length with | some q => some (a :: q) | none => none) = _; rw [ih]
theorem item_first_e {prog : Program} {w : World} {A : Around} {E : Value → Shared → Prop} {s : Shared} {Q : Value → Shared → Prop} {h₀ : Heap} {L : Addr} {news : List (Addr × Obj)} {value slice : Expr} {D : Addr} {e9 : Addr × Obj} {a : Value} {l : List Value} {n : Nat} {u : Tok}
    (N : News h₀ L s.heap (e9 :: (D, listOf (a :: l).toArray n) :: news)) (hz : l.length ≤ 1000) (h : Q a s)
    (hs : subscripted slice false (.ref D) (.int 0 u) = operate [.ref D, .int 0 u] (getItem (.ref D) (.int 0 u))) (hg : ∀ r, letTemporaryGo value (.ref D) r = pure ()) :
    wpAny (model prog w) A (subscriptTail value slice (.ref D) (.int 0 u)) Q E s := by
  have hl : s.heap.IsList D (a :: l).toArray := PySem.IsL.isList (n := n) (N _ (.tail _ (.head _))).1
  exact subscriptTail_builtin hl.typeIs slot_list_getitem.lookup (wpAny_getItem_list hl (by decide) (by
    have e : ((2 : Int) ^ 63) = 9223372036854775808 := by decide
    first | omega | (rw [e]; omega)) (arr_first a l) h) hs hg
theorem item_last_e {prog : Program} {w : World} {A : Around} {E : Value → Shared → Prop} {s : Shared} {Q : Value → Shared → Prop} {h₀ : Heap} {L : Addr} {news : List (Addr × Obj)} {value slice : Expr} {D : Addr} {e9 : Addr × Obj} {its : Array Value} {b : Value} {n : Nat} {u : Tok}
    (N : News h₀ L s.heap (e9 :: (D, listOf its n) :: news)) (h1 : 1 ≤ its.size) (hx : its[(-1 + ((its.size : Nat) : Int)).toNat]? = some b) (h : Q b s)
    (hs : subscripted slice false (.ref D) (.int (-1) u) = operate [.ref D, .int (-1) u] (getItem (.ref D) (.int (-1) u))) (hg : ∀ r, letTemporaryGo value (.ref D) r = pure ()) :
    wpAny (model prog w) A (subscriptTail value slice (.ref D) (.int (-1) u)) Q E s := by
  have hl : s.heap.IsList D its := PySem.IsL.isList (n := n) (N _ (.tail _ (.head _))).1
  exact subscriptTail_builtin hl.typeIs slot_list_getitem.lookup (wpAny_getItem_list_neg hl (by decide) (by omega) (by decide) hx h) hs hg
theorem del_first_w {prog : Program} {w : World} {A : Around} {E : Value → Shared → Prop} {s : Shared} {Q : Unit → Shared → Prop} {h₀ : Heap} {L : Addr} {m : Str → Option Value} {news : List (Addr × Obj)} {D : Addr} {e9 : Addr × Obj} {a : Value} {l : List Value} {n : Nat} {u : Tok}
    (F : Fr h₀ L s.heap m) (N : News h₀ L s.heap (e9 :: (D, listOf (a :: l).toArray n) :: news)) (hE : e9.1 ≠ D) (hD : ∀ p ∈ news, p.1 ≠ D) (hz : l.length ≤ 1000)
    (h : ∀ h', Fr h₀ L h' m → News h₀ L h' (e9 :: (D, listOf l.toArray (n + 1)) :: news) → Q () { s with heap := h' }) : wpAny (model prog w) A (delItem (.ref D) (.int 0 u)) Q E s := by
  refine ki_del (k := 0) (q := l) F N (by decide) ?_ rfl (.tail hE (.head hD)) ?_ h
  · unfold seqIndex?; simp
  · exact Nat.le_trans (show (a :: l).toArray.toList.length ≤ 1001 by simp; omega) (by decide +kernel)
theorem del_last_w {prog : Program} {w : World} {A : Around} {E : Value → Shared → Prop} {s : Shared} {Q : Unit → Shared → Prop} {h₀ : Heap} {L : Addr} {m : Str → Option Value} {news : List (Addr × Obj)} {D : Addr} {e9 : Addr × Obj} {l : List Value} {b : Value} {n : Nat} {u : Tok}
    (F : Fr h₀ L s.heap m) (N : News h₀ L s.heap (e9 :: (D, listOf (l ++ [b]).toArray n) :: news)) (hE : e9.1 ≠ D) (hD : ∀ p ∈ news, p.1 ≠ D) (hz : l.length ≤ 1000)
    (h : ∀ h', Fr h₀ L h' m → News h₀ L h' (e9 :: (D, listOf l.toArray (n + 1)) :: news) → Q () { s with heap := h' }) : wpAny (model prog w) A (delItem (.ref D) (.int (-1) u)) Q E s := by
  refine ki_del (k := l.length) (q := l) F N (by decide) ?_ (del_last l b) (.tail hE (.head hD)) ?_ h
  · unfold seqIndex?; simp; omega
  · exact Nat.le_trans (show (l ++ [b]).toArray.toList.length ≤ 1001 by simp; omega) (by decide +kernel)
theorem del_last_w1 {prog : Program} {w : World} {A : Around} {E : Value → Shared → Prop} {s : Shared} {Q : Unit → Shared → Prop} {h₀ : Heap} {L : Addr} {m : Str → Option Value} {news : List (Addr × Obj)} {D : Addr} {e9 : Addr × Obj} {a : Value} {l : List Value} {b : Value} {n : Nat} {u : Tok}
    (F : Fr h₀ L s.heap m) (N : News h₀ L s.heap (e9 :: (D, listOf (a :: (l ++ [b])).toArray n) :: news)) (hE : e9.1 ≠ D) (hD : ∀ p ∈ news, p.1 ≠ D) (hz : l.length ≤ 999)
    (h : ∀ h', Fr h₀ L h' m → News h₀ L h' (e9 :: (D, listOf (a :: l).toArray (n + 1)) :: news) → Q () { s with heap := h' }) : wpAny (model prog w) A (delItem (.ref D) (.int (-1) u)) Q E s :=
  del_last_w (l := a :: l) F N hE hD (by rw [List.length_cons]; omega) h
theorem ne_all {news : List (Addr × Obj)} {D : Addr} (h : ∀ p ∈ news, p.1 < D) : ∀ p ∈ news, p.1 ≠ D := fun p hp => Nat.ne_of_lt (h p hp)
theorem sz_news {h₀ h : Heap} {L D : Addr} {news : List (Addr × Obj)} {a b : Value} {l : List Value} {n : Nat} (_ : News h₀ L h ((D, listOf (a :: (l ++ [b])).toArray n) :: news)) : 2 ≤ (((a :: (l ++ [b])).toArray.size : Nat) : Int) := by simp; omega
theorem strs_get {vs : List Value} {ws : List Str} (h : StrsAre vs ws) : ∀ {i : Nat} {v : Value}, vs[i]? = some v → ∃ z t, v = .str z t ∧ z ∈ ws ∧ ws.drop i = z :: ws.drop (i + 1) := by
  induction h with
  | nil => intro i v hv; simp at hv
  | cons y t hr ih =>
    intro i v hv
    cases i with
    | zero => exact ⟨y, t, (Option.some.inj hv).symm, .head _, rfl⟩
    | succ i => obtain ⟨z, t', e, hm, hd⟩ := ih (i := i) hv; exact ⟨z, t', e, .tail _ hm, hd⟩
theorem strs_len {vs : List Value} {ws : List Str} (h : StrsAre vs ws) : vs.length = ws.length := by
  induction h with
  | nil => rfl
  | cons _ _ _ ih => simp [ih]
/-- between the turns of the loop over the pieces: the rest of the pieces answer r from here -/
def ellJ (y : Str) (e : Int) (ws : List Str) (r : Bool) (led : List (Addr × Obj)) (i : Nat) (m₁ : Str → Option Value) (led₁ : List (Addr × Obj)) : Prop :=
  ∃ st t ty te, m₁ (Str.ofString "got") = some (.str y ty) ∧ m₁ (Str.ofString "startpos") = some (.int st t) ∧ m₁ (Str.ofString "endpos") = some (.int e te) ∧ led₁ = led ∧ ellLoop y e (ws.drop i) st = r
theorem pin3 {m : Str → Option Value} {x1 x2 x3 : Str} {v1 v2 v3 : Value} (h1 : m x1 = some v1) (h2 : m x2 = some v2) (h3 : m x3 = some v3) :
    m = fun y => if y = x1 then some v1 else if y = x2 then some v2 else if y = x3 then some v3 else m y := by
  funext y
  split
  · rename_i h; subst h; exact h1
  split
  · rename_i h; subst h; exact h2
  split
  · rename_i h; subst h; exact h3
  rfl
theorem ell_all1 {p q : Str} {mid : List Str} (h : ∀ z ∈ p :: (mid ++ [q]), z.length ≤ 1000) : ∀ z ∈ p :: (mid ++ [q]), z.length ≤ 1000 := h
theorem ell_all2 {p q : Str} {mid : List Str} (h : ∀ z ∈ p :: (mid ++ [q]), z.length ≤ 1000) : ∀ z ∈ mid ++ [q], z.length ≤ 1000 := fun z hz => h z (.tail _ hz)
theorem ell_all3 {p q : Str} {mid : List Str} (h : ∀ z ∈ p :: (mid ++ [q]), z.length ≤ 1000) : ∀ z ∈ p :: mid, z.length ≤ 1000 := fun z hz => h z (by
  rcases List.mem_cons.mp hz with e | e
  · exact e ▸ .head _
  · exact .tail _ (List.mem_append_left _ e))
theorem ell_all4 {p q : Str} {mid : List Str} (h : ∀ z ∈ p :: (mid ++ [q]), z.length ≤ 1000) : ∀ z ∈ mid, z.length ≤ 1000 := fun z hz => h z (.tail _ (List.mem_append_left _ hz))
theorem ell_iter {prog : Program} {w : World} {A : Around} {E : Value → Shared → Prop} {s : Shared} {env : Env} {h₀ : Heap} {x : Str} {body : List Stmt} {Q : Flow → Shared → Prop}
    {ax : Addr} {vs : List Value} {nn : Nat} {m : Str → Option Value} {news : List (Addr × Obj)} {ws : List Str} {y : Str} {e st : Int} {t ty te : Tok} {r : Bool}
    (hh : A.handled = none) (F : Fr h₀ env.locals s.heap m) (N : News h₀ env.locals s.heap news) (hm : (ax, listOf vs.toArray nn) ∈ news) (sa : StrsAre vs ws)
    (h1 : m (Str.ofString "got") = some (.str y ty)) (h2 : m (Str.ofString "startpos") = some (.int st t)) (h3 : m (Str.ofString "endpos") = some (.int e te)) (hr : ellLoop y e ws st = r) (hlen : ∀ z ∈ ws, z.length ≤ 1000)
    (turn : ∀ (I : Addr) (i : Nat) (z : Str) (tz : Tok) (m₁ : Str → Option Value) (st : Int) (t ty te : Tok) (h : Heap) (tk : Nat) (it : Obj), (∀ p ∈ news, p.1 ≠ I) → z.length ≤ 1000 → ellLoop y e (z :: ws.drop (i + 1)) st = r →
      Fr h₀ env.locals h (fun k => if k = x then some (.str z tz) else if k = Str.ofString "got" then some (.str y ty) else if k = Str.ofString "startpos" then some (.int st t) else if k = Str.ofString "endpos" then some (.int e te) else m₁ k) → News h₀ env.locals h ((I, it) :: news) →
      wpAny (model prog w) A (execs body env) (TurnPost h₀ env.locals I it (ellJ y e ws r news (i + 1)) { s with heap := h, toks := tk } Q) E { s with heap := h, toks := tk })
    (done : ∀ m₁ h tk, r = true → Fr h₀ env.locals h m₁ → News h₀ env.locals h news → Q .next { s with heap := h, toks := tk }) :
    wpAny (model prog w) A (pyIter (.ref ax)) (fun it s₂ => LoopAtV prog w A h₀ env x body Q E it s₂) E s := by
  refine iter_listInv hh F N hm (ellJ y e ws r news) ⟨st, t, ty, te, h1, h2, h3, rfl, hr⟩ ?_ ?_ ?_
  · rintro i m₁ led ⟨_, _, _, _, _, _, _, rfl, _⟩
    exact hm
  · rintro I i v m₁ led h tk it hlt hi hv ⟨st, t, ty, te, h1, h2, h3, rfl, hj⟩ hne Ft Nt
    obtain ⟨z, tz, rfl, hz, hd⟩ := strs_get sa hv
    rw [pin3 h1 h2 h3] at Ft
    rw [hd] at hj
    exact turn I i z tz m₁ st t ty te h tk it hne (hlen z hz) hj Ft Nt
  · rintro m₁ led h tk ⟨st, t, ty, te, h1, h2, h3, rfl, hj⟩ Ft Nt
    rw [strs_len sa, List.drop_length] at hj
    exact done m₁ h tk hj.symm Ft Nt
theorem ell_go {y z : Str} {e st : Int} {ws : List Str} {r : Bool} (h : ellLoop y e (z :: ws) st = r) (hn : ¬ find4 y z st e < 0) : ellLoop y e ws (find4 y z st e + z.length) = r := by
  unfold ellLoop at h; rw [if_neg hn] at h; exact h
theorem ell_stop {y z : Str} {e st : Int} {ws : List Str} {r : Bool} (h : ellLoop y e (z :: ws) st = r) (hn : find4 y z st e < 0) : r = false := by
  unfold ellLoop at h; rw [if_pos hn] at h; exact h.symm
section
variable {w : World} {p : Program} {loose : List Str} {mean : ExcName → Option Value} {mg mb : Str → Option Value}
    {dp un : Nat} {gd : Option (List Code)} {cn : Str} {cs : Scope} {a : Addr} {ccd : Value} {cl : List (Str × Addr)} {outer : List Env} {A₀ : Around} {base h₀ : Heap} {L : Addr} {m : Str → Option Value} {s : Shared} {Q E : Value → Shared → Prop}
    {g : List (Addr × Obj) → List (Addr × Obj)} {rest led news : List (Addr × Obj)}
theorem ellipsis_1 {x y : Str} {tx ty : Tok}
    (B : Below A₀ base outer h₀) (F : Fr h₀ L s.heap m) (X : (Mine.hd.heap_39 w.params).In h₀)
    (N : News h₀ L s.heap news) (T : Top p loose mean mg mb h₀) (hk : cs.kind = .function) (hd : dp + 90 < recursionLimit) (hu : un + 750 < cLine)
    (hx : x.length ≤ 1000) (hy : y.length ≤ 1000)
    (hin : (Builtin.Str.occurrences x (Str.ofString "...") 0 x.length 1).isEmpty = true)
    {r : Bool} (hr : (x == y) = r)
    (hret : ∀ h' tk', Fr h₀ L h' m → News h₀ L h' news → Q (.bool r) { s with heap := h', toks := tk' }) :
    wpAny (model PySem.Challenge.rw_ti0020_01.row.prog w) (ktrTop dp un gd cn cs L a ccd cl outer) (call (.ref 63) [.str x tx, .str y ty]) Q E s := by
  (rename Frag.In _ _ => Xfill; revert Xfill; k_fill; intro Xfill)
  refine wpAny_call ?_
  k_dflt cell_enter
  rename_i g' L' h' FG' F' N' B' X' T'
  clear N FG'
  replace F' : Fr g' L' h' (fun z => ([(Str.ofString "got", Value.str y ty), (Str.ofString "want", Value.str x tx)] : List (Str × Value)).lookup z) := F'
  k_steps
  rename_i kF kN _ _
  rw [hr]
  exact hret _ _ kF kN
local macro_rules | `(tactic| wtm_at "t4") => `(tactic| (intro D9 l9 h9 k9 e9 a9 F9 N9 l1; (rename Txt.split _ _ = _ => hsp9); (rw [e9, hsp9] at a9); (obtain ⟨tp9, vm9, tq9, hv9, hm9, sz9⟩ := strs_ends a9); (rw [hv9] at N9); (clear e9 a9 hv9); (have hD9 := ne_all l1); (have sz8 := sz_news N9); (try k_sweep)))
theorem ellipsis_gen {x y p₁ p₂ : Str} {mid : List Str} {tx ty : Tok}
    (B : Below A₀ base outer h₀) (F : Fr h₀ L s.heap m) (X : (Mine.hd.heap_39 w.params).In h₀)
    (N : News h₀ L s.heap news) (T : Top p loose mean mg mb h₀) (hk : cs.kind = .function) (hd : dp + 90 < recursionLimit) (hu : un + 750 < cLine)
    (hx : x.length ≤ 1000) (hy : y.length ≤ 1000) (hsp : Txt.split x (Str.ofString "...") = p₁ :: (mid ++ [p₂])) (hp : p₁.length ≤ 1000) (hq : p₂.length ≤ 1000) (hall : ∀ z ∈ p₁ :: (mid ++ [p₂]), z.length ≤ 1000) (hml : mid.length ≤ 100)
    (hin : (Builtin.Str.occurrences x (Str.ofString "...") 0 x.length 1).isEmpty = false)
    {r : Bool} (hr : ellM y p₁ mid p₂ = r)
    (hret : ∀ h' tk', Fr h₀ L h' m → News h₀ L h' news → Q (.bool r) { s with heap := h', toks := tk' }) :
    wpAny (model PySem.Challenge.rw_ti0020_01.row.prog w) (ktrTop dp un gd cn cs L a ccd cl outer) (call (.ref 63) [.str x tx, .str y ty]) Q E s := by
  (rename Frag.In _ _ => Xfill; revert Xfill; k_fill; intro Xfill)
  refine wpAny_call ?_
  k_dflt cell_enter
  rename_i g' L' h' FG' F' N' B' X' T'
  clear N FG'
  have hx2 : x.length + 2 ≤ sizeLine := Nat.le_trans (Nat.add_le_add_right hx 2) (by decide +kernel)
  replace F' : Fr g' L' h' (fun z => ([(Str.ofString "got", Value.str y ty), (Str.ofString "want", Value.str x tx)] : List (Str × Value)).lookup z) := F'
  (repeat' ((fail_if_success (with_reducible show wpAny _ _ (exec (PySem.Stmt.For _ _ _ _ _) _) _ _ _)); first | (k_unfold; (try dsimp only)) | (k_end; wrow_close) | with_reducible (first | ((with_reducible show wpAny _ _ (call _ _) _ _ _); first | (k_here; (with_reducible show wpAny _ _ (call (Value.builtin "str.split") _) _ _ _); k_dflt (refine' KSpl.split1 ?j1 ?j2 ?j3 ?_ ?j4; (case j1 => k_asm); (case j2 => k_asm); (case j3 => exact rfl); (case j4 => with_reducible assumption)); wtm_at "t4") | (k_here; (with_reducible show wpAny _ _ (call (Value.builtin "len") [Value.ref _]) _ _ _); k_dflt (refine' len_L ?j1 ?j2 ?j3 ?_; (case j1 => k_asm); (case j2 => exact .head _); (case j3 => (simp only [List.size_toArray, List.length_cons, List.length_append, List.length_nil]; omega))))) | (k_here; (with_reducible show wpAny _ _ (subscriptTail (PySem.Expr.Name ..) (PySem.Expr.UnaryOp ..) (Value.ref _) (Value.int _ _)) _ _ _); k_dflt (refine' item_last_e ?N ?z ?x ?_ ?s ?g; (case N => with_reducible assumption); (case x => first | exact arr_last1 _ _ _ | exact arr_last2 _ _); (case z => (simp only [List.size_toArray, List.length_cons, List.length_append, List.length_nil]; omega)); (case s => with_unfolding_all rfl); (case g => (intro _; with_unfolding_all rfl)))) | (k_here; (with_reducible show wpAny _ _ (delItem (Value.ref _) (Value.int _ _)) _ _ _); k_dflt (first | ((with_reducible show wpAny _ _ (delItem _ (Value.int 0 _)) _ _ _); refine' del_first_w ?F ?N ?e ?D ?z ?_; (case F => with_reducible assumption); (case N => with_reducible assumption); (case e => (show @Ne Nat _ _; (try dsimp only); omega)); (case D => with_reducible assumption); (case z => ((try simp only [List.length_cons, List.length_append, List.length_nil]); omega))) | ((with_reducible show wpAny _ _ (delItem _ (Value.int (-1) _)) _ _ _); refine' del_last_w1 ?F ?N ?e ?D ?z ?_; (case F => with_reducible assumption); (case N => with_reducible assumption); (case e => (show @Ne Nat _ _; (try dsimp only); omega)); (case D => with_reducible assumption); (case z => ((try simp only [List.length_cons, List.length_append, List.length_nil]); omega))) | ((with_reducible show wpAny _ _ (delItem _ (Value.int (-1) _)) _ _ _); refine' del_last_w ?F ?N ?e ?D ?z ?_; (case F => with_reducible assumption); (case N => with_reducible assumption); (case e => (show @Ne Nat _ _; (try dsimp only); omega)); (case D => with_reducible assumption); (case z => ((try simp only [List.length_cons, List.length_append, List.length_nil]); omega)))); intro _ _ _; (try dsimp only)) | (k_here; (with_reducible show wpAny _ _ (truthy (Value.str _ _)) _ _ _); (refine' truthy_S ?b ?p1 ?p2; (case b => with_reducible assumption)); (case' p1 => intro _); (case' p2 => intro _))) | ((with_reducible show wpAny _ _ (call _ _) _ _ _); first | (k_here; (with_reducible show wpAny _ _ (call (Value.builtin "str.split") _) _ _ _); k_dflt (refine' KSpl.split1 ?j1 ?j2 ?j3 ?_ ?j4; (case j1 => k_asm); (case j2 => k_asm); (case j3 => exact rfl); (case j4 => with_reducible assumption)); wtm_at "t4") | (k_here; (with_reducible show wpAny _ _ (call (Value.builtin "len") [Value.ref _]) _ _ _); k_dflt (refine' len_L ?j1 ?j2 ?j3 ?_; (case j1 => k_asm); (case j2 => exact .head _); (case j3 => (simp only [List.size_toArray, List.length_cons, List.length_append, List.length_nil]; omega))))) | (k_here; (with_reducible show wpAny _ _ (subscriptTail (PySem.Expr.Name ..) (PySem.Expr.UnaryOp ..) (Value.ref _) (Value.int _ _)) _ _ _); k_dflt (refine' item_last_e ?N ?z ?x ?_ ?s ?g; (case N => with_reducible assumption); (case x => first | exact arr_last1 _ _ _ | exact arr_last2 _ _); (case z => (simp only [List.size_toArray, List.length_cons, List.length_append, List.length_nil]; omega)); (case s => with_unfolding_all rfl); (case g => (intro _; with_unfolding_all rfl)))) | (k_here; (with_reducible show wpAny _ _ (delItem (Value.ref _) (Value.int _ _)) _ _ _); k_dflt (first | ((with_reducible show wpAny _ _ (delItem _ (Value.int 0 _)) _ _ _); refine' del_first_w ?F ?N ?e ?D ?z ?_; (case F => with_reducible assumption); (case N => with_reducible assumption); (case e => (show @Ne Nat _ _; (try dsimp only); omega)); (case D => with_reducible assumption); (case z => ((try simp only [List.length_cons, List.length_append, List.length_nil]); omega))) | ((with_reducible show wpAny _ _ (delItem _ (Value.int (-1) _)) _ _ _); refine' del_last_w1 ?F ?N ?e ?D ?z ?_; (case F => with_reducible assumption); (case N => with_reducible assumption); (case e => (show @Ne Nat _ _; (try dsimp only); omega)); (case D => with_reducible assumption); (case z => ((try simp only [List.length_cons, List.length_append, List.length_nil]); omega))) | ((with_reducible show wpAny _ _ (delItem _ (Value.int (-1) _)) _ _ _); refine' del_last_w ?F ?N ?e ?D ?z ?_; (case F => with_reducible assumption); (case N => with_reducible assumption); (case e => (show @Ne Nat _ _; (try dsimp only); omega)); (case D => with_reducible assumption); (case z => ((try simp only [List.length_cons, List.length_append, List.length_nil]); omega)))); intro _ _ _; (try dsimp only)) | (k_here; (with_reducible show wpAny _ _ (truthy (Value.str _ _)) _ _ _); (refine' truthy_S ?b ?p1 ?p2; (case b => with_reducible assumption)); (case' p1 => intro _); (case' p2 => intro _)) | walk1 | (dsimp only; first | with_reducible (first | ((with_reducible show wpAny _ _ (call _ _) _ _ _); first | (k_here; (with_reducible show wpAny _ _ (call (Value.builtin "str.split") _) _ _ _); k_dflt (refine' KSpl.split1 ?j1 ?j2 ?j3 ?_ ?j4; (case j1 => k_asm); (case j2 => k_asm); (case j3 => exact rfl); (case j4 => with_reducible assumption)); wtm_at "t4") | (k_here; (with_reducible show wpAny _ _ (call (Value.builtin "len") [Value.ref _]) _ _ _); k_dflt (refine' len_L ?j1 ?j2 ?j3 ?_; (case j1 => k_asm); (case j2 => exact .head _); (case j3 => (simp only [List.size_toArray, List.length_cons, List.length_append, List.length_nil]; omega))))) | (k_here; (with_reducible show wpAny _ _ (subscriptTail (PySem.Expr.Name ..) (PySem.Expr.UnaryOp ..) (Value.ref _) (Value.int _ _)) _ _ _); k_dflt (refine' item_last_e ?N ?z ?x ?_ ?s ?g; (case N => with_reducible assumption); (case x => first | exact arr_last1 _ _ _ | exact arr_last2 _ _); (case z => (simp only [List.size_toArray, List.length_cons, List.length_append, List.length_nil]; omega)); (case s => with_unfolding_all rfl); (case g => (intro _; with_unfolding_all rfl)))) | (k_here; (with_reducible show wpAny _ _ (delItem (Value.ref _) (Value.int _ _)) _ _ _); k_dflt (first | ((with_reducible show wpAny _ _ (delItem _ (Value.int 0 _)) _ _ _); refine' del_first_w ?F ?N ?e ?D ?z ?_; (case F => with_reducible assumption); (case N => with_reducible assumption); (case e => (show @Ne Nat _ _; (try dsimp only); omega)); (case D => with_reducible assumption); (case z => ((try simp only [List.length_cons, List.length_append, List.length_nil]); omega))) | ((with_reducible show wpAny _ _ (delItem _ (Value.int (-1) _)) _ _ _); refine' del_last_w1 ?F ?N ?e ?D ?z ?_; (case F => with_reducible assumption); (case N => with_reducible assumption); (case e => (show @Ne Nat _ _; (try dsimp only); omega)); (case D => with_reducible assumption); (case z => ((try simp only [List.length_cons, List.length_append, List.length_nil]); omega))) | ((with_reducible show wpAny _ _ (delItem _ (Value.int (-1) _)) _ _ _); refine' del_last_w ?F ?N ?e ?D ?z ?_; (case F => with_reducible assumption); (case N => with_reducible assumption); (case e => (show @Ne Nat _ _; (try dsimp only); omega)); (case D => with_reducible assumption); (case z => ((try simp only [List.length_cons, List.length_append, List.length_nil]); omega)))); intro _ _ _; (try dsimp only)) | (k_here; (with_reducible show wpAny _ _ (truthy (Value.str _ _)) _ _ _); (refine' truthy_S ?b ?p1 ?p2; (case b => with_reducible assumption)); (case' p1 => intro _); (case' p2 => intro _))) | ((with_reducible show wpAny _ _ (call _ _) _ _ _); first | (k_here; (with_reducible show wpAny _ _ (call (Value.builtin "str.split") _) _ _ _); k_dflt (refine' KSpl.split1 ?j1 ?j2 ?j3 ?_ ?j4; (case j1 => k_asm); (case j2 => k_asm); (case j3 => exact rfl); (case j4 => with_reducible assumption)); wtm_at "t4") | (k_here; (with_reducible show wpAny _ _ (call (Value.builtin "len") [Value.ref _]) _ _ _); k_dflt (refine' len_L ?j1 ?j2 ?j3 ?_; (case j1 => k_asm); (case j2 => exact .head _); (case j3 => (simp only [List.size_toArray, List.length_cons, List.length_append, List.length_nil]; omega))))) | (k_here; (with_reducible show wpAny _ _ (subscriptTail (PySem.Expr.Name ..) (PySem.Expr.UnaryOp ..) (Value.ref _) (Value.int _ _)) _ _ _); k_dflt (refine' item_last_e ?N ?z ?x ?_ ?s ?g; (case N => with_reducible assumption); (case x => first | exact arr_last1 _ _ _ | exact arr_last2 _ _); (case z => (simp only [List.size_toArray, List.length_cons, List.length_append, List.length_nil]; omega)); (case s => with_unfolding_all rfl); (case g => (intro _; with_unfolding_all rfl)))) | (k_here; (with_reducible show wpAny _ _ (delItem (Value.ref _) (Value.int _ _)) _ _ _); k_dflt (first | ((with_reducible show wpAny _ _ (delItem _ (Value.int 0 _)) _ _ _); refine' del_first_w ?F ?N ?e ?D ?z ?_; (case F => with_reducible assumption); (case N => with_reducible assumption); (case e => (show @Ne Nat _ _; (try dsimp only); omega)); (case D => with_reducible assumption); (case z => ((try simp only [List.length_cons, List.length_append, List.length_nil]); omega))) | ((with_reducible show wpAny _ _ (delItem _ (Value.int (-1) _)) _ _ _); refine' del_last_w1 ?F ?N ?e ?D ?z ?_; (case F => with_reducible assumption); (case N => with_reducible assumption); (case e => (show @Ne Nat _ _; (try dsimp only); omega)); (case D => with_reducible assumption); (case z => ((try simp only [List.length_cons, List.length_append, List.length_nil]); omega))) | ((with_reducible show wpAny _ _ (delItem _ (Value.int (-1) _)) _ _ _); refine' del_last_w ?F ?N ?e ?D ?z ?_; (case F => with_reducible assumption); (case N => with_reducible assumption); (case e => (show @Ne Nat _ _; (try dsimp only); omega)); (case D => with_reducible assumption); (case z => ((try simp only [List.length_cons, List.length_append, List.length_nil]); omega)))); intro _ _ _; (try dsimp only)) | (k_here; (with_reducible show wpAny _ _ (truthy (Value.str _ _)) _ _ _); (refine' truthy_S ?b ?p1 ?p2; (case b => with_reducible assumption)); (case' p1 => intro _); (case' p2 => intro _)) | walk1) | (leave1; (try dsimp only)) | fail "no step"))
  all_goals try ((rename Fr _ _ _ _ => kF9; rename News _ _ _ _ => kN9; rename ellM _ _ _ _ = _ => hr9; rename ∀ _ _, Fr _ _ _ _ → _ → _ => hret9; refine (show _ = false from hr9.symm.trans ?_) ▸ hret9 _ _ kF9 (fun p hp => kN9 p (.tail _ (.tail _ hp))); ((unfold ellM ellEnd ellFin; (try simp only [drop_ends, List.dropLast_concat]); (repeat' split) <;> first | rfl | (exfalso; first | omega | contradiction | (rename Txt.endswith _ _ = false => q1; rename Txt.endswith _ _ = true => q2; exact absurd (q2.symm.trans q1) (by decide)) | (rename Txt.startswith _ _ = false => q1; rename Txt.startswith _ _ = true => q2; exact absurd (q2.symm.trans q1) (by decide)))))))
  all_goals try ((k_here; (rename Fr _ _ _ _ => lF'); (with_unfolding_all refine' For_invVF lF' ?k1 ?k2 ?_; (case k1 => exact rfl); (case k2 => exact rfl); k_whole); walk1; (try dsimp only); (rename News _ _ _ _ => lN'); rename ellM _ _ _ _ = _ => hr9; refine' ell_iter rfl lF' lN' ?hm ?sa rfl rfl rfl (Eq.trans ?q0 hr9) ?hlen ?_ ?_; (case hm => first | exact .head _ | exact .tail _ (.head _) | exact .tail _ (.tail _ (.head _))); (case sa => first | exact .cons _ _ (strs_app (by with_reducible assumption) (.cons _ _ .nil)) | exact strs_app (by with_reducible assumption) (.cons _ _ .nil) | exact .cons _ _ (by with_reducible assumption) | with_reducible assumption); (case hlen => first | (exact ell_all1 (by with_reducible assumption)) | (exact ell_all2 (by with_reducible assumption)) | (exact ell_all3 (by with_reducible assumption)) | (exact ell_all4 (by with_reducible assumption))); (case q0 => (symm; ((unfold ellM ellEnd ellFin; (try simp only [drop_ends, List.dropLast_concat]); (repeat' split) <;> first | rfl | (exfalso; first | omega | contradiction | (rename Txt.endswith _ _ = false => q1; rename Txt.endswith _ _ = true => q2; exact absurd (q2.symm.trans q1) (by decide)) | (rename Txt.startswith _ _ = false => q1; rename Txt.startswith _ _ = true => q2; exact absurd (q2.symm.trans q1) (by decide)))))))))
  all_goals (first | ((intro I9 i9 z9 tz9 m9 st9 t9 ty9 te9 h9 tk9 it9 hne9 hz9 hj9 Ft9 Nt9; (change Fr _ _ h9 _ at Ft9); (change News _ _ h9 _ at Nt9); dsimp only;(repeat' (first | (k_unfold; (try dsimp only)) | (k_end; wrow_close) | with_reducible (first | (k_here; (with_reducible show wpAny _ _ (call (Value.builtin "str.find") _) _ _ _); refine call_find4 ?_)) | (k_here; (with_reducible show wpAny _ _ (call (Value.builtin "str.find") _) _ _ _); refine call_find4 ?_) | walk1 | (dsimp only; first | with_reducible (first | (k_here; (with_reducible show wpAny _ _ (call (Value.builtin "str.find") _) _ _ _); refine call_find4 ?_)) | (k_here; (with_reducible show wpAny _ _ (call (Value.builtin "str.find") _) _ _ _); refine call_find4 ?_) | walk1) | (leave1; (try dsimp only)) | fail "no step")))) | ((intro m9 h9 tk9 hr9 Ft9 Nt9; (change Fr _ _ h9 _ at Ft9); (change News _ _ h9 _ at Nt9); dsimp only; k_steps; rename Fr _ _ _ _ => kF9; rename News _ _ _ _ => kN9; rename ∀ _ _, Fr _ _ _ _ → _ → _ => hret9; exact hr9 ▸ hret9 _ _ kF9 (fun p hp => kN9 p (.tail _ (.tail _ hp))))) | skip)
  all_goals dsimp only [TurnPost]
  all_goals first | ((rename Fr _ _ _ _ => Fe9; rename News _ _ _ _ => Ne9; rename ∀ (p : Addr × Obj), p ∈ (_ : List (Addr × Obj)) → p.1 ≠ _ => hne9; rename ellLoop _ _ (_ :: _) _ = _ => hj9; rename ¬ (find4 _ _ _ _ < 0) => hn9; exact TurnEnd.intro Fe9 Ne9 hne9 ⟨_, _, _, _, rfl, rfl, rfl, rfl, ell_go hj9 hn9⟩)) | ((rename ellLoop _ _ (_ :: _) _ = _ => hj9; rename find4 _ _ _ _ < 0 => hn9; k_steps; rename Fr _ _ _ _ => kF9; rename News _ _ _ _ => kN9; rename ∀ _ _, Fr _ _ _ _ → _ → _ => hret9; exact (ell_stop hj9 hn9) ▸ hret9 _ _ kF9 (fun p hp => kN9 p (.tail _ (.tail _ (.tail _ hp))))))
theorem ellipsis_2 {x y p₁ p₂ : Str} {tx ty : Tok}
    (B : Below A₀ base outer h₀) (F : Fr h₀ L s.heap m) (X : (Mine.hd.heap_39 w.params).In h₀)
    (N : News h₀ L s.heap news) (T : Top p loose mean mg mb h₀) (hk : cs.kind = .function) (hd : dp + 90 < recursionLimit) (hu : un + 750 < cLine)
    (hx : x.length ≤ 1000) (hy : y.length ≤ 1000) (hsp : Txt.split x (Str.ofString "...") = [p₁, p₂]) (hp1 : p₁.length ≤ 1000) (hp2 : p₂.length ≤ 1000)
    (hin : (Builtin.Str.occurrences x (Str.ofString "...") 0 x.length 1).isEmpty = false)
    {r : Bool} (hr : ellM y p₁ [] p₂ = r)
    (hret : ∀ h' tk', Fr h₀ L h' m → News h₀ L h' news → Q (.bool r) { s with heap := h', toks := tk' }) :
    wpAny (model PySem.Challenge.rw_ti0020_01.row.prog w) (ktrTop dp un gd cn cs L a ccd cl outer) (call (.ref 63) [.str x tx, .str y ty]) Q E s :=
  ellipsis_gen (mid := []) B F X N T hk hd hu hx hy hsp hp1 hp2 (List.forall_mem_cons.mpr ⟨hp1, List.forall_mem_cons.mpr ⟨hp2, fun _ h => absurd h List.not_mem_nil⟩⟩) (by decide) hin hr hret
theorem ellipsis_3 {x y p₁ p₂ p₃ : Str} {tx ty : Tok}
    (B : Below A₀ base outer h₀) (F : Fr h₀ L s.heap m) (X : (Mine.hd.heap_39 w.params).In h₀)
    (N : News h₀ L s.heap news) (T : Top p loose mean mg mb h₀) (hk : cs.kind = .function) (hd : dp + 90 < recursionLimit) (hu : un + 750 < cLine)
    (hx : x.length ≤ 1000) (hy : y.length ≤ 1000) (hsp : Txt.split x (Str.ofString "...") = [p₁, p₂, p₃]) (hp1 : p₁.length ≤ 1000) (hp2 : p₂.length ≤ 1000) (hp3 : p₃.length ≤ 1000)
    (hin : (Builtin.Str.occurrences x (Str.ofString "...") 0 x.length 1).isEmpty = false)
    {r : Bool} (hr : ellM y p₁ [p₂] p₃ = r)
    (hret : ∀ h' tk', Fr h₀ L h' m → News h₀ L h' news → Q (.bool r) { s with heap := h', toks := tk' }) :
    wpAny (model PySem.Challenge.rw_ti0020_01.row.prog w) (ktrTop dp un gd cn cs L a ccd cl outer) (call (.ref 63) [.str x tx, .str y ty]) Q E s :=
  ellipsis_gen (mid := [p₂]) B F X N T hk hd hu hx hy hsp hp1 hp3 (List.forall_mem_cons.mpr ⟨hp1, List.forall_mem_cons.mpr ⟨hp2, List.forall_mem_cons.mpr ⟨hp3, fun _ h => absurd h List.not_mem_nil⟩⟩⟩) (by simp) hin hr hret
theorem ellipsis_4 {x y p₁ p₂ p₃ p₄ : Str} {tx ty : Tok}
    (B : Below A₀ base outer h₀) (F : Fr h₀ L s.heap m) (X : (Mine.hd.heap_39 w.params).In h₀)
    (N : News h₀ L s.heap news) (T : Top p loose mean mg mb h₀) (hk : cs.kind = .function) (hd : dp + 90 < recursionLimit) (hu : un + 750 < cLine)
    (hx : x.length ≤ 1000) (hy : y.length ≤ 1000) (hsp : Txt.split x (Str.ofString "...") = [p₁, p₂, p₃, p₄]) (hp1 : p₁.length ≤ 1000) (hp2 : p₂.length ≤ 1000) (hp3 : p₃.length ≤ 1000) (hp4 : p₄.length ≤ 1000)
    (hin : (Builtin.Str.occurrences x (Str.ofString "...") 0 x.length 1).isEmpty = false)
    {r : Bool} (hr : ellM y p₁ [p₂, p₃] p₄ = r)
    (hret : ∀ h' tk', Fr h₀ L h' m → News h₀ L h' news → Q (.bool r) { s with heap := h', toks := tk' }) :
    wpAny (model PySem.Challenge.rw_ti0020_01.row.prog w) (ktrTop dp un gd cn cs L a ccd cl outer) (call (.ref 63) [.str x tx, .str y ty]) Q E s :=
  ellipsis_gen (mid := [p₂, p₃]) B F X N T hk hd hu hx hy hsp hp1 hp4 (List.forall_mem_cons.mpr ⟨hp1, List.forall_mem_cons.mpr ⟨hp2, List.forall_mem_cons.mpr ⟨hp3, List.forall_mem_cons.mpr ⟨hp4, fun _ h => absurd h List.not_mem_nil⟩⟩⟩⟩) (by simp) hin hr hret
end
end E1
theorem set_back_E1_z : True := by first | walk1 | trivial
-- O1
section O1
set_option maxRecDepth 100000
set_option maxHeartbeats 8000000
theorem set_back_O1 : True := by
  w_top off
  first | walk1 | trivial
theorem hasattr_strK {prog : Program} {w : World} {A : Around} {E : Value → Shared → Prop} {s : Shared} {x : Str} {t u : Tok} {Q : Value → Shared → Prop} {h₀ : Heap} {L : Addr} {m : Str → Option Value} {news : List (Addr × Obj)}
    (F : Fr h₀ L s.heap m) (N : News h₀ L s.heap news) (hq : ∀ h', Fr h₀ L h' m → News h₀ L h' news → Q (.bool true) { s with heap := h' }) :
    wpAny (model prog w) A (call (.builtin "hasattr") [.str x t, .str (Str.ofString "__getitem__") u]) Q E s :=
  hasattr_str fun _ => hq _ (F.push _) fun p hp => ⟨Heap.get?_push_of_some _ (N p hp).1, (N p hp).2⟩
theorem hasattr_listK {prog : Program} {w : World} {A : Around} {E : Value → Shared → Prop} {s : Shared} {ax : Addr} {xs : Array Value} {k : Nat} {u : Tok} {Q : Value → Shared → Prop} {h₀ : Heap} {L : Addr} {m : Str → Option Value} {news : List (Addr × Obj)}
    (F : Fr h₀ L s.heap m) (N : News h₀ L s.heap news) (hm : (ax, listOf xs k) ∈ news) (hq : ∀ h', Fr h₀ L h' m → News h₀ L h' news → Q (.bool true) { s with heap := h' }) :
    wpAny (model prog w) A (call (.builtin "hasattr") [.ref ax, .str (Str.ofString "__getitem__") u]) Q E s :=
  hasattr_list (N _ hm).1 rfl rfl ⟨_, _, rfl⟩ fun _ => hq _ (F.push _) fun p hp => ⟨Heap.get?_push_of_some _ (N p hp).1, (N p hp).2⟩
theorem addL {prog : Program} {w : World} {A : Around} {E : Value → Shared → Prop} {s : Shared} {Q : Value → Shared → Prop} {h₀ : Heap} {L : Addr} {m : Str → Option Value} {news : List (Addr × Obj)} {x y : Addr} {vs us : List Value} {i j : Nat}
    (F : Fr h₀ L s.heap m) (N : News h₀ L s.heap news) (hx : (x, listOf vs.toArray i) ∈ news) (hy : (y, listOf us.toArray j) ∈ news) (hz : vs.length + us.length ≤ sizeLine)
    (hq : ∀ D h', Fr h₀ L h' m → News h₀ L h' ((D, listOf (vs ++ us).toArray 0) :: news) → (∀ p ∈ news, p.1 < D) → Q (.ref D) { s with heap := h' }) :
    wpAny (model prog w) A (binaryOp .Add (.ref x) (.ref y)) Q E s :=
  add_lists (hsz := hz) F N (PySem.IsL.isList (n := i) (N _ hx).1) (PySem.IsL.isList (n := j) (N _ hy).1) fun h' F' N' => hq _ h' F' N' fun p hp => Heap.lt_size (N p hp).1
section
variable {w : World} {p : Program} {loose : List Str} {mean : ExcName → Option Value} {mg mb : Str → Option Value}
    {dp un : Nat} {gd : Option (List Code)} {cn : Str} {cs : Scope} {a : Addr} {ccd : Value} {cl : List (Str × Addr)} {outer : List Env} {A₀ : Around} {base h₀ : Heap} {L : Addr} {m : Str → Option Value} {s : Shared} {Q E : Value → Shared → Prop}
    {g : List (Addr × Obj) → List (Addr × Obj)} {rest led news : List (Addr × Obj)}
theorem op_lshift {x y : Int} {tx ty : Tok}
    (B : Below A₀ base outer h₀) (F : Fr h₀ L s.heap m) (X : (Mine.hd.heap_39 w.params).In h₀)
    (N : News h₀ L s.heap news) (T : Top p loose mean mg mb h₀) (hk : cs.kind = .function) (hd : dp + 20 < recursionLimit) (hu : un + 200 < cLine)
    (hy : 0 ≤ y) (hz : (Builtin.Int.intBits x : Int) + y ≤ 2 ^ 27)
    (hret : ∀ h' tk' t, Fr h₀ L h' m → News h₀ L h' news → Q (.int (x * 2 ^ y.toNat) t) { s with heap := h', toks := tk' }) :
    wpAny (model PySem.Challenge.rw_ti0020_01.row.prog w) (ktrTop dp un gd cn cs L a ccd cl outer) (call (.ref 70) [.int x tx, .int y ty]) Q E s := by
  (rename Frag.In _ _ => Xfill; revert Xfill; k_fill; intro Xfill)
  refine wpAny_call ?_
  k_dflt cell_enter
  rename_i g' L' h' FG' F' N' B' X' T'
  clear N FG'
  (repeat' (first | (k_unfold; (try dsimp only)) | (k_end; wrow_close) | with_reducible (first | (k_here; (with_reducible show wpAny _ _ (binaryOp Operator.LShift (Value.int _ _) (Value.int _ _)) _ _ _); refine lshift_int ?ha9 ?hb9 ?_; (case ha9 => with_reducible assumption); (case hb9 => with_reducible assumption))) | (k_here; (with_reducible show wpAny _ _ (binaryOp Operator.LShift (Value.int _ _) (Value.int _ _)) _ _ _); refine lshift_int ?ha9 ?hb9 ?_; (case ha9 => with_reducible assumption); (case hb9 => with_reducible assumption)) | walk1 | (dsimp only; first | with_reducible (first | (k_here; (with_reducible show wpAny _ _ (binaryOp Operator.LShift (Value.int _ _) (Value.int _ _)) _ _ _); refine lshift_int ?ha9 ?hb9 ?_; (case ha9 => with_reducible assumption); (case hb9 => with_reducible assumption))) | (k_here; (with_reducible show wpAny _ _ (binaryOp Operator.LShift (Value.int _ _) (Value.int _ _)) _ _ _); refine lshift_int ?ha9 ?hb9 ?_; (case ha9 => with_reducible assumption); (case hb9 => with_reducible assumption)) | walk1) | (leave1; (try dsimp only)) | fail "no step"))
  rename_i kF kN _ _
  exact hret _ _ _ kF kN
theorem op_or {x y : Int} {tx ty : Tok}
    (B : Below A₀ base outer h₀) (F : Fr h₀ L s.heap m) (X : (Mine.hd.heap_39 w.params).In h₀)
    (N : News h₀ L s.heap news) (T : Top p loose mean mg mb h₀) (hk : cs.kind = .function) (hd : dp + 20 < recursionLimit) (hu : un + 200 < cLine)
    (hret : ∀ h' tk' t, Fr h₀ L h' m → News h₀ L h' news → Q (.int (Builtin.bitOr x y) t) { s with heap := h', toks := tk' }) :
    wpAny (model PySem.Challenge.rw_ti0020_01.row.prog w) (ktrTop dp un gd cn cs L a ccd cl outer) (call (.ref 84) [.int x tx, .int y ty]) Q E s := by
  (rename Frag.In _ _ => Xfill; revert Xfill; k_fill; intro Xfill)
  refine wpAny_call ?_
  k_dflt cell_enter
  rename_i g' L' h' FG' F' N' B' X' T'
  clear N FG'
  k_steps
  rename_i kF kN _ _
  exact hret _ _ _ kF kN
theorem op_sub {x y : Int} {tx ty : Tok}
    (B : Below A₀ base outer h₀) (F : Fr h₀ L s.heap m) (X : (Mine.hd.heap_39 w.params).In h₀)
    (N : News h₀ L s.heap news) (T : Top p loose mean mg mb h₀) (hk : cs.kind = .function) (hd : dp + 20 < recursionLimit) (hu : un + 200 < cLine)
    (hret : ∀ h' tk' t, Fr h₀ L h' m → News h₀ L h' news → Q (.int (x - y) t) { s with heap := h', toks := tk' }) :
    wpAny (model PySem.Challenge.rw_ti0020_01.row.prog w) (ktrTop dp un gd cn cs L a ccd cl outer) (call (.ref 91) [.int x tx, .int y ty]) Q E s := by
  (rename Frag.In _ _ => Xfill; revert Xfill; k_fill; intro Xfill)
  refine wpAny_call ?_
  k_dflt cell_enter
  rename_i g' L' h' FG' F' N' B' X' T'
  clear N FG'
  k_steps
  rename_i kF kN _ _
  exact hret _ _ _ kF kN
theorem op_xor {x y : Int} {tx ty : Tok}
    (B : Below A₀ base outer h₀) (F : Fr h₀ L s.heap m) (X : (Mine.hd.heap_39 w.params).In h₀)
    (N : News h₀ L s.heap news) (T : Top p loose mean mg mb h₀) (hk : cs.kind = .function) (hd : dp + 20 < recursionLimit) (hu : un + 200 < cLine)
    (hret : ∀ h' tk' t, Fr h₀ L h' m → News h₀ L h' news → Q (.int (Builtin.bitXor x y) t) { s with heap := h', toks := tk' }) :
    wpAny (model PySem.Challenge.rw_ti0020_01.row.prog w) (ktrTop dp un gd cn cs L a ccd cl outer) (call (.ref 98) [.int x tx, .int y ty]) Q E s := by
  (rename Frag.In _ _ => Xfill; revert Xfill; k_fill; intro Xfill)
  refine wpAny_call ?_
  k_dflt cell_enter
  rename_i g' L' h' FG' F' N' B' X' T'
  clear N FG'
  k_steps
  rename_i kF kN _ _
  exact hret _ _ _ kF kN
theorem concat_str {x y : Str} {tx ty : Tok}
    (B : Below A₀ base outer h₀) (F : Fr h₀ L s.heap m) (X : (Mine.hd.heap_39 w.params).In h₀)
    (N : News h₀ L s.heap news) (T : Top p loose mean mg mb h₀) (hk : cs.kind = .function) (hd : dp + 20 < recursionLimit) (hu : un + 200 < cLine)
    (hx : x.length ≤ 1000) (hy : y.length ≤ 1000)
    (hret : ∀ h' tk' t, Fr h₀ L h' m → News h₀ L h' news → Q (.str (x ++ y) t) { s with heap := h', toks := tk' }) :
    wpAny (model PySem.Challenge.rw_ti0020_01.row.prog w) (ktrTop dp un gd cn cs L a ccd cl outer) (call (.ref 105) [.str x tx, .str y ty]) Q E s := by
  (rename Frag.In _ _ => Xfill; revert Xfill; k_fill; intro Xfill)
  refine wpAny_call ?_
  k_dflt cell_enter
  rename_i g' L' h' FG' F' N' B' X' T'
  clear N FG'
  (repeat' (first | (k_unfold; (try dsimp only)) | (k_end; wrow_close) | with_reducible (first | (k_here; (with_reducible show wpAny _ _ (call (Value.builtin "hasattr") [Value.str _ _, _]) _ _ _); k_dflt (refine' hasattr_strK ?j1 ?j2 ?_; (case j1 => k_asm); (case j2 => k_asm); k_whole); intro _ _ _; (try k_sweep))) | (k_here; (with_reducible show wpAny _ _ (call (Value.builtin "hasattr") [Value.str _ _, _]) _ _ _); k_dflt (refine' hasattr_strK ?j1 ?j2 ?_; (case j1 => k_asm); (case j2 => k_asm); k_whole); intro _ _ _; (try k_sweep)) | walk1 | (dsimp only; first | with_reducible (first | (k_here; (with_reducible show wpAny _ _ (call (Value.builtin "hasattr") [Value.str _ _, _]) _ _ _); k_dflt (refine' hasattr_strK ?j1 ?j2 ?_; (case j1 => k_asm); (case j2 => k_asm); k_whole); intro _ _ _; (try k_sweep))) | (k_here; (with_reducible show wpAny _ _ (call (Value.builtin "hasattr") [Value.str _ _, _]) _ _ _); k_dflt (refine' hasattr_strK ?j1 ?j2 ?_; (case j1 => k_asm); (case j2 => k_asm); k_whole); intro _ _ _; (try k_sweep)) | walk1) | (leave1; (try dsimp only)) | fail "no step"))
  rename_i kF kN _ _
  exact hret _ _ _ kF kN
theorem concat_list {x y : Addr} {vs us : List Value} {i j : Nat}
    (B : Below A₀ base outer h₀) (F : Fr h₀ L s.heap m) (X : (Mine.hd.heap_39 w.params).In h₀)
    (N : News h₀ L s.heap news) (T : Top p loose mean mg mb h₀) (hk : cs.kind = .function) (hd : dp + 20 < recursionLimit) (hu : un + 200 < cLine)
    (hx : (x, listOf vs.toArray i) ∈ news) (hy : (y, listOf us.toArray j) ∈ news) (hz : vs.length + us.length ≤ sizeLine)
    (hret : ∀ D h' tk' k, (∀ p ∈ news, p.1 < D) → Fr h₀ L h' m → News h₀ L h' ((D, listOf (vs ++ us).toArray k) :: news) → Q (.ref D) { s with heap := h', toks := tk' }) :
    wpAny (model PySem.Challenge.rw_ti0020_01.row.prog w) (ktrTop dp un gd cn cs L a ccd cl outer) (call (.ref 105) [.ref x, .ref y]) Q E s := by
  (rename Frag.In _ _ => Xfill; revert Xfill; k_fill; intro Xfill)
  refine wpAny_call ?_
  k_dflt cell_enter
  rename_i g' L' h' FG' F' N' B' X' T'
  clear N FG'
  (repeat' (first | (k_unfold; (try dsimp only)) | (k_end; wrow_close) | with_reducible (first | (k_here; (with_reducible show wpAny _ _ (binaryOp Operator.Add (Value.ref _) (Value.ref _)) _ _ _); k_dflt (refine' addL ?j1 ?j2 ?j3 ?j4 ?j5 ?_; (case j1 => k_asm); (case j2 => k_asm); (case j3 => k_mem); (case j4 => k_mem); (case j5 => with_reducible assumption); k_whole); wtm_at "t5") | (k_here; (with_reducible show wpAny _ _ (call (Value.builtin "hasattr") [Value.ref _, _]) _ _ _); k_dflt (refine' hasattr_listK ?j1 ?j2 ?j3 ?_; (case j1 => k_asm); (case j2 => k_asm); (case j3 => k_mem); k_whole); intro _ _ _; (try k_sweep))) | (k_here; (with_reducible show wpAny _ _ (binaryOp Operator.Add (Value.ref _) (Value.ref _)) _ _ _); k_dflt (refine' addL ?j1 ?j2 ?j3 ?j4 ?j5 ?_; (case j1 => k_asm); (case j2 => k_asm); (case j3 => k_mem); (case j4 => k_mem); (case j5 => with_reducible assumption); k_whole); wtm_at "t5") | (k_here; (with_reducible show wpAny _ _ (call (Value.builtin "hasattr") [Value.ref _, _]) _ _ _); k_dflt (refine' hasattr_listK ?j1 ?j2 ?j3 ?_; (case j1 => k_asm); (case j2 => k_asm); (case j3 => k_mem); k_whole); intro _ _ _; (try k_sweep)) | walk1 | (dsimp only; first | with_reducible (first | (k_here; (with_reducible show wpAny _ _ (binaryOp Operator.Add (Value.ref _) (Value.ref _)) _ _ _); k_dflt (refine' addL ?j1 ?j2 ?j3 ?j4 ?j5 ?_; (case j1 => k_asm); (case j2 => k_asm); (case j3 => k_mem); (case j4 => k_mem); (case j5 => with_reducible assumption); k_whole); wtm_at "t5") | (k_here; (with_reducible show wpAny _ _ (call (Value.builtin "hasattr") [Value.ref _, _]) _ _ _); k_dflt (refine' hasattr_listK ?j1 ?j2 ?j3 ?_; (case j1 => k_asm); (case j2 => k_asm); (case j3 => k_mem); k_whole); intro _ _ _; (try k_sweep))) | (k_here; (with_reducible show wpAny _ _ (binaryOp Operator.Add (Value.ref _) (Value.ref _)) _ _ _); k_dflt (refine' addL ?j1 ?j2 ?j3 ?j4 ?j5 ?_; (case j1 => k_asm); (case j2 => k_asm); (case j3 => k_mem); (case j4 => k_mem); (case j5 => with_reducible assumption); k_whole); wtm_at "t5") | (k_here; (with_reducible show wpAny _ _ (call (Value.builtin "hasattr") [Value.ref _, _]) _ _ _); k_dflt (refine' hasattr_listK ?j1 ?j2 ?j3 ?_; (case j1 => k_asm); (case j2 => k_asm); (case j3 => k_mem); k_whole); intro _ _ _; (try k_sweep)) | walk1) | (leave1; (try dsimp only)) | fail "no step"))
  rename_i l9 kF kN _ _
  exact hret _ _ _ _ l9 kF kN
theorem mul_str {x : Str} {y : Int} {tx ty : Tok}
    (B : Below A₀ base outer h₀) (F : Fr h₀ L s.heap m) (X : (Mine.hd.heap_39 w.params).In h₀)
    (N : News h₀ L s.heap news) (T : Top p loose mean mg mb h₀) (hk : cs.kind = .function) (hd : dp + 20 < recursionLimit) (hu : un + 200 < cLine)
    (hx : x.length ≤ 1000) (hy : 0 ≤ y) (hy2 : y ≤ 1000)
    (hret : ∀ h' tk' t, Fr h₀ L h' m → News h₀ L h' news → Q (.str (Txt.mul x y) t) { s with heap := h', toks := tk' }) :
    wpAny (model PySem.Challenge.rw_ti0020_01.row.prog w) (ktrTop dp un gd cn cs L a ccd cl outer) (call (.ref 77) [.str x tx, .int y ty]) Q E s := by
  (rename Frag.In _ _ => Xfill; revert Xfill; k_fill; intro Xfill)
  refine wpAny_call ?_
  k_dflt cell_enter
  rename_i g' L' h' FG' F' N' B' X' T'
  clear N FG'
  k_steps
  rename_i kF kN _ _
  exact hret _ _ _ kF kN
theorem contains_str {x y : Str} {tx ty : Tok}
    (B : Below A₀ base outer h₀) (F : Fr h₀ L s.heap m) (X : (Mine.hd.heap_39 w.params).In h₀)
    (N : News h₀ L s.heap news) (T : Top p loose mean mg mb h₀) (hk : cs.kind = .function) (hd : dp + 20 < recursionLimit) (hu : un + 200 < cLine)
    (hx : x.length ≤ 1000) (hy : y.length ≤ 1000)
    (hret : ∀ h' tk', Fr h₀ L h' m → News h₀ L h' news → Q (.bool (!(Builtin.Str.occurrences x y 0 x.length 1).isEmpty)) { s with heap := h', toks := tk' }) :
    wpAny (model PySem.Challenge.rw_ti0020_01.row.prog w) (ktrTop dp un gd cn cs L a ccd cl outer) (call (.ref 112) [.str x tx, .str y ty]) Q E s := by
  (rename Frag.In _ _ => Xfill; revert Xfill; k_fill; intro Xfill)
  refine wpAny_call ?_
  k_dflt cell_enter
  rename_i g' L' h' FG' F' N' B' X' T'
  clear N FG'
  k_steps
  rename_i kF kN _ _
  exact hret _ _ kF kN
theorem contains_W {x : Value} {ax : Addr} {items : Array Value} {i : Nat} (e : Value → Bool)
    (B : Below A₀ base outer h₀) (F : Fr h₀ L s.heap m) (X : (Mine.hd.heap_39 w.params).In h₀)
    (N : News h₀ L s.heap news) (T : Top p loose mean mg mb h₀) (hk : cs.kind = .function) (hd : dp + 20 < recursionLimit) (hu : un + 200 < cLine)
    (ha : (ax, listOf items i) ∈ news) (he : ∀ y, y ∈ items → MeetsSeq.EqGives y x (e y))
    (hret : ∀ h' tk', Fr h₀ L h' m → News h₀ L h' news → Q (.bool (items.any e)) { s with heap := h', toks := tk' }) :
    wpAny (model PySem.Challenge.rw_ti0020_01.row.prog w) (ktrTop dp un gd cn cs L a ccd cl outer) (call (.ref 112) [.ref ax, x]) Q E s := by
  (rename Frag.In _ _ => Xfill; revert Xfill; k_fill; intro Xfill)
  refine wpAny_call ?_
  k_dflt cell_enter
  rename_i g' L' h' FG' F' N' B' X' T'
  clear N FG'
  k_steps
  all_goals refine SeqInW.in_listW e he (PySem.IsL.isList (n := i) (N' _ ha).1) ?_
  k_steps
  rename_i kF kN _ _
  exact hret _ _ kF kN
end
end O1
theorem set_back_O1_z : True := by first | walk1 | trivial
-- Comp
section Comp
set_option maxRecDepth 100000
set_option maxHeartbeats 8000000
theorem size_okC {n : Nat} (h : n ≤ 1000) : n ≤ sizeLine := Nat.le_trans h (by decide +kernel)
section
variable {prog : Program} {w : World} {A : Around} {s : Shared} {h₀ : Heap} {L : Addr} {m : Str → Option Value} {env : Env} {elt : Expr} {x : Str} {scope : Scope} {cl : List (Str × Addr)}
theorem compEnd_mono {I C D : Addr} {oI oC oD : Obj} {s₁ : Shared} {S : List (Addr × Obj) → Prop} {r r' : Value → List (Addr × Obj) → Prop} {y : Value} {s₂ : Shared} (h : LCg.CompEnd h₀ L m s₁ I oI C oC D oD S r y s₂) (hr : ∀ nw, r y nw → r' y nw) : LCg.CompEnd h₀ L m s₁ I oI C oC D oD S r' y s₂ := by
  obtain ⟨h', tk, nw, e, F, N, off, hS, hy⟩ := h
  exact ⟨h', tk, nw, e, F, N, off, hS, hr _ hy⟩
/-- the turns of a list comprehension by a word that holds between them -/
theorem rest_inv {S : List (Addr × Obj) → Prop} {P : Nat → Value → Prop} {Fin : List Value → List (Addr × Obj) → Prop} (n : Nat) (J : Nat → List Value → List (Addr × Obj) → Prop)
    (step : ∀ (i : Nat) (v : Value) (ys : List Value) (nw : List (Addr × Obj)) (I : Addr) (oI : Obj) (C : Addr) (oC : Obj) (D : Addr) (m₂ : Str → Option Value) (h : Heap) (tk : Nat) (E' : Value → Shared → Prop), i < n → P i v → J i ys nw → LCg.NsObj oC m₂ → m₂ x = some v → Fr h₀ L h m → News h₀ L h ((I, oI) :: (C, oC) :: (D, LCg.lst ys) :: nw) → LCg.Off3 I C D nw → ((@Ne Nat I C) ∧ (@Ne Nat I D) ∧ (@Ne Nat C D)) →
      wpAny (model prog w) A (eval elt (compEnvC scope cl C env)) (LCg.CompEnd h₀ L m { s with heap := h, toks := tk } I oI C oC D (LCg.lst ys) S (fun y nw' => J (i + 1) (ys ++ [y]) nw')) E' { s with heap := h, toks := tk })
    (fin : ∀ ys nw, J n ys nw → Fin ys nw) : ∀ k i ys nw, i + k = n → J i ys nw → LCg.CompRest prog w A h₀ L m env elt x scope cl s S P Fin k i ys nw := by
  intro k
  induction k with
  | zero => intro i ys nw e hj; cases e; exact fin _ _ hj
  | succ k ih =>
    intro i ys nw e hj
    refine LCg.CompRest.succ ?_
    intro v I oI C oC D m₂ h tk E' hP hC hx F N off ne
    exact wpAny_mono (step i v ys nw I oI C oC D m₂ h tk E' (by omega) hP hj hC hx F N off ne) (fun y s₂ h₂ => compEnd_mono h₂ fun nw' hy => ih (i + 1) _ _ (by omega) hy) fun _ _ e => e
/-- a list comprehension over a list of the ledger's -/
theorem src_inv {Fin : Shared → List Value → List (Addr × Obj) → Prop} {ax : Addr} {its : Array Value} {k : Nat} {news : List (Addr × Obj)}
    (hh : A.handled = none) (F : Fr h₀ L s.heap m) (N : News h₀ L s.heap news) (hm : (ax, listOf its k) ∈ news) (hsz : its.size ≤ sizeLine)
    (J : Nat → List Value → List (Addr × Obj) → Prop) (hJ0 : J 0 [] news)
    (step : ∀ (g : Heap) (i : Nat) (v : Value) (ys : List Value) (nw : List (Addr × Obj)) (I : Addr) (oI : Obj) (C : Addr) (oC : Obj) (D : Addr) (m₂ : Str → Option Value) (h : Heap) (tk : Nat) (E' : Value → Shared → Prop), i < its.size → its[i]? = some v → J i ys nw → LCg.NsObj oC m₂ → m₂ x = some v → Fr h₀ L h m → News h₀ L h ((I, oI) :: (C, oC) :: (D, LCg.lst ys) :: nw) → LCg.Off3 I C D nw → ((@Ne Nat I C) ∧ (@Ne Nat I D) ∧ (@Ne Nat C D)) →
      wpAny (model prog w) A (eval elt (compEnvC scope cl C env)) (LCg.CompEnd h₀ L m { s with heap := h, toks := tk } I oI C oC D (LCg.lst ys) (LCg.SrcAt h₀ ax its) (fun y nw' => J (i + 1) (ys ++ [y]) nw')) E' { s with heap := h, toks := tk })
    (fin : ∀ s₁ ys nw, (∃ g, s₁ = { s with heap := g }) → J its.size ys nw → Fin s₁ ys nw) : LCg.CompSrc prog w A h₀ L m env elt x scope cl Fin (.ref ax) s :=
  LCg.CompSrc.ledger hh F N hm hsz fun g => rest_inv (s := { s with heap := g }) its.size J (step g) (fun ys nw hj => fin _ ys nw ⟨g, rfl⟩ hj) its.size 0 [] news (Nat.zero_add _) hJ0
end
end Comp
-- X1
section X1
set_option maxRecDepth 100000
set_option maxHeartbeats 8000000
theorem set_back_X1 : True := by
  w_top off
  first | walk1 | trivial
/-- the sign of a bit -/
def signAt (sg : Str) (n : Int) : Str := Txt.item sg n
/-- the text of a word of bits -/
def textOf (sg : Str) (ns : List Int) : Str := Txt.join (Str.ofString "") (ns.map (signAt sg))
theorem signAt_len (sg : Str) (n : Int) : (signAt sg n).length = 1 := rfl
theorem signs_sum (sg : Str) : ∀ ns : List Int, ((ns.map (signAt sg)).map (·.length)).sum = ns.length
  | [] => rfl
  | n :: r => by
    rw [List.map_cons, List.map_cons, List.sum_cons, signs_sum sg r, signAt_len, List.length_cons]; omega
theorem strs_snoc {vs : List Value} {ys : List Str} (h : StrsAre vs ys) (y : Str) (t : Tok) : StrsAre (vs ++ [.str y t]) (ys ++ [y]) := by
  induction h with
  | nil => exact .cons _ _ .nil
  | cons z u _ ih => exact .cons _ _ ih
theorem ints_at {vs : List Value} {ns : List Int} (h : IntsAre vs ns) {i : Nat} {v : Value} (hv : vs.toArray[i]? = some v) : ∃ k t, v = .int k t ∧ ns[i]? = some k ∧ ns.take (i + 1) = ns.take i ++ [k] := by
  have hv' : vs[i]? = some v := by simpa using hv
  have hl : i < vs.length := (List.getElem?_eq_some_iff.mp hv').1
  have hln : i < ns.length := by rw [← h.length]; exact hl
  obtain ⟨t, ht⟩ := h.get i _ (List.getElem?_eq_getElem hln)
  rw [hv'] at ht
  exact ⟨ns[i], t, Option.some.inj ht, List.getElem?_eq_getElem hln, by rw [List.take_succ, List.getElem?_eq_getElem hln]; rfl⟩
section
variable {w : World} {p : Program} {loose : List Str} {mean : ExcName → Option Value} {mg mb : Str → Option Value}
    {dp un : Nat} {gd : Option (List Code)} {cn : Str} {cs : Scope} {a : Addr} {ccd : Value} {cl : List (Str × Addr)} {outer : List Env} {A₀ : Around} {base h₀ : Heap} {L : Addr} {m : Str → Option Value} {s : Shared} {Q E : Value → Shared → Prop}
    {g : List (Addr × Obj) → List (Addr × Obj)} {rest led news : List (Addr × Obj)}
theorem text_spec {ax : Addr} {vs : List Value} {ns : List Int} {i : Nat} {sg : Str} {t : Tok}
    (B : Below A₀ base outer h₀) (F : Fr h₀ L s.heap m) (X : (Mine.hd.heap_39 w.params).In h₀)
    (N : News h₀ L s.heap news) (T : Top p loose mean mg mb h₀) (hk : cs.kind = .function) (hd : dp + 20 < recursionLimit) (hu : un + 200 < cLine)
    (ha : (ax, listOf vs.toArray i) ∈ news) (hi : IntsAre vs ns) (hn : ∀ n ∈ ns, n = 0 ∨ n = 1) (hs : sg.length = 2) (hz : ns.length ≤ 100)
    (hret : ∀ h' tk' t', Fr h₀ L h' m → News h₀ L h' news → Q (.str (textOf sg ns) t') { s with heap := h', toks := tk' }) :
    wpAny (model PySem.Challenge.rw_ti0020_01.row.prog w) (ktrTop dp un gd cn cs L a ccd cl outer) (call (.ref 117) [.ref ax, .str sg t]) Q E s := by
  (rename Frag.In _ _ => Xfill; revert Xfill; k_fill; intro Xfill)
  refine wpAny_call ?_
  k_dflt ((refine' code_defC ?k1 ?k2 ?k3 ?k4 ?k5 ?kA ?kF ?kK ?k6 ?k7 ?k8 ?k9 ?kB ?kD ?_ ?c2 ?c3 ?c4; (case kA => exact rfl); (case kF => exact rfl); (case kK => assumption); (case k1 => k_asm); (case k2 => k_asm); (case k3 => k_asm); (case k4 => k_asm); (case k5 => k_asm); (case k6 => k_is); (case k7 => k_is); (case k8 => ktr_room); (case k9 => first | exact BindsTo.of_eq rfl | exact binds_K (by k_in) rfl (by k_is) rfl rfl rfl | fail "k_enter: no rule for these arguments"); (case kB => exact rfl); (case kD => decide +kernel); (case c2 => exact rfl); (case c3 => exact rfl); (case c4 => exact rfl); k_whole; wtm_at "t6"))
  rename_i g' L' h' tk' FG' F' B' X' T' l1 o1 d1 N'
  clear N FG'
  replace F' : Fr g' L' h' (fun z => if z = Str.ofString "bits" then some (Value.ref ax) else none) := F'
  replace d1 : o1.data = Data.cell (some (Value.str sg t)) := d1
  k_steps
  have hvn : vs.length = ns.length := hi.length
  refine src_inv rfl (by k_asm) (by k_asm) (.tail _ ha) (by rw [List.size_toArray, hvn]; exact size_okC (by omega)) (fun i ys nw => nw = (L' + 1, o1) :: news ∧ i ≤ ns.length ∧ StrsAre ys ((ns.take i).map (signAt sg))) ⟨rfl, Nat.zero_le _, .nil⟩ ?_ ?_
  · rintro g i v ys nw I oI C oC D m₂ h tk E' hin hv ⟨rfl, _, hys⟩ hoC hbit Ft Nt off ne
    obtain ⟨k, tb, rfl, hk, htk⟩ := ints_at hi hv
    have hi1 : i + 1 ≤ ns.length := by rw [List.size_toArray, hvn] at hin; exact hin
    have hys1 : ∀ t', StrsAre (ys ++ [.str (signAt sg k) t']) ((ns.take (i + 1)).map (signAt sg)) := fun t' => by
      rw [htk, List.map_append]; exact strs_snoc hys _ t'
    rcases hn k (List.mem_of_getElem? hk) with rfl | rfl
    · k_steps
      exact LCg.CompEnd.intro Ft Nt _ (fun p hp => hp) off (.inr ⟨_, .tail _ ha, rfl, _, rfl⟩) ⟨rfl, hi1, hys1 _⟩
    · k_steps
      exact LCg.CompEnd.intro Ft Nt _ (fun p hp => hp) off (.inr ⟨_, .tail _ ha, rfl, _, rfl⟩) ⟨rfl, hi1, hys1 _⟩
  · rintro s₁ ys nw ⟨g, rfl⟩ ⟨rfl, _, hys⟩
    rw [List.size_toArray, hvn, List.take_length] at hys
    k_steps
    rename_i D9 h9 tk9 F9 N9 o9
    refine join_list (News.isList N9 (.head _)) hys ?_ ?_
    · rw [signs_sum, List.length_map]
      show ns.length + ns.length * 0 ≤ 16777216
      omega
    · intro t9 k9
      k_steps
      rename_i kF kN _ _
      exact hret _ _ _ kF (cb_drop kN fun p hp => .tail _ (.tail _ hp))
end
end X1
theorem set_back_X1_z : True := by first | walk1 | trivial
-- O2
section O2
set_option maxRecDepth 100000
set_option maxHeartbeats 8000000
theorem set_back_O2 : True := by
  w_top off
  first | walk1 | trivial
theorem sapp_len (x y : Str) : (x ++ y).length = x.length + y.length := PySem.Str.length_append x y
section
variable {w : World} {p : Program} {loose : List Str} {mean : ExcName → Option Value} {mg mb : Str → Option Value}
    {dp un : Nat} {gd : Option (List Code)} {cn : Str} {cs : Scope} {a : Addr} {ccd : Value} {cl : List (Str × Addr)} {outer : List Env} {A₀ : Around} {base h₀ : Heap} {L : Addr} {m : Str → Option Value} {s : Shared} {Q E : Value → Shared → Prop}
    {g : List (Addr × Obj) → List (Addr × Obj)} {rest led news : List (Addr × Obj)}
theorem contains_R {x : Value} {c : Value} {xs : List PyData} {d : PyData}
    (B : Below A₀ base outer h₀) (F : Fr h₀ L s.heap m) (X : (Mine.hd.heap_39 w.params).In h₀)
    (N : News h₀ L s.heap news) (T : Top p loose mean mg mb h₀) (hk : cs.kind = .function) (hd : dp + 20 < recursionLimit) (hu : un + 200 < cLine)
    (rc : ∀ h, (∀ p ∈ news, h.get? p.1 = some p.2) → (∃ as, Reads h c (.list xs) as) ∧ (∃ bs, Reads h x d bs)) (hxs : PyData.canLayAll0 xs = true) (hcd : d.canLay0 = true) (hdep : d.depth ≤ 50)
    (hret : ∀ h' tk', Fr h₀ L h' m → News h₀ L h' news → Q (.bool (xs.any fun y => PyData.eqv y d)) { s with heap := h', toks := tk' }) :
    wpAny (model PySem.Challenge.rw_ti0020_01.row.prog w) (ktrTop dp un gd cn cs L a ccd cl outer) (call (.ref 112) [c, x]) Q E s := by
  (rename Frag.In _ _ => Xfill; revert Xfill; k_fill; intro Xfill)
  refine wpAny_call ?_
  k_dflt cell_enter
  rename_i g' L' h' FG' F' N' B' X' T'
  clear N FG'
  k_steps
  obtain ⟨⟨as, r1⟩, ⟨bs, r2⟩⟩ := rc h' (fun p hp => (N' p hp).1)
  refine SeqAt.in_list_reads r1 r2 hxs hcd ?_ ?_
  · dsimp only [ktrTop, Around.deeper]; omega
  k_steps
  rename_i kF kN _ _
  exact hret _ _ kF kN
end
end O2
theorem set_back_O2_z : True := by first | walk1 | trivial
-- Loop2
section Loop2
set_option maxRecDepth 100000
set_option maxHeartbeats 8000000
section
variable {prog : Program} {w : World} {A : Around} {E : Value → Shared → Prop} {s : Shared} {env : Env} {h₀ : Heap} {x : Str} {body : List Stmt} {Q : Flow → Shared → Prop}
/-- for x in range(a, b) -/
theorem iter_rangeInv {r : Addr} {a b : Int} {t u v : Tok} {n : Nat} {m : Str → Option Value} {news : List (Addr × Obj)}
    (hh : A.handled = none) (F : Fr h₀ env.locals s.heap m) (N : News h₀ env.locals s.heap news) (hr : IsRange s.heap r a b 1 t u v) (hsm : Builtin.Range.small a b 1 = true) (hn : Builtin.Range.rangeSize a b 1 = ((n : Nat) : Int))
    (J : Nat → (Str → Option Value) → List (Addr × Obj) → Prop) (hJ0 : J 0 m news)
    (turn : ∀ (I : Addr) (i : Nat) (ti : Tok) (m₁ : Str → Option Value) (news₁ : List (Addr × Obj)) (h : Heap) (tk : Nat) (it : Obj), i < n → J i m₁ news₁ → (∀ p ∈ news₁, p.1 ≠ I) → Fr h₀ env.locals h (fun y => if y = x then some (.int (a + (i : Int)) ti) else m₁ y) → News h₀ env.locals h ((I, it) :: news₁) →
      wpAny (model prog w) A (execs body env) (TurnPost h₀ env.locals I it (J (i + 1)) { s with heap := h, toks := tk } Q) E { s with heap := h, toks := tk })
    (done : ∀ m₁ news₁ h tk, J n m₁ news₁ → Fr h₀ env.locals h m₁ → News h₀ env.locals h news₁ → Q .next { s with heap := h, toks := tk }) :
    wpAny (model prog w) A (pyIter (.ref r)) (fun it s₂ => LoopAtV prog w A h₀ env x body Q E it s₂) E s := by
  refine wpAny_pyIter_range hr hsm ?_
  have W := LCg.range_walks (prog := prog) (w := w) (A := A) (I := s.heap.objs.size) hh a n
  have hfr : ∀ p ∈ news, p.1 < s.heap.objs.size := fun p hp => Heap.lt_size (N p hp).1
  have hnone : h₀.get? s.heap.objs.size = none := Heap.get?_none_of_le (Nat.le_trans F.above (Nat.le_of_lt F.ns.lt))
  refine loop_inv (s := { s with heap := s.heap.push _ }) (rd := []) W (by show IsRangeIter _ _ _ _ _; rw [hn]; simpa using Heap.get?_push_size _ rfl) ⟨_, Heap.get?_push_size _ rfl⟩ (fun i h st => ⟨_, st⟩) hnone (Nat.ne_of_gt F.ns.lt)
    (fun p hp => nomatch hp) (F.push _) (fun p hp => ⟨Heap.get?_push_of_some _ (N p hp).1, (N p hp).2⟩) (fun p hp => Nat.ne_of_lt (hfr p hp)) J hJ0
    (fun i m₁ news₁ hj p hp => nomatch hp) (fun i v m₁ news₁ h tk it hi hv => ?_) done
  obtain ⟨ti, rfl⟩ := hv
  exact turn _ i ti m₁ news₁ h tk it hi
end
end Loop2
-- X2
section X2
set_option maxRecDepth 100000
set_option maxHeartbeats 8000000
theorem set_back_X2 : True := by
  w_top off
  first | walk1 | trivial
local macro_rules | `(tactic| k_all) => `(tactic| with_reducible assumption)
theorem pin2 {m : Str → Option Value} {x1 x2 : Str} {v1 v2 : Value} (h1 : m x1 = some v1) (h2 : m x2 = some v2) :
    m = fun y => if y = x1 then some v1 else if y = x2 then some v2 else m y := by
  funext y
  split
  · rename_i h; subst h; exact h1
  split
  · rename_i h; subst h; exact h2
  rfl
abbrev pieceAt (tx : Str) (i j : Nat) : Str := Txt.slice tx (some (0 + (j : Int))) (some (0 + (j : Int) + (1 + (i : Int))))
abbrev wantAt (tx : Str) (i j : Nat) : Str := Txt.mul (pieceAt tx i j) 2 ++ Txt.item (pieceAt tx i j) 0
def hitAt (tx : Str) (i j : Nat) : Bool := !(Builtin.Str.occurrences tx (wantAt tx i j) 0 tx.length 1).isEmpty
/-- what the loop over the pieces of a text needs of it -/
def OverOk (tx : Str) : Prop := ∀ i j : Nat, j + 2 * (i + 1) < tx.length → (pieceAt tx i j).length = i + 1 ∧ Txt.split (Str.ofString "..." ++ wantAt tx i j ++ Str.ofString "...") (Str.ofString "...") = [Str.empty, wantAt tx i j, Str.empty] ∧
  (Builtin.Str.occurrences (Str.ofString "..." ++ wantAt tx i j ++ Str.ofString "...") (Str.ofString "...") 0 (Str.ofString "..." ++ wantAt tx i j ++ Str.ofString "...").length 1).isEmpty = false ∧ ellM tx Str.empty [wantAt tx i j] Str.empty = hitAt tx i j
/-- whether a text has an overlap -/
def overOf (tx : Str) : Bool := (List.range ((tx.length + 1) / 2 - 1)).any fun p => (List.range (tx.length - 2 * (p + 1))).any (hitAt tx p)
theorem last_item {prog : Program} {w : World} {A : Around} {E : Value → Shared → Prop} {s : Shared} {Q : Value → Shared → Prop} {h₀ : Heap} {L : Addr} {news : List (Addr × Obj)} {value slice : Expr} {l : Addr} {xs : Array Value} {v : Value} {n : Nat} {k : Int} {u : Tok}
    (N : News h₀ L s.heap news) (hm : (l, listOf (xs.push v) n) ∈ news) (hk : k = -1) (h : Q v s)
    (hs : subscripted slice false (.ref l) (.int k u) = operate [.ref l, .int k u] (getItem (.ref l) (.int k u)) := by with_unfolding_all rfl) (hg : ∀ r, letTemporaryGo value (.ref l) r = pure () := by intro _; with_unfolding_all rfl) :
    wpAny (model prog w) A (subscriptTail value slice (.ref l) (.int k u)) Q E s := by
  have hl : s.heap.IsList l (xs.push v) := PySem.IsL.isList (n := n) (N _ hm).1
  have hsz : (xs.push v).size = xs.size + 1 := Array.size_push ..
  subst hk
  refine subscriptTail_builtin hl.typeIs slot_list_getitem.lookup (wpAny_getItem_list_neg hl (by decide) (by rw [hsz]; exact Int.neg_le_neg (Int.ofNat_le.mpr (Nat.succ_pos _))) (by decide) ?_ h) hs hg
  rw [hsz, neg_one (Nat.succ_pos _)]
  exact Array.getElem?_push_size
theorem range_size {a b : Int} (n : Nat) (h : (b - a).toNat = n) : Builtin.Range.rangeSize a b 1 = ((n : Nat) : Int) := by
  unfold Builtin.Range.rangeSize
  rw [if_pos (by decide)]
  subst h
  split
  · rename_i h; rw [Int.ediv_one, Int.sub_add_cancel]; exact (Int.toNat_of_nonneg (Int.sub_nonneg_of_le (Int.le_of_lt h))).symm
  · rename_i h; rw [Int.toNat_of_nonpos (Int.sub_nonpos_of_le (Int.not_lt.mp h))]; rfl
theorem range_small {a b : Int} (ha : -100000 ≤ a) (ha' : a ≤ 100000) (hb : -100000 ≤ b) (hb' : b ≤ 100000) : Builtin.Range.small a b 1 = true := by
  have e : ((2 : Int) ^ 63) = 9223372036854775808 := by decide
  have hn := range_size (a := a) (b := b) _ rfl
  unfold Builtin.Range.small Builtin.Range.rangeFitsLong
  rw [hn, e]
  have l : ∀ {x : Int}, -100000 ≤ x → -9223372036854775808 ≤ x := fun h => Int.le_trans (by decide) h
  have u : ∀ {x : Int}, x ≤ 200000 → x < 9223372036854775808 := fun h => Int.lt_of_le_of_lt h (by decide)
  have d : b - a ≤ 200000 := Int.sub_le_sub hb' ha
  simp
  refine ⟨⟨⟨⟨l ha, u (Int.le_trans ha' (by decide))⟩, l hb, u (Int.le_trans hb' (by decide))⟩, ?_, ?_⟩, ?_⟩
  · exact Int.le_trans (by decide) (Int.le_max_right _ _)
  · exact u (Int.max_le.mpr ⟨d, by decide⟩)
  · exact .inr ⟨l hb, u (Int.le_trans hb' (by decide))⟩
theorem reads_bools (h : Heap) : ∀ bs : List Bool, ReadsAll h (bs.map Value.bool) (bs.map PyData.bool) []
  | [] => .nil
  | b :: r => .cons (.bool b) (reads_bools h r)
theorem bools_lay : ∀ bs : List Bool, PyData.canLayAll0 (bs.map PyData.bool) = true
  | [] => rfl
  | b :: r => by
    show (PyData.canLay0 (.bool b) && PyData.canLayAll0 (r.map PyData.bool)) = true
    rw [bools_lay r]; rfl
theorem any_true (bs : List Bool) : ((bs.map PyData.bool).any fun y => y.eqv (PyData.bool true)) = bs.any id := by
  induction bs with
  | nil => rfl
  | cons b r ih => rw [List.map_cons, List.any_cons, List.any_cons, ih]; cases b <;> rfl
section
variable {w : World} {p : Program} {loose : List Str} {mean : ExcName → Option Value} {mg mb : Str → Option Value}
    {dp un : Nat} {gd : Option (List Code)} {cn : Str} {cs : Scope} {a : Addr} {ccd : Value} {cl : List (Str × Addr)} {outer : List Env} {A₀ : Around} {base h₀ : Heap} {L : Addr} {m : Str → Option Value} {s : Shared} {Q E : Value → Shared → Prop}
    {g : List (Addr × Obj) → List (Addr × Obj)} {rest led news : List (Addr × Obj)}
theorem overlapped_spec {tx : Str} {t : Tok}
    (B : Below A₀ base outer h₀) (F : Fr h₀ L s.heap m) (X : (Mine.hd.heap_39 w.params).In h₀)
    (N : News h₀ L s.heap news) (T : Top p loose mean mg mb h₀) (hk : cs.kind = .function) (hd : dp + 120 < recursionLimit) (hu : un + 900 < cLine)
    (hz : tx.length ≤ 100) (hO : OverOk tx)
    (hret : ∀ h' tk', Fr h₀ L h' m → News h₀ L h' news → Q (.bool (overOf tx)) { s with heap := h', toks := tk' }) :
    wpAny (model PySem.Challenge.rw_ti0020_01.row.prog w) (ktrTop dp un gd cn cs L a ccd cl outer) (call (.ref 124) [.str tx t]) Q E s := by
  (rename Frag.In _ _ => Xfill; revert Xfill; k_fill; intro Xfill)
  refine wpAny_call ?_
  k_dflt cell_enter
  rename_i g' L' h' FG' F' N' B' X' T'
  clear N FG'
  replace F' : Fr g' L' h' (fun z => ([(Str.ofString "text", Value.str tx t)] : List (Str × Value)).lookup z) := F'
  (repeat' ((fail_if_success (with_reducible show wpAny _ _ (pyIter _) _ _ _)); first | (k_unfold; (try dsimp only)) | (k_end; wrow_close) | walk1 | (dsimp only; walk1) | (leave1; (try dsimp only)) | fail "no step"))
  rename_i l _ ll _ _ _ h2 tk2 t1 u1 v1 R F2 N2 k2
  refine iter_rangeInv (n := (tx.length + 1) / 2 - 1) rfl F2 N2 R ?_ ?_ (fun i m₁ led => ∃ (tt : Tok) (bs : List Bool) (k : Nat), m₁ (Str.ofString "text") = some (.str tx tt) ∧ m₁ (Str.ofString "found") = some (.ref l) ∧ led = (l, listOf (bs.map Value.bool).toArray k) :: news ∧ bs.length ≤ 100 * i ∧ bs.any id = (List.range i).any (fun p => (List.range (tx.length - 2 * (p + 1))).any (hitAt tx p))) ⟨_, [], 0, rfl, rfl, rfl, Nat.zero_le _, rfl⟩ ?_ ?_
  · rw [show ((tx.length : Int) + 1).fdiv 2 = (((tx.length + 1) / 2 : Nat) : Int) from fdiv_nat (tx.length + 1) 2]
    exact range_small (by decide) (by decide) (Int.le_trans (by decide) (Int.natCast_nonneg _)) (Int.ofNat_le.mpr (Nat.le_trans (Nat.div_le_self _ _) (Nat.le_trans (Nat.succ_le_succ hz) (by decide))))
  · rw [show ((tx.length : Int) + 1).fdiv 2 = (((tx.length + 1) / 2 : Nat) : Int) from fdiv_nat (tx.length + 1) 2]
    exact range_size _ (Int.toNat_sub _ _)
  · rintro I i ti m₁ led h tk it hi hJ9 hne Ft Nt
    k_fold
    have hi50 : i < 50 := Nat.lt_of_lt_of_le hi (Nat.le_trans (Nat.sub_le _ _) (Nat.le_trans (Nat.div_le_div_right (Nat.succ_le_succ hz)) (by decide)))
    obtain ⟨tt, bs0, k0, hm1, hm2, rfl, hbl0, hba0⟩ := hJ9
    rw [pin2 hm1 hm2] at Ft
    change Fr g' L' h _ at Ft
    change News g' L' h _ at Nt
    dsimp only
    (repeat' ((fail_if_success (with_reducible show wpAny _ _ (pyIter _) _ _ _)); first | (k_unfold; (try dsimp only)) | (k_end; wrow_close) | walk1 | (dsimp only; walk1) | (leave1; (try dsimp only)) | fail "no step"))
    rename_i h3 tk3 t3 u3 v3 R3 F3 N3 k3
    refine iter_rangeInv (n := tx.length - 2 * (i + 1)) rfl F3 N3 R3 ?_ ?_ (fun j m₂ led₂ => ∃ (tt t2 : Tok) (bs : List Bool) (k : Nat), m₂ (Str.ofString "text") = some (.str tx tt) ∧ m₂ (Str.ofString "found") = some (.ref l) ∧ m₂ (Str.ofString "period") = some (.int (1 + (i : Int)) t2) ∧ led₂ = (I, it) :: (l, listOf (bs.map Value.bool).toArray k) :: news ∧ bs.length ≤ 100 * i + j ∧ bs.any id = ((List.range i).any (fun p => (List.range (tx.length - 2 * (p + 1))).any (hitAt tx p)) || (List.range j).any (hitAt tx i))) ⟨_, _, bs0, k0, rfl, rfl, rfl, rfl, hbl0, by rw [hba0]; simp⟩ ?_ ?_
    · rw [two_up]; exact range_small (by decide) (by decide) (sub_lo (Nat.le_trans (Nat.mul_le_mul_left 2 hi50) (by decide))) (sub_hi (Nat.le_trans hz (by decide)))
    · rw [two_up]; exact range_size _ (by rw [Int.sub_zero, Int.toNat_sub])
    · rintro I2 j tj m₂ led₂ h4 tk4 it2 hj hJ9 hne2 Ft Nt
      k_fold
      obtain ⟨tt, t2, bs, k, hn1, hn2, hn3, rfl, hbl, hba⟩ := hJ9
      rw [pin3 hn1 hn2 hn3] at Ft
      change Fr g' L' h4 _ at Ft
      change News g' L' h4 _ at Nt
      dsimp only
      obtain ⟨hpl, hsp, hin, hel⟩ := hO i j (Nat.add_lt_of_lt_sub hj)
      obtain ⟨b0, hb0⟩ : ∃ b0, b0 = hitAt tx i j := ⟨_, rfl⟩
      rw [← hb0] at hel
      dsimp only [wantAt, pieceAt] at hpl hsp hin hel
      have hb1 : b0 = !(Builtin.Str.occurrences tx (Txt.mul (Txt.slice tx (some (0 + (j : Int))) (some (0 + (j : Int) + (1 + (i : Int))))) 2 ++ Txt.item (Txt.slice tx (some (0 + (j : Int))) (some (0 + (j : Int) + (1 + (i : Int))))) 0) 0 tx.length 1).isEmpty := hb0
      have htl : tx.length ≤ 1000 := Nat.le_trans hz (by decide)
      (repeat' ((fail_if_success (with_reducible show wpAny _ _ (call (Value.ref 77) _) _ _ _)); first | (k_unfold; (try dsimp only)) | (k_end; wrow_close) | walk1 | (dsimp only; walk1) | (leave1; (try dsimp only)) | fail "no step"))
      have q1 : @Ne Nat I2 l := fun e => hne2 (l, listOf (bs.map Value.bool).toArray k) (.tail _ (.head _)) e.symm
      have q2 : @Ne Nat I l := fun e => hne (l, listOf (bs0.map Value.bool).toArray k0) (.head _) e.symm
      have q3 : ∀ p ∈ news, p.1 ≠ l := fun p hp => Nat.ne_of_lt (ll p hp)
      have q4 : (bs.map Value.bool).toArray.size ≤ sizeLine := by
        rw [List.size_toArray, List.length_map]; exact Nat.le_trans (show bs.length ≤ 10000 from Nat.le_trans hbl (le_lin (Nat.mul_le_mul_left 100 (Nat.le_of_lt hi50)) (Nat.le_trans (Nat.le_of_lt hj) (sub_le_of hz)) (by decide))) (by decide +kernel)
      generalize hpc : Txt.slice tx (some (0 + (j : Int))) (some (0 + (j : Int) + (1 + (i : Int)))) = pc at *
      have hml : (Txt.mul pc 2).length = 2 * (i + 1) := by
        have := PyProof.Rows.len_mul pc 2
        rw [if_neg (by decide)] at this
        rw [Int.ofNat_inj.mp (this : ((Txt.mul pc 2).length : Int) = ((pc.length * 2 : Nat) : Int)), Nat.mul_comm, hpl]
      have hil : (Txt.item pc 0).length = 1 := rfl
      have hdl : (Str.ofString "...").length = 3 := by decide +kernel
      have hel0 : Str.empty.length ≤ 1000 := by decide
      have hwm : (Txt.mul pc 2).length + (Txt.item pc 0).length ≤ 101 := by rw [hml, hil]; exact Nat.le_trans (Nat.succ_le_succ (Nat.mul_le_mul_left 2 hi50)) (by decide)
      have hwl' : (Txt.mul pc 2).length + (Txt.item pc 0).length ≤ 1000 := Nat.le_trans hwm (by decide)
      have hwl : (Txt.mul pc 2 ++ Txt.item pc 0).length ≤ 1000 := by rw [sapp_len]; exact hwl'
      have hwd : (Str.ofString "...").length + ((Txt.mul pc 2).length + (Txt.item pc 0).length) ≤ 1000 := by rw [hdl]; exact Nat.le_trans (Nat.add_le_add_left hwm 3) (by decide)
      have hwk : (Str.ofString "...").length + ((Txt.mul pc 2).length + (Txt.item pc 0).length) + (Str.ofString "...").length ≤ 1000 := by rw [hdl]; exact Nat.le_trans (Nat.add_le_add_right (Nat.add_le_add_left hwm 3) 3) (by decide)
      have hwo : (Txt.mul pc 2).length ≤ 1000 := Nat.le_trans (Nat.le_add_right _ _) hwl'
      have hpn : -(pc.length : Int) ≤ 0 := Int.neg_nonpos_of_nonneg (Int.natCast_nonneg _)
      have hpp : (0 : Int) < pc.length := by rw [hpl]; exact Int.ofNat_lt.mpr (Nat.succ_pos i)
      have hi1 : (Txt.item pc 0).length ≤ 1000 := by rw [hil]; decide
      have hpl2 : pc.length ≤ 1000 := by rw [hpl]; exact Nat.le_trans hi50 (by decide)
      clear hpc
      (repeat' ((fail_if_success (with_reducible show wpAny _ _ (pyIter _) _ _ _)); first | (k_unfold; (try dsimp only)) | (k_end; wrow_close) | with_reducible (first | (k_here; (with_reducible show wpAny _ _ (subscriptTail _ (Expr.UnaryOp _ _ _) (Value.ref _) (Value.int _ _)) _ _ _); k_dflt (refine' last_item ?j1 ?j2 ?j3 ?_; (case j1 => k_asm); (case j2 => k_mem); (case j3 => rfl))) | ((with_reducible show wpAny _ _ (call _ _) _ _ _); first | (k_here; (with_reducible show wpAny _ _ (call (Value.ref 63) [Value.str _ _, Value.str _ _]) _ _ _); k_dflt (refine' ellipsis_3 ?jB ?jF ?jX ?jN ?jT ?jk ?jd ?ju ?p1 ?p2 ?p3 ?p4 ?p5 ?p6 ?p7 ?p8 ?_; (case jB => k_asm); (case jF => k_asm); (case jX => k_asm); (case jN => k_asm); (case jT => k_asm); (case jk => exact rfl); (case jd => ((try dsimp only [ktrTop]); omega)); (case ju => ((try dsimp only [ktrTop]); omega)); (case p1 => first | with_reducible assumption | omega | (simp only [sapp_len]; omega)); (case p2 => first | with_reducible assumption | omega | (simp only [sapp_len]; omega)); (case p3 => with_reducible assumption); (case p4 => with_reducible assumption); (case p5 => with_reducible assumption); (case p6 => with_reducible assumption); (case p7 => with_reducible assumption); (case p8 => with_reducible assumption); k_whole); intro _ _ _ _; (try dsimp only); (try k_fold)) | (k_here; (with_reducible show wpAny _ _ (call (Value.ref 112) [Value.str _ _, Value.str _ _]) _ _ _); k_dflt (refine' contains_str ?jB ?jF ?jX ?jN ?jT ?jk ?jd ?ju ?p1 ?p2 ?_; (case jB => k_asm); (case jF => k_asm); (case jX => k_asm); (case jN => k_asm); (case jT => k_asm); (case jk => exact rfl); (case jd => ((try dsimp only [ktrTop]); omega)); (case ju => ((try dsimp only [ktrTop]); omega)); (case p1 => first | with_reducible assumption | omega | (simp only [sapp_len]; omega)); (case p2 => first | with_reducible assumption | omega | (simp only [sapp_len]; omega)); k_whole); intro _ _ _ _; (try dsimp only); (try k_fold)) | (k_here; (with_reducible show wpAny _ _ (call (Value.ref 77) [Value.str _ _, Value.int _ _]) _ _ _); k_dflt (refine' mul_str ?jB ?jF ?jX ?jN ?jT ?jk ?jd ?ju ?p1 ?p2 ?p3 ?_; (case jB => k_asm); (case jF => k_asm); (case jX => k_asm); (case jN => k_asm); (case jT => k_asm); (case jk => exact rfl); (case jd => ((try dsimp only [ktrTop]); omega)); (case ju => ((try dsimp only [ktrTop]); omega)); (case p1 => first | with_reducible assumption | omega | (simp only [sapp_len]; omega)); (case p2 => first | with_reducible assumption | omega); (case p3 => first | with_reducible assumption | omega); k_whole); intro _ _ _ _ _; (try dsimp only); (try k_fold)) | (k_here; (with_reducible show wpAny _ _ (call (Value.ref 105) [Value.str _ _, Value.str _ _]) _ _ _); k_dflt (refine' concat_str ?jB ?jF ?jX ?jN ?jT ?jk ?jd ?ju ?p1 ?p2 ?_; (case jB => k_asm); (case jF => k_asm); (case jX => k_asm); (case jN => k_asm); (case jT => k_asm); (case jk => exact rfl); (case jd => ((try dsimp only [ktrTop]); omega)); (case ju => ((try dsimp only [ktrTop]); omega)); (case p1 => first | with_reducible assumption | omega | (simp only [sapp_len]; omega)); (case p2 => first | with_reducible assumption | omega | (simp only [sapp_len]; omega)); k_whole); intro _ _ _ _ _; (try dsimp only); (try k_fold)) | (k_here; (with_reducible show wpAny _ _ (call (Value.builtin "list.append") [Value.ref _, _]) _ _ _); k_dflt (refine' append_K ?k1 ?k2 ?k3 ?_ ?z; (case k1 => k_asm); (case k2 => k_asm); (case k3 => k_upd); (case z => with_reducible assumption); k_whole); intro _ _ _; (try k_sweep)))) | (k_here; (with_reducible show wpAny _ _ (subscriptTail _ (Expr.UnaryOp _ _ _) (Value.ref _) (Value.int _ _)) _ _ _); k_dflt (refine' last_item ?j1 ?j2 ?j3 ?_; (case j1 => k_asm); (case j2 => k_mem); (case j3 => rfl))) | ((with_reducible show wpAny _ _ (call _ _) _ _ _); first | (k_here; (with_reducible show wpAny _ _ (call (Value.ref 63) [Value.str _ _, Value.str _ _]) _ _ _); k_dflt (refine' ellipsis_3 ?jB ?jF ?jX ?jN ?jT ?jk ?jd ?ju ?p1 ?p2 ?p3 ?p4 ?p5 ?p6 ?p7 ?p8 ?_; (case jB => k_asm); (case jF => k_asm); (case jX => k_asm); (case jN => k_asm); (case jT => k_asm); (case jk => exact rfl); (case jd => ((try dsimp only [ktrTop]); omega)); (case ju => ((try dsimp only [ktrTop]); omega)); (case p1 => first | with_reducible assumption | omega | (simp only [sapp_len]; omega)); (case p2 => first | with_reducible assumption | omega | (simp only [sapp_len]; omega)); (case p3 => with_reducible assumption); (case p4 => with_reducible assumption); (case p5 => with_reducible assumption); (case p6 => with_reducible assumption); (case p7 => with_reducible assumption); (case p8 => with_reducible assumption); k_whole); intro _ _ _ _; (try dsimp only); (try k_fold)) | (k_here; (with_reducible show wpAny _ _ (call (Value.ref 112) [Value.str _ _, Value.str _ _]) _ _ _); k_dflt (refine' contains_str ?jB ?jF ?jX ?jN ?jT ?jk ?jd ?ju ?p1 ?p2 ?_; (case jB => k_asm); (case jF => k_asm); (case jX => k_asm); (case jN => k_asm); (case jT => k_asm); (case jk => exact rfl); (case jd => ((try dsimp only [ktrTop]); omega)); (case ju => ((try dsimp only [ktrTop]); omega)); (case p1 => first | with_reducible assumption | omega | (simp only [sapp_len]; omega)); (case p2 => first | with_reducible assumption | omega | (simp only [sapp_len]; omega)); k_whole); intro _ _ _ _; (try dsimp only); (try k_fold)) | (k_here; (with_reducible show wpAny _ _ (call (Value.ref 77) [Value.str _ _, Value.int _ _]) _ _ _); k_dflt (refine' mul_str ?jB ?jF ?jX ?jN ?jT ?jk ?jd ?ju ?p1 ?p2 ?p3 ?_; (case jB => k_asm); (case jF => k_asm); (case jX => k_asm); (case jN => k_asm); (case jT => k_asm); (case jk => exact rfl); (case jd => ((try dsimp only [ktrTop]); omega)); (case ju => ((try dsimp only [ktrTop]); omega)); (case p1 => first | with_reducible assumption | omega | (simp only [sapp_len]; omega)); (case p2 => first | with_reducible assumption | omega); (case p3 => first | with_reducible assumption | omega); k_whole); intro _ _ _ _ _; (try dsimp only); (try k_fold)) | (k_here; (with_reducible show wpAny _ _ (call (Value.ref 105) [Value.str _ _, Value.str _ _]) _ _ _); k_dflt (refine' concat_str ?jB ?jF ?jX ?jN ?jT ?jk ?jd ?ju ?p1 ?p2 ?_; (case jB => k_asm); (case jF => k_asm); (case jX => k_asm); (case jN => k_asm); (case jT => k_asm); (case jk => exact rfl); (case jd => ((try dsimp only [ktrTop]); omega)); (case ju => ((try dsimp only [ktrTop]); omega)); (case p1 => first | with_reducible assumption | omega | (simp only [sapp_len]; omega)); (case p2 => first | with_reducible assumption | omega | (simp only [sapp_len]; omega)); k_whole); intro _ _ _ _ _; (try dsimp only); (try k_fold)) | (k_here; (with_reducible show wpAny _ _ (call (Value.builtin "list.append") [Value.ref _, _]) _ _ _); k_dflt (refine' append_K ?k1 ?k2 ?k3 ?_ ?z; (case k1 => k_asm); (case k2 => k_asm); (case k3 => k_upd); (case z => with_reducible assumption); k_whole); intro _ _ _; (try k_sweep))) | walk1 | (dsimp only; first | with_reducible (first | (k_here; (with_reducible show wpAny _ _ (subscriptTail _ (Expr.UnaryOp _ _ _) (Value.ref _) (Value.int _ _)) _ _ _); k_dflt (refine' last_item ?j1 ?j2 ?j3 ?_; (case j1 => k_asm); (case j2 => k_mem); (case j3 => rfl))) | ((with_reducible show wpAny _ _ (call _ _) _ _ _); first | (k_here; (with_reducible show wpAny _ _ (call (Value.ref 63) [Value.str _ _, Value.str _ _]) _ _ _); k_dflt (refine' ellipsis_3 ?jB ?jF ?jX ?jN ?jT ?jk ?jd ?ju ?p1 ?p2 ?p3 ?p4 ?p5 ?p6 ?p7 ?p8 ?_; (case jB => k_asm); (case jF => k_asm); (case jX => k_asm); (case jN => k_asm); (case jT => k_asm); (case jk => exact rfl); (case jd => ((try dsimp only [ktrTop]); omega)); (case ju => ((try dsimp only [ktrTop]); omega)); (case p1 => first | with_reducible assumption | omega | (simp only [sapp_len]; omega)); (case p2 => first | with_reducible assumption | omega | (simp only [sapp_len]; omega)); (case p3 => with_reducible assumption); (case p4 => with_reducible assumption); (case p5 => with_reducible assumption); (case p6 => with_reducible assumption); (case p7 => with_reducible assumption); (case p8 => with_reducible assumption); k_whole); intro _ _ _ _; (try dsimp only); (try k_fold)) | (k_here; (with_reducible show wpAny _ _ (call (Value.ref 112) [Value.str _ _, Value.str _ _]) _ _ _); k_dflt (refine' contains_str ?jB ?jF ?jX ?jN ?jT ?jk ?jd ?ju ?p1 ?p2 ?_; (case jB => k_asm); (case jF => k_asm); (case jX => k_asm); (case jN => k_asm); (case jT => k_asm); (case jk => exact rfl); (case jd => ((try dsimp only [ktrTop]); omega)); (case ju => ((try dsimp only [ktrTop]); omega)); (case p1 => first | with_reducible assumption | omega | (simp only [sapp_len]; omega)); (case p2 => first | with_reducible assumption | omega | (simp only [sapp_len]; omega)); k_whole); intro _ _ _ _; (try dsimp only); (try k_fold)) | (k_here; (with_reducible show wpAny _ _ (call (Value.ref 77) [Value.str _ _, Value.int _ _]) _ _ _); k_dflt (refine' mul_str ?jB ?jF ?jX ?jN ?jT ?jk ?jd ?ju ?p1 ?p2 ?p3 ?_; (case jB => k_asm); (case jF => k_asm); (case jX => k_asm); (case jN => k_asm); (case jT => k_asm); (case jk => exact rfl); (case jd => ((try dsimp only [ktrTop]); omega)); (case ju => ((try dsimp only [ktrTop]); omega)); (case p1 => first | with_reducible assumption | omega | (simp only [sapp_len]; omega)); (case p2 => first | with_reducible assumption | omega); (case p3 => first | with_reducible assumption | omega); k_whole); intro _ _ _ _ _; (try dsimp only); (try k_fold)) | (k_here; (with_reducible show wpAny _ _ (call (Value.ref 105) [Value.str _ _, Value.str _ _]) _ _ _); k_dflt (refine' concat_str ?jB ?jF ?jX ?jN ?jT ?jk ?jd ?ju ?p1 ?p2 ?_; (case jB => k_asm); (case jF => k_asm); (case jX => k_asm); (case jN => k_asm); (case jT => k_asm); (case jk => exact rfl); (case jd => ((try dsimp only [ktrTop]); omega)); (case ju => ((try dsimp only [ktrTop]); omega)); (case p1 => first | with_reducible assumption | omega | (simp only [sapp_len]; omega)); (case p2 => first | with_reducible assumption | omega | (simp only [sapp_len]; omega)); k_whole); intro _ _ _ _ _; (try dsimp only); (try k_fold)) | (k_here; (with_reducible show wpAny _ _ (call (Value.builtin "list.append") [Value.ref _, _]) _ _ _); k_dflt (refine' append_K ?k1 ?k2 ?k3 ?_ ?z; (case k1 => k_asm); (case k2 => k_asm); (case k3 => k_upd); (case z => with_reducible assumption); k_whole); intro _ _ _; (try k_sweep)))) | (k_here; (with_reducible show wpAny _ _ (subscriptTail _ (Expr.UnaryOp _ _ _) (Value.ref _) (Value.int _ _)) _ _ _); k_dflt (refine' last_item ?j1 ?j2 ?j3 ?_; (case j1 => k_asm); (case j2 => k_mem); (case j3 => rfl))) | ((with_reducible show wpAny _ _ (call _ _) _ _ _); first | (k_here; (with_reducible show wpAny _ _ (call (Value.ref 63) [Value.str _ _, Value.str _ _]) _ _ _); k_dflt (refine' ellipsis_3 ?jB ?jF ?jX ?jN ?jT ?jk ?jd ?ju ?p1 ?p2 ?p3 ?p4 ?p5 ?p6 ?p7 ?p8 ?_; (case jB => k_asm); (case jF => k_asm); (case jX => k_asm); (case jN => k_asm); (case jT => k_asm); (case jk => exact rfl); (case jd => ((try dsimp only [ktrTop]); omega)); (case ju => ((try dsimp only [ktrTop]); omega)); (case p1 => first | with_reducible assumption | omega | (simp only [sapp_len]; omega)); (case p2 => first | with_reducible assumption | omega | (simp only [sapp_len]; omega)); (case p3 => with_reducible assumption); (case p4 => with_reducible assumption); (case p5 => with_reducible assumption); (case p6 => with_reducible assumption); (case p7 => with_reducible assumption); (case p8 => with_reducible assumption); k_whole); intro _ _ _ _; (try dsimp only); (try k_fold)) | (k_here; (with_reducible show wpAny _ _ (call (Value.ref 112) [Value.str _ _, Value.str _ _]) _ _ _); k_dflt (refine' contains_str ?jB ?jF ?jX ?jN ?jT ?jk ?jd ?ju ?p1 ?p2 ?_; (case jB => k_asm); (case jF => k_asm); (case jX => k_asm); (case jN => k_asm); (case jT => k_asm); (case jk => exact rfl); (case jd => ((try dsimp only [ktrTop]); omega)); (case ju => ((try dsimp only [ktrTop]); omega)); (case p1 => first | with_reducible assumption | omega | (simp only [sapp_len]; omega)); (case p2 => first | with_reducible assumption | omega | (simp only [sapp_len]; omega)); k_whole); intro _ _ _ _; (try dsimp only); (try k_fold)) | (k_here; (with_reducible show wpAny _ _ (call (Value.ref 77) [Value.str _ _, Value.int _ _]) _ _ _); k_dflt (refine' mul_str ?jB ?jF ?jX ?jN ?jT ?jk ?jd ?ju ?p1 ?p2 ?p3 ?_; (case jB => k_asm); (case jF => k_asm); (case jX => k_asm); (case jN => k_asm); (case jT => k_asm); (case jk => exact rfl); (case jd => ((try dsimp only [ktrTop]); omega)); (case ju => ((try dsimp only [ktrTop]); omega)); (case p1 => first | with_reducible assumption | omega | (simp only [sapp_len]; omega)); (case p2 => first | with_reducible assumption | omega); (case p3 => first | with_reducible assumption | omega); k_whole); intro _ _ _ _ _; (try dsimp only); (try k_fold)) | (k_here; (with_reducible show wpAny _ _ (call (Value.ref 105) [Value.str _ _, Value.str _ _]) _ _ _); k_dflt (refine' concat_str ?jB ?jF ?jX ?jN ?jT ?jk ?jd ?ju ?p1 ?p2 ?_; (case jB => k_asm); (case jF => k_asm); (case jX => k_asm); (case jN => k_asm); (case jT => k_asm); (case jk => exact rfl); (case jd => ((try dsimp only [ktrTop]); omega)); (case ju => ((try dsimp only [ktrTop]); omega)); (case p1 => first | with_reducible assumption | omega | (simp only [sapp_len]; omega)); (case p2 => first | with_reducible assumption | omega | (simp only [sapp_len]; omega)); k_whole); intro _ _ _ _ _; (try dsimp only); (try k_fold)) | (k_here; (with_reducible show wpAny _ _ (call (Value.builtin "list.append") [Value.ref _, _]) _ _ _); k_dflt (refine' append_K ?k1 ?k2 ?k3 ?_ ?z; (case k1 => k_asm); (case k2 => k_asm); (case k3 => k_upd); (case z => with_reducible assumption); k_whole); intro _ _ _; (try k_sweep))) | walk1) | (leave1; (try dsimp only)) | fail "no step"))
      · exfalso
        rename (_ != _) = true => hx9
        rw [← hb1] at hx9
        simp at hx9
      · rename Fr _ _ _ _ => Fe
        rename News _ _ _ _ => Ne
        rw [show (bs.map Value.bool).toArray.push (.bool b0) = ((bs ++ [b0]).map Value.bool).toArray by simp] at Ne
        refine TurnEnd.intro Fe Ne ?_ ⟨_, _, bs ++ [b0], _, rfl, rfl, rfl, rfl, by rw [List.length_append, List.length_singleton]; exact Nat.succ_le_succ hbl, ?_⟩
        · intro p hp
          rcases List.mem_cons.mp hp with rfl | hp
          · exact hne2 _ (.head _)
          rcases List.mem_cons.mp hp with rfl | hp
          · exact q1.symm
          · exact hne2 _ (.tail _ (.tail _ hp))
        · rw [List.any_append, hba, List.range_succ, List.any_append, hb0]
          simp [Bool.or_assoc]
    · rintro m₂ led₂ h4 tk4 ⟨tt, t2, bs, k, hn1, hn2, hn3, rfl, hbl, hba⟩ Ft Nt
      rw [pin3 hn1 hn2 hn3] at Ft
      change Fr g' L' h4 _ at Ft
      change News g' L' h4 _ at Nt
      dsimp only at Ft ⊢
      k_steps
      refine TurnEnd.intro Ft Nt ?_ ⟨_, bs, _, rfl, rfl, rfl, Nat.le_trans hbl (by rw [Nat.mul_succ]; exact Nat.add_le_add_left (sub_le_of hz) _), ?_⟩
      · intro p hp
        rcases List.mem_cons.mp hp with rfl | hp
        · exact hne (l, listOf (bs0.map Value.bool).toArray k0) (.head _)
        · exact hne _ (.tail _ hp)
      · rw [hba, List.range_succ, List.any_append]
        simp
  · rintro m₁ led h tk ⟨tt, bs, k, hm1, hm2, rfl, hbl, hba⟩ Ft Nt
    rw [pin2 hm1 hm2] at Ft
    change Fr g' L' h _ at Ft
    change News g' L' h _ at Nt
    dsimp only at Ft ⊢
    k_steps
    refine contains_R (xs := bs.map PyData.bool) (d := .bool true) (by k_asm) (by k_asm) (by k_asm) (by k_asm) (by k_asm) rfl (by dsimp only [ktrTop, Around.deeper]; omega) (by dsimp only [ktrTop, Around.deeper]; omega) ?_ ?_ rfl ?_ ?_
    · intro h9 hm9
      exact ⟨⟨_, .list (hm9 _ (.head _)) rfl rfl (reads_bools h9 bs)⟩, ⟨_, .bool true⟩⟩
    · exact bools_lay bs
    · decide
    · intro h5 tk5 F5 N5
      k_steps
      rename_i kF kN _ _
      rw [any_true, hba]
      exact hret _ _ kF (cb_drop kN fun p hp => .tail _ hp)
end
end X2
theorem set_back_X2_z : True := by first | walk1 | trivial
-- X3
section X3
set_option maxRecDepth 100000
set_option maxHeartbeats 8000000
theorem set_back_X3 : True := by
  w_top off
  first | walk1 | trivial
section
variable {w : World} {p : Program} {loose : List Str} {mean : ExcName → Option Value} {mg mb : Str → Option Value}
    {dp un : Nat} {gd : Option (List Code)} {cn : Str} {cs : Scope} {a : Addr} {ccd : Value} {cl : List (Str × Addr)} {outer : List Env} {A₀ : Around} {base h₀ : Heap} {L : Addr} {m : Str → Option Value} {s : Shared} {Q E : Value → Shared → Prop}
    {g : List (Addr × Obj) → List (Addr × Obj)} {rest led news : List (Addr × Obj)}
theorem ends_spec
    (B : Below A₀ base outer h₀) (F : Fr h₀ L s.heap m) (X : (Mine.hd.heap_39 w.params).In h₀)
    (N : News h₀ L s.heap news) (T : Top p loose mean mg mb h₀) (hk : cs.kind = .function) (hd : dp + 20 < recursionLimit) (hu : un + 200 < cLine)
    (hret : ∀ (D e1 e2 e3 e4 e5 : Addr) (t1 t2 t3 t4 t5 t6 : Tok) h' tk', (∀ p ∈ news, p.1 < e1) → (@LT.lt Nat _ e1 e2 ∧ @LT.lt Nat _ e2 e3 ∧ @LT.lt Nat _ e3 e4 ∧ @LT.lt Nat _ e4 e5 ∧ @LT.lt Nat _ e5 D) → Fr h₀ L h' m →
      News h₀ L h' ((D, listOf #[.ref e1, .ref e2, .ref e3, .ref e4, .ref e5] 0) :: (e5, listOf #[.int 1 t5, .int 1 t6] 0) :: (e4, listOf #[.int 0 t3, .int 0 t4] 0) :: (e3, listOf #[.int 1 t2] 0) :: (e2, listOf #[.int 0 t1] 0) :: (e1, listOf #[] 0) :: news) → Q (.ref D) { s with heap := h', toks := tk' }) :
    wpAny (model PySem.Challenge.rw_ti0020_01.row.prog w) (ktrTop dp un gd cn cs L a ccd cl outer) (call (.ref 141) []) Q E s := by
  (rename Frag.In _ _ => Xfill; revert Xfill; k_fill; intro Xfill)
  refine wpAny_call ?_
  k_dflt cell_enter
  rename_i g' L' h' FG' F' N' B' X' T'
  clear N FG'
  k_steps
  rename_i e1 _ o1 e2 _ o2 e3 _ o3 e4 _ o4 e5 _ o5 D _ _ _ oD kF kN _ _
  exact hret _ _ _ _ _ _ _ _ _ _ _ _ _ _ o1 ⟨o2.1, o3.1, o4.1, o5.1, oD.1⟩ kF kN
end
end X3
theorem set_back_X3_z : True := by first | walk1 | trivial
-- Comp2
section Comp2
set_option maxRecDepth 100000
set_option maxHeartbeats 8000000
section
variable {prog : Program} {w : World} {A : Around} {s : Shared} {h₀ : Heap} {L : Addr} {m : Str → Option Value} {env : Env} {elt : Expr} {x : Str} {scope : Scope} {cl : List (Str × Addr)}
/-- an element of a list comprehension has come out as the number r, the ledger as before -/
def IntEnd (h₀ : Heap) (L : Addr) (m : Str → Option Value) (s₁ : Shared) (led : List (Addr × Obj)) (r : Int) (y : Value) (s₂ : Shared) : Prop :=
  ∃ h' tk t, y = .int r t ∧ s₂ = { s₁ with heap := h', toks := tk } ∧ Fr h₀ L h' m ∧ News h₀ L h' led
theorem IntEnd.intro {s₁ : Shared} {led : List (Addr × Obj)} {r : Int} {t : Tok} {h' : Heap} {tk : Nat} (F : Fr h₀ L h' m) (N : News h₀ L h' led) : IntEnd h₀ L m s₁ led r (.int r t) { s₁ with heap := h', toks := tk } := ⟨h', tk, t, rfl, rfl, F, N⟩
/-- [f(k) for k in l], l a list of numbers of the ledger's, f(k) a number -/
theorem src_map_ints (f : Int → Int) {Fin : Shared → List Value → List (Addr × Obj) → Prop} {ax : Addr} {vs : List Value} {ns : List Int} {k : Nat} {news : List (Addr × Obj)}
    (hh : A.handled = none) (F : Fr h₀ L s.heap m) (N : News h₀ L s.heap news) (hm : (ax, listOf vs.toArray k) ∈ news) (hi : IntsAre vs ns) (hz : ns.length ≤ 1000)
    (step : ∀ (g : Heap) (kk : Int) (tb : Tok) (ys : List Value) (I : Addr) (oI : Obj) (C : Addr) (oC : Obj) (D : Addr) (m₂ : Str → Option Value) (h : Heap) (tk : Nat) (E' : Value → Shared → Prop), kk ∈ ns → LCg.NsObj oC m₂ → m₂ x = some (.int kk tb) → Fr h₀ L h m → News h₀ L h ((I, oI) :: (C, oC) :: (D, LCg.lst ys) :: news) →
      wpAny (model prog w) A (eval elt (compEnvC scope cl C env)) (IntEnd h₀ L m { s with heap := h, toks := tk } ((I, oI) :: (C, oC) :: (D, LCg.lst ys) :: news) (f kk)) E' { s with heap := h, toks := tk })
    (fin : ∀ g ys, IntsAre ys (ns.map f) → Fin { s with heap := g } ys news) : LCg.CompSrc prog w A h₀ L m env elt x scope cl Fin (.ref ax) s := by
  have hvn : vs.length = ns.length := hi.length
  refine src_inv hh F N hm (by rw [List.size_toArray, hvn]; exact size_okC hz) (fun i ys nw => nw = news ∧ IntsAre ys ((ns.take i).map f)) ⟨rfl, .nil⟩ ?_ ?_
  · rintro g i v ys nw I oI C oC D m₂ h tk E' hin hv ⟨rfl, hys⟩ hoC hb Ft Nt off ne
    obtain ⟨kk, tb, rfl, hk, htk⟩ := ints_at hi hv
    refine wpAny_mono (step g kk tb ys I oI C oC D m₂ h tk E' (List.mem_of_getElem? hk) hoC hb Ft Nt) (fun y s₂ hy => ?_) fun _ _ e => e
    obtain ⟨h', tk', t, rfl, rfl, F', N'⟩ := hy
    exact LCg.CompEnd.intro F' N' _ (fun p hp => hp) off (.inr ⟨_, hm, rfl, _, rfl⟩) ⟨rfl, by rw [htk, List.map_append]; exact ints_snoc hys⟩
  · rintro s₁ ys nw ⟨g, rfl⟩ ⟨rfl, hys⟩
    rw [List.size_toArray, hvn, List.take_length] at hys
    exact fin g ys hys
end
end Comp2
-- Comp3
section Comp3
set_option maxRecDepth 100000
set_option maxHeartbeats 8000000
/-- a fact that only the rules that ask for it may see -/
structure Hid (p : Prop) : Prop where
  out : p
section
variable {prog : Program} {w : World} {A : Around} {E : Value → Shared → Prop} {R : Result → Shared → Prop} {s : Shared}
theorem compTurn_two (elt t1 t2 i1 i2 : Expr) (scope : Scope) (pos : Pos) (it acc : Value) (env : Env) :
    compTurn (.ListComp elt [⟨t1, i1, [], 0⟩, ⟨t2, i2, [], 0⟩] scope pos) 0 it acc env = (do
      standAt i1.pos
      match ← pyNext it with
      | none => pure (.done .next)
      | some v =>
        letOwnedTupleGo t1 it v
        assign t1 env v
        let mut ok := true
        for c in [] do
          if ok then ok ← isTrue c env (eval c env)
        if ok then
          let x ← eval i2 env
          standAt i2.pos
          let x ← foldedSetIterable i2 env x
          let _ ← runOwn (.compStart (.ListComp elt [⟨t1, i1, [], 0⟩, ⟨t2, i2, [], 0⟩] scope pos) 1 (← holding [x] (pyIter x)) acc env) env
        again (.compLoop (.ListComp elt [⟨t1, i1, [], 0⟩, ⟨t2, i2, [], 0⟩] scope pos) 0 it acc env)) := by rfl
theorem compTurn_two1 (elt t1 t2 i1 i2 : Expr) (scope : Scope) (pos : Pos) (it acc : Value) (env : Env) :
    compTurn (.ListComp elt [⟨t1, i1, [], 0⟩, ⟨t2, i2, [], 0⟩] scope pos) 1 it acc env = (do
      standAt i2.pos
      match ← pyNext it with
      | none => pure (.done .next)
      | some v =>
        letOwnedTupleGo t2 it v
        assign t2 env v
        let mut ok := true
        for c in [] do
          if ok then ok ← isTrue c env (eval c env)
        if ok then
          (do let _ ← call (.builtin "list.append") [acc, ← eval elt env])
        again (.compLoop (.ListComp elt [⟨t1, i1, [], 0⟩, ⟨t2, i2, [], 0⟩] scope pos) 1 it acc env)) := by rfl
theorem codeAny_two1 {elt t1 t2 i1 i2 : Expr} {scope : Scope} {pos : Pos} {it acc : Value} {env : Env} (I : Nat → Shared → Prop)
    (turn : ∀ n s, I n s → wpAny (model prog w) A (pyNext it) (fun r s₁ => match r with
      | none => R (.ok .next) s₁
      | some v => wpAny (model prog w) A (assign t2 env v) (fun _ s₂ =>
            wpAny (model prog w) A (eval elt env) (fun x s₄ =>
              wpAny (model prog w) A (call (.builtin "list.append") [acc, x]) (fun _ s₅ => ∃ m, m < n ∧ I m s₅) (notedBy (model prog w) A env fun e s' => R (.error e) s') s₄) (notedBy (model prog w) A env fun e s' => R (.error e) s') s₂) (notedBy (model prog w) A env fun e s' => R (.error e) s') s₁) (notedBy (model prog w) A env fun e s' => R (.error e) s') s)
    (n : Nat) (h : I n s) (ht : ∀ v, letOwnedTupleGo t2 it v = pure () := by intro _; rfl) :
    codeAny (model prog w) A (.compLoop (.ListComp elt [⟨t1, i1, [], 0⟩, ⟨t2, i2, [], 0⟩] scope pos) 1 it acc env) R s := by
  refine codeAny_loop rfl I (fun n s hI => ?_) n h
  show wpAny _ A ((compTurn (.ListComp elt [⟨t1, i1, [], 0⟩, ⟨t2, i2, [], 0⟩] scope pos) 1 it acc env).onRaise (fun x => do noteFrame x env; theTreesLotGoes x)) _ _ s
  refine wpAny_noted ?_
  rw [compTurn_two1]
  refine wpAny_bind (wpAny_standAt (wpAny_bind (wpAny_mono (turn n s hI) (fun r s₁ h₁ => ?_) fun _ _ h' => h')))
  cases r with
  | none => exact wpAny_pure h₁
  | some v =>
    refine wpAny_bind (wpAny_of_eq (ht v) ?_)
    refine wpAny_bind (wpAny_mono h₁ (fun _ s₂ h₂ => wpAny_bind (wpAny_tests_nil ?_)) fun _ _ h' => h')
    exact wpAny_bind (wpAny_bind (wpAny_mono h₂ (fun x s₄ h₄ => wpAny_bind (wpAny_mono h₄ (fun _ s₅ h₅ => wpAny_pure (wpAny_pure ⟨rfl, h₅⟩)) fun _ _ h' => h')) fun _ _ h' => h'))
theorem codeAny_two0 {elt t1 t2 i1 i2 : Expr} {scope : Scope} {pos : Pos} {it acc : Value} {env : Env} (I : Nat → Shared → Prop)
    (turn : ∀ n s (E' : Value → Shared → Prop), I n s → wpAny (model prog w) A (pyNext it) (fun r s₁ => match r with
      | none => R (.ok .next) s₁
      | some v => wpAny (model prog w) A (assign t1 env v) (fun _ s₂ =>
            wpAny (model prog w) A (eval i2 env) (fun x s₄ =>
              wpAny (model prog w) A (pyIter x) (fun it2 s₅ => ∀ E₂ : Value → Shared → Prop, codeAny (model prog w) A (.compStart (.ListComp elt [⟨t1, i1, [], 0⟩, ⟨t2, i2, [], 0⟩] scope pos) 1 it2 acc env)
                (fun r s₆ => match r with | .ok _ => ∃ m, m < n ∧ I m s₆ | .error e => E₂ e s₆) s₅) E' s₄) E' s₂) E' s₁) E' s)
    (n : Nat) (h : I n s) (ht : ∀ v, letOwnedTupleGo t1 it v = pure () := by intro _; rfl) (hs2 : ∀ x, foldedSetIterable i2 env x = pure x := by intro _; rfl) :
    codeAny (model prog w) A (.compLoop (.ListComp elt [⟨t1, i1, [], 0⟩, ⟨t2, i2, [], 0⟩] scope pos) 0 it acc env) R s := by
  refine codeAny_loop rfl I (fun n s hI => ?_) n h
  show wpAny _ A ((compTurn (.ListComp elt [⟨t1, i1, [], 0⟩, ⟨t2, i2, [], 0⟩] scope pos) 0 it acc env).onRaise (fun x => do noteFrame x env; theTreesLotGoes x)) _ _ s
  refine wpAny_noted ?_
  rw [compTurn_two]
  refine wpAny_bind (wpAny_standAt (wpAny_bind (wpAny_mono (turn n s _ hI) (fun r s₁ h₁ => ?_) fun _ _ h' => h')))
  cases r with
  | none => exact wpAny_pure h₁
  | some v =>
    refine wpAny_bind (wpAny_of_eq (ht v) ?_)
    refine wpAny_bind (wpAny_mono h₁ (fun _ s₂ h₂ => wpAny_bind (wpAny_tests_nil ?_)) fun _ _ h' => h')
    refine wpAny_bind (wpAny_mono h₂ (fun x s₄ h₄ => wpAny_bind (wpAny_standAt (wpAny_bind (wpAny_of_eq (hs2 x) (wpAny_bind (wpAny_holding (wpAny_mono h₄ (fun it2 s₅ h₅ => ?_) fun _ _ h' => h'))))))) fun _ _ h' => h')
    refine wpAny_bind (wpAny_runOwn ?_)
    rw [Around.mark_none]
    refine codeAny_mono (h₅ fun e s' => cameBackBy (model prog w) A env (notedBy (model prog w) A env fun e s' => R (.error e) s') e s') fun r s₆ h₆ => ?_
    cases r with
    | ok f => exact wpAny_pure ⟨rfl, h₆⟩
    | error e => exact h₆
theorem codeAny_compStart1 {elt t1 t2 i1 i2 : Expr} {scope : Scope} {pos : Pos} {it acc : Value} {env : Env}
    (h0 : codeAny (model prog w) A (.compLoop (.ListComp elt [⟨t1, i1, [], 0⟩, ⟨t2, i2, [], 0⟩] scope pos) 1 it acc env) R s)
    (h : wpAny (model prog w) A (pyIter it) (fun it' s' => codeAny (model prog w) A (.compLoop (.ListComp elt [⟨t1, i1, [], 0⟩, ⟨t2, i2, [], 0⟩] scope pos) 1 it' acc env) R s')
      (notedBy (model prog w) A env fun x s' => R (.error x) s') s) :
    codeAny (model prog w) A (.compStart (.ListComp elt [⟨t1, i1, [], 0⟩, ⟨t2, i2, [], 0⟩] scope pos) 1 it acc env) R s := by
  refine codeAny_of_tree ?_
  show wpAny _ _ ((compStart (.ListComp elt [⟨t1, i1, [], 0⟩, ⟨t2, i2, [], 0⟩] scope pos) 1 it acc env).onRaise (fun x => do noteFrame x env; standAt theWindowsPlace)) _ _ s
  refine wpAny_notedAt ?_
  unfold compStart
  show wpAny _ _ (ask >>= _) _ _ s
  refine wpAny_bind (wpAny_askSetting (wpAny_ite ?_))
  split
  · first
      | exact wpAny_bind (wpAny_pure (wpAny_pure (And.intro rfl h0)))
      | exact wpAny_pure (And.intro rfl h0)
  · first
      | exact wpAny_bind (wpAny_rule (wpAny_bind (wpAny_standAt (wpAny_bind (wpAny_mono h (fun it' s' h' => wpAny_pure (And.intro rfl h')) fun _ _ x => x)))))
      | (refine wpAny_bind (wpAny_rule ?_); show wpAny _ _ (standAt i2.pos >>= _) _ _ s; exact wpAny_bind (wpAny_standAt (wpAny_bind (wpAny_mono h (fun it' s' h' => wpAny_pure (And.intro rfl h')) fun _ _ x => x))))
/-- the inner clause's turns -/
theorem inner2 {i1 i2 : Expr} {t1 : Expr} {y : Str} {py pe : Pos} {scope : Scope} {cl : List (Str × Addr)} {pos : Pos} {env : Env} {I2 bx C D : Addr} {ys zs : List Value} {m' : Str → Option Value}
    (hh : A.handled = none) (hkind : scope.kind = .function) (hy : scope.names.lookup y = some .local) (hyd : (y == ("__debug__" : Str)) = false)
    (hit : s.heap.IsListIter I2 bx 0) (hl : s.heap.IsList bx zs.toArray) (hb : @Ne Nat bx I2 ∧ @Ne Nat bx C ∧ @Ne Nat bx D ∧ @Ne Nat I2 C ∧ @Ne Nat I2 D ∧ @Ne Nat C D)
    (hn : s.heap.Ns C m') (hD : s.heap.get? D = some (LCg.lst ys)) (hsz : ys.length + zs.length ≤ 1000)
    (hR : ∀ h' tk m'', h'.Ns C m'' → h'.get? D = some (LCg.lst (ys ++ zs)) → (∀ b o, b ∉ [I2, C, D] → s.heap.get? b = some o → h'.get? b = some o) → R (.ok .next) { s with heap := h', toks := tk }) :
    codeAny (model prog w) A (.compStart (.ListComp (.Name y pe) [⟨t1, i1, [], 0⟩, ⟨.Name y py, i2, [], 0⟩] scope pos) 1 (.ref I2) (.ref D) (compEnvC scope cl C env)) R s := by
  obtain ⟨hb1, hb2, hb3, hb4, hb5, hb6⟩ := hb
  have W := Walks.list (prog := prog) (w := w) (A := A) hh I2 bx hb1 zs.toArray
  have loop : codeAny (model prog w) A (.compLoop (.ListComp (.Name y pe) [⟨t1, i1, [], 0⟩, ⟨.Name y py, i2, [], 0⟩] scope pos) 1 (.ref I2) (.ref D) (compEnvC scope cl C env)) R s := by
    refine codeAny_two1 (fun k s' => ∃ h' tk i m'', s' = { s with heap := h', toks := tk } ∧ i ≤ zs.length ∧ k = zs.length + 1 - i ∧ (h'.IsListIter I2 bx i ∧ h'.IsList bx zs.toArray) ∧ h'.Ns C m'' ∧ h'.get? D = some (LCg.lst (ys ++ zs.take i)) ∧ (∀ b o, b ∉ [I2, C, D] → s.heap.get? b = some o → h'.get? b = some o)) ?_ (zs.length + 1)
      ⟨s.heap, s.toks, 0, m', rfl, Nat.zero_le _, rfl, ⟨hit, hl⟩, hn, by simpa using hD, fun _ _ _ e => e⟩
    rintro k s' ⟨h', tk, i, m'', rfl, hi, rfl, hst, hn', hD', hk'⟩
    by_cases hlt : i < zs.length
    · refine W.item i _ _ _ (by simpa using hlt) hst fun v h₂ tk₂ hv hst₂ hk₂ => ?_
      have hn₂ := hn'.at' fun o e => hk₂ _ o (by simpa using Ne.symm hb4) e
      have hD₂ := hk₂ D _ (by simpa using Ne.symm hb5) hD'
      refine wpAny_assign_Name (wpAny_storeName_local (lookup_relabel_local hy) hn₂ (fun h₃ hn₃ hs₃ => ?_) (by simp [compEnvC, relabel, hkind]))
      refine wpAny_Name (wpAny_loadName_local (by simp [compEnvC, relabel, hkind]) (lookup_relabel_local hy) hn₃ (if_pos rfl) ?_) hyd
      have hD₃ := hs₃.extBut D _ (Ne.symm hb6) hD₂
      have hst₃ := W.frame _ _ h₃ hst₂ fun b hb o e => hs₃.extBut b o (by rcases List.mem_cons.mp hb with rfl | hb; exact hb4; rw [List.mem_singleton.mp hb]; exact hb2) e
      refine append_at (hsz := by rw [List.size_toArray, List.length_append, List.length_take]; exact size_okC (by omega)) hD₃ fun h₅ hs₅ hD₅ => ?_
      refine ⟨zs.length + 1 - (i + 1), by omega, h₅, _, i + 1, _, rfl, hlt, rfl, W.frame _ _ h₅ hst₃ fun b hb o e => hs₅.extBut b o (by rcases List.mem_cons.mp hb with rfl | hb; exact hb5; rw [List.mem_singleton.mp hb]; exact hb3) e, hn₃.sameBut hs₅ hb6, ?_, ?_⟩
      · rw [hD₅, LCg.lst_snoc]
        have hv' : zs[i]? = some v := by simpa using hv
        rw [List.take_add_one, hv', List.append_assoc]; rfl
      · intro b o hb e
        simp only [List.mem_cons, List.not_mem_nil, or_false, not_or] at hb
        exact hs₅.extBut b o hb.2.2 (hs₃.extBut b o hb.2.1 (hk₂ b o (by simpa using hb.1) (hk' b o (by simp [hb]) e)))
    · obtain rfl : i = zs.length := Nat.le_antisymm hi (Nat.not_lt.mp hlt)
      refine W.done _ _ _ (by simpa using hst) fun h₂ tk₂ hk₂ => ?_
      refine hR h₂ tk₂ m'' (hn'.at' fun o e => hk₂ _ o (by simpa using Ne.symm hb4) e) ?_ ?_
      · rw [List.take_length] at hD'
        exact hk₂ D _ (by simpa using Ne.symm hb5) hD'
      · intro b o hb e
        exact hk₂ b o (by simp only [List.mem_cons, List.not_mem_nil, or_false, not_or] at hb; simpa using hb.1) (hk' b o hb e)
  exact codeAny_compStart1 loop (wpAny_pyIter_listiter hit loop)
/-- the outer clause: a list of the ledger's; J i ys between the turns -/
def Src2 (prog : Program) (w : World) (A : Around) (h₀ : Heap) (L : Addr) (m : Str → Option Value) (env : Env) (iter2 : Expr) (x : Str) (scope : Scope) (cl : List (Str × Addr)) (Q : Value → Shared → Prop) (xv : Value) (s₁ : Shared) : Prop :=
  ∃ ax its k news, ∃ J : Nat → List Value → Prop, xv = .ref ax ∧ A.handled = none ∧ Fr h₀ L s₁.heap m ∧ News h₀ L s₁.heap news ∧ (ax, listOf its k) ∈ news ∧ its.size ≤ 1000 ∧ J 0 [] ∧
    (∀ i v ys I oI C oC D m₂ h tk (E' : Value → Shared → Prop), its[i]? = some v → J i ys → LCg.NsObj oC m₂ → m₂ x = some v → Fr h₀ L h m → News h₀ L h ((I, oI) :: (C, oC) :: (D, LCg.lst ys) :: news) → 
      wpAny (model prog w) A (eval iter2 (compEnvC scope cl C env)) (fun b s' => ∃ h' tk' bx zs n, b = .ref bx ∧ s' = { s₁ with heap := h', toks := tk' } ∧ Fr h₀ L h' m ∧ News h₀ L h' ((bx, listOf (List.toArray zs) n) :: (I, oI) :: (C, oC) :: (D, LCg.lst ys) :: news) ∧ (@Ne Nat bx I ∧ @Ne Nat bx C ∧ @Ne Nat bx D) ∧ J (i + 1) (ys ++ zs) ∧ ys.length + zs.length ≤ 1000) E' { s₁ with heap := h, toks := tk }) ∧
    (∀ D ys h tk, J its.size ys → Fr h₀ L h m → News h₀ L h ((D, LCg.lst ys) :: news) → LCg.Off1 D news → Q (.ref D) { s₁ with heap := h, toks := tk })
theorem ListComp_2 {h₀ : Heap} {L : Addr} {m : Str → Option Value} {env : Env} {iter iter2 : Expr} {x y : Str} {px py pe : Pos} {scope : Scope} {cl : List (Str × Addr)} {pos : Pos} {Q : Value → Shared → Prop} (_F₀ : Fr h₀ L s.heap m)
    (hclos : closureFor scope env = pure cl) (hcell : ∀ z ∈ scope.names, z.2 ≠ .cell) (hkind : scope.kind = .function)
    (hnames : ∀ z ∈ scope.names, z.2 = .local → scope.names.lookup z.1 = some .local) (hx : scope.names.lookup x = some .local) (hy : scope.names.lookup y = some .local) (hyd : (y == ("__debug__" : Str)) = false)
    (h : wpAny (model prog w) A (eval iter env) (Src2 prog w A h₀ L m env iter2 x scope cl Q) E s)
    (hs : ∀ x, foldedSetIterable iter env x = pure x := by intro _; rfl) (hs2 : ∀ env x, foldedSetIterable iter2 env x = pure x := by intro _ _; rfl) :
    wpAny (model prog w) A (eval (.ListComp (.Name y pe) [⟨.Name x px, iter, [], 0⟩, ⟨.Name y py, iter2, [], 0⟩] scope pos) env) Q E s := by
  rw [eval_ListComp]
  refine wpAny_comprehension_free (use := none) rfl hs hclos hkind hnames (wpAny_mono h (fun xv s₁ h₁ => ?_) fun _ _ e => e)
  obtain ⟨ax, its, k, news, J, rfl, hh, F, N, hm, hsz, hJ0, step, fin⟩ := h₁
  have hl : s₁.heap.IsList ax its := ⟨_, (N _ hm).1, rfl, _, rfl⟩
  have hlt : ax < s₁.heap.objs.size := Heap.lt_size (N _ hm).1
  refine wpAny_pyIter_list hl ?_
  refine wpAny_newObj_type (wpAny_newFunctionEnv hcell (by intro y hy; simp at hy) (fun h₁ hns₁ hsb₁ => ?_) hkind)
  dsimp only at hns₁ hsb₁ ⊢
  obtain ⟨I, hI⟩ : ∃ I, I = s₁.heap.objs.size := ⟨_, rfl⟩
  generalize hH1 : s₁.heap.push { cls := .type "list_iterator", data := .fields #[.ref ax, .int 0 0] } = H1 at hns₁ hsb₁ ⊢
  generalize hH2 : H1.push { cls := .type "list", dict := none, data := .seq ([] : List Value).toArray } = H2 at hns₁ hsb₁ ⊢
  have hs1 : H1.objs.size = I + 1 := by rw [← hH1, Heap.size_push, hI]
  have hs2' : H2.objs.size = I + 1 + 1 := by rw [← hH2, Heap.size_push, hs1]
  rw [hs2'] at hns₁ hsb₁
  rw [hs1, hs2']
  rw [← hI] at hlt ⊢
  have kI : H1.get? I = some { cls := .type "list_iterator", data := .fields #[.ref ax, .int 0 0] } := by rw [← hH1, hI]; exact Heap.get?_push_size _ rfl
  have kD : H2.get? (I + 1) = some (LCg.lst []) := by rw [← hH2, ← hs1]; exact Heap.get?_push_size _ rfl
  have u1 : ∀ b o, s₁.heap.get? b = some o → H1.get? b = some o := fun b o e => hH1 ▸ Heap.get?_push_of_some _ e
  have u2 : ∀ b o, H1.get? b = some o → H2.get? b = some o := fun b o e => hH2 ▸ Heap.get?_push_of_some _ e
  have kI2 := u2 _ _ kI
  have below : ∀ b o, H2.get? b = some o → @LT.lt Nat _ b (I + 1 + 1) := fun b o e => by have := Heap.lt_size e; rw [hs2'] at this; exact this
  have u3 : ∀ b o, H2.get? b = some o → h₁.get? b = some o := fun b o e => hsb₁.extBut b o (Nat.ne_of_lt (below b o e)) (Heap.get?_push_of_some _ e)
  have up : ∀ b o, s₁.heap.get? b = some o → h₁.get? b = some o := fun b o e => u3 b o (u2 b o (u1 b o e))
  have fresh : ∀ a, @LE.le Nat _ I a → s₁.heap.get? a = none := fun a ha => by
    cases e : s₁.heap.get? a with
    | none => rfl
    | some o' => exact absurd (Heap.lt_size e) (Nat.not_lt.mpr (hI ▸ ha))
  have fresh₀ : ∀ a, @LE.le Nat _ I a → h₀.get? a = none := fun a ha => by
    cases e : h₀.get? a with
    | none => rfl
    | some o' => have := F.keep a o' e; rw [fresh a ha] at this; cases this
  have hLlt : @LT.lt Nat _ L I := hI ▸ F.ns.lt
  have nlt : ∀ p ∈ news, @LT.lt Nat _ p.1 I := fun p hp => hI ▸ Heap.lt_size (N p hp).1
  have haxI : @LT.lt Nat _ ax I := nlt _ hm
  have q1 : @Ne Nat I (I + 1) := Nat.ne_of_lt (Nat.lt_succ_self I)
  have q2 : @Ne Nat I (I + 1 + 1) := Nat.ne_of_lt (Nat.lt_succ_of_lt (Nat.lt_succ_self I))
  have q3 : @Ne Nat (I + 1) (I + 1 + 1) := Nat.ne_of_lt (Nat.lt_succ_self (I + 1))
  have W := Walks.list (prog := prog) (w := w) (A := A) hh I ax (Nat.ne_of_lt haxI) its
  have post : ∀ (h' : Heap) tk m' ys, J its.size ys → Fr h₀ L h' m → News h₀ L h' ((I + 1, LCg.lst ys) :: news) → h'.Ns (I + 1 + 1) m' → compPost (model prog w) A E none Q (.ref (I + 1)) (I + 1 + 1) (.ok .next) { s₁ with heap := h', toks := tk } := by
    intro h' tk m' ys hj F' N' hn'
    refine ⟨m', hn', fun h'' hs'' => fin (I + 1) ys h'' tk hj (F'.change hs'' (Nat.ne_of_gt (Nat.lt_succ_of_lt (Nat.lt_succ_of_lt hLlt))) (fresh₀ _ (Nat.le_succ_of_le (Nat.le_succ I)))) (fun p hp => ?_) ?_⟩
    · refine ⟨hs''.extBut _ _ ?_ (N' p hp).1, (N' p hp).2⟩
      rcases List.mem_cons.mp hp with rfl | hp
      · exact q3
      · exact Nat.ne_of_lt (Nat.lt_succ_of_lt (Nat.lt_succ_of_lt (nlt p hp)))
    · have : ∀ l : List (Addr × Obj), (∀ p ∈ l, @LT.lt Nat _ p.1 I) → LCg.Off1 (I + 1) l := by
        intro l
        induction l with
        | nil => intro _; trivial
        | cons p r ih => intro hl; exact ⟨Nat.ne_of_lt (Nat.lt_succ_of_lt (hl p (.head _))), ih fun q hq => hl q (.tail _ hq)⟩
      exact this news nlt
  have loop : ∀ s₃ : Shared, s₃ = { s₁ with heap := h₁, toks := s₁.toks + ([] : List (Str × Value)).length } →
      codeAny (model prog w) A (.compLoop (.ListComp (.Name y pe) [⟨.Name x px, iter, [], 0⟩, ⟨.Name y py, iter2, [], 0⟩] scope pos) 0 (.ref I) (.ref (I + 1)) (compEnvC scope cl (I + 1 + 1) env))
        (compPost (model prog w) A E none Q (.ref (I + 1)) (I + 1 + 1)) s₃ := by
    rintro s₃ rfl
    refine codeAny_two0 (fun k s' => ∃ h' tk i ys m', s' = { s₁ with heap := h', toks := tk } ∧ i ≤ its.size ∧ k = its.size + 1 - i ∧ (h'.IsListIter I ax i ∧ h'.IsList ax its) ∧ Fr h₀ L h' m ∧ h'.Ns (I + 1 + 1) m' ∧ News h₀ L h' ((I + 1, LCg.lst ys) :: news) ∧ J i ys) ?_ (its.size + 1)
      ⟨h₁, _, 0, [], _, rfl, Nat.zero_le _, rfl, ⟨⟨_, u3 _ _ kI2, rfl, rfl⟩, ⟨_, up _ _ (N _ hm).1, rfl, _, rfl⟩⟩, F.keeps up, hns₁, fun p hp => ?_, hJ0⟩ (by intro _; rfl) (hs2 _)
    · rintro k s' E' ⟨h', tk, i, ys, m', rfl, hi, rfl, hst, F', hn', N', hj⟩
      by_cases hlt : i < its.size
      · refine W.item i _ _ _ hlt hst fun v h₂ tk₂ hv hst₂ hk₂ => ?_
        have hn₂ := hn'.at' fun o e => hk₂ _ o (by simpa using Ne.symm q2) e
        refine wpAny_assign_Name (wpAny_storeName_local (lookup_relabel_local hx) hn₂ (fun h₃ hn₃ hs₃ => ?_) (by simp [compEnvC, relabel, hkind]))
        have hst₃ := W.frame _ _ h₃ hst₂ fun b hb o e => hs₃.extBut b o (by
          rcases List.mem_cons.mp hb with rfl | hb
          · exact q2
          · rw [List.mem_singleton.mp hb]; exact Nat.ne_of_lt (Nat.lt_succ_of_lt (Nat.lt_succ_of_lt haxI))) e
        obtain ⟨oI, heI⟩ : ∃ o, h₃.get? I = some o := by obtain ⟨o, e, _⟩ := hst₃.1; exact ⟨o, e⟩
        obtain ⟨oC, heC, hoC⟩ := LCg.ns_obj hn₃
        have hLC : @Ne Nat (I + 1 + 1) L := Nat.ne_of_gt (Nat.lt_succ_of_lt (Nat.lt_succ_of_lt hLlt))
        have hC₀ := fresh₀ (I + 1 + 1) (Nat.le_succ_of_le (Nat.le_succ I))
        have F₃ : Fr h₀ L h₃ m := (LCg.fr_but F' hk₂ (Nat.ne_of_lt hLlt) (fresh₀ I (Nat.le_refl _))).change hs₃ hLC hC₀
        have N₂ : News h₀ L h₂ ((I + 1, LCg.lst ys) :: news) := LCg.news_but N' hk₂ fun p hp => by
          rcases List.mem_cons.mp hp with rfl | hp
          · exact Ne.symm q1
          · exact Nat.ne_of_lt (nlt p hp)
        have N₃ : News h₀ L h₃ ((I, oI) :: (I + 1 + 1, oC) :: (I + 1, LCg.lst ys) :: news) := fun p hp => by
          rcases List.mem_cons.mp hp with rfl | hp
          · exact ⟨heI, Nat.ne_of_gt hLlt, fresh₀ I (Nat.le_refl _)⟩
          · rcases List.mem_cons.mp hp with rfl | hp
            · exact ⟨heC, hLC, hC₀⟩
            · have z := N₂ p hp
              refine ⟨hs₃.extBut _ _ ?_ z.1, z.2⟩
              rcases List.mem_cons.mp hp with rfl | hp
              · exact q3
              · exact Nat.ne_of_lt (Nat.lt_succ_of_lt (Nat.lt_succ_of_lt (nlt p hp)))
        refine wpAny_mono (step i v ys I oI (I + 1 + 1) oC (I + 1) _ h₃ _ _ hv hj hoC (by simp) F₃ N₃) (fun b s₄ h₄ => ?_) fun _ _ e => e
        obtain ⟨h₄, tk₄, bx, zs, n, rfl, rfl, F₄, N₄, hne, hj', hyz⟩ := h₄
        have zb := (N₄ (bx, listOf zs.toArray n) List.mem_cons_self).1
        have zI := (N₄ (I, oI) (.tail _ (.head _))).1
        have zC := (N₄ (I + 1 + 1, oC) (.tail _ (.tail _ (.head _)))).1
        have zD := (N₄ (I + 1, LCg.lst ys) (.tail _ (.tail _ (.tail _ (.head _))))).1
        have N₄' : News h₀ L h₄ news := fun p hp => N₄ p (.tail _ (.tail _ (.tail _ (.tail _ hp))))
        refine wpAny_pyIter_list ⟨_, zb, rfl, _, rfl⟩ fun E₂ => ?_
        obtain ⟨I2, hI2⟩ : ∃ I2, I2 = h₄.objs.size := ⟨_, rfl⟩
        have lt4 : ∀ b o, h₄.get? b = some o → @LT.lt Nat _ b I2 := fun b o e => hI2 ▸ Heap.lt_size e
        have I2ge : @LT.lt Nat _ (I + 1 + 1) I2 := lt4 _ _ zC
        have I2I : @LT.lt Nat _ I I2 := lt4 _ _ zI
        have I2D : @LT.lt Nat _ (I + 1) I2 := lt4 _ _ zD
        generalize hH5 : h₄.push { cls := .type "list_iterator", data := .fields #[.ref bx, .int 0 0] } = H5
        have u5 : ∀ b o, h₄.get? b = some o → H5.get? b = some o := fun b o e => hH5 ▸ Heap.get?_push_of_some _ e
        have kI5 : H5.get? I2 = some { cls := .type "list_iterator", data := .fields #[.ref bx, .int 0 0] } := by rw [← hH5, hI2]; exact Heap.get?_push_size _ rfl
        refine inner2 (s := { s₁ with heap := H5, toks := tk₄ }) (I2 := h₄.objs.size) (bx := bx) (zs := zs) (ys := ys) hh hkind hy hyd ?_ ?_ ?_ (hoC.ns (u5 _ _ zC)) ?_ hyz ?_
        · rw [← hI2]; exact ⟨_, kI5, rfl, rfl⟩
        · exact ⟨_, u5 _ _ zb, rfl, _, rfl⟩
        · rw [← hI2]; exact ⟨Nat.ne_of_lt (lt4 _ _ zb), hne.2.1, hne.2.2, Nat.ne_of_gt I2ge, Nat.ne_of_gt I2D, Ne.symm q3⟩
        · exact u5 _ _ zD
        · intro h₆ tk₆ m₆ hn₆ hD₆ hk₆
          rw [← hI2] at hk₆
          have k6 : ∀ b o, h₄.get? b = some o → @Ne Nat b (I + 1 + 1) → @Ne Nat b (I + 1) → h₆.get? b = some o := fun b o e n1 n2 => hk₆ b o (by simp only [List.mem_cons, List.not_mem_nil, or_false, not_or]; exact ⟨Nat.ne_of_lt (lt4 _ _ e), n1, n2⟩) (u5 _ _ e)
          have hD₀ := fresh₀ (I + 1) (Nat.le_succ I)
          have hst₄ : h₄.IsListIter I ax (i + 1) ∧ h₄.IsList ax its := ⟨by obtain ⟨o', q, r⟩ := hst₃.1; rw [heI] at q; cases q; exact ⟨_, zI, r⟩, ⟨_, (N₄' _ hm).1, rfl, _, rfl⟩⟩
          refine ⟨its.size + 1 - (i + 1), by omega, h₆, tk₆, i + 1, ys ++ zs, m₆, rfl, hlt, rfl, W.frame _ _ h₆ hst₄ (fun b hb o e => ?_), ⟨F₄.ns.at' fun o e => k6 L o e (Ne.symm hLC) (Nat.ne_of_lt (Nat.lt_succ_of_lt hLlt)), fun b o e => k6 b o (F₄.keep b o e) (fun q => by have q' : b = I + 1 + 1 := q; rw [q', hC₀] at e; cases e) (fun q => by have q' : b = I + 1 := q; rw [q', hD₀] at e; cases e), F₄.above⟩, hn₆, fun p hp => ?_, hj'⟩
          · rcases List.mem_cons.mp hb with rfl | hb
            · exact k6 _ o e q2 q1
            · rw [List.mem_singleton.mp hb] at e ⊢
              exact k6 _ o e (Nat.ne_of_lt (Nat.lt_succ_of_lt (Nat.lt_succ_of_lt haxI))) (Nat.ne_of_lt (Nat.lt_succ_of_lt haxI))
          · rcases List.mem_cons.mp hp with rfl | hp
            · exact ⟨hD₆, Nat.ne_of_gt (Nat.lt_succ_of_lt hLlt), hD₀⟩
            · have z := N₄' p hp
              exact ⟨k6 _ _ z.1 (Nat.ne_of_lt (Nat.lt_succ_of_lt (Nat.lt_succ_of_lt (nlt p hp)))) (Nat.ne_of_lt (Nat.lt_succ_of_lt (nlt p hp))), z.2⟩
      · obtain rfl : i = its.size := Nat.le_antisymm hi (Nat.not_lt.mp hlt)
        refine W.done _ _ _ hst fun h₂ tk₂ hk₂ => ?_
        refine post h₂ tk₂ m' ys hj (LCg.fr_but F' hk₂ (Nat.ne_of_lt hLlt) (fresh₀ I (Nat.le_refl _))) (LCg.news_but N' hk₂ fun p hp => ?_) (hn'.at' fun o e => hk₂ _ o (by simpa using Ne.symm q2) e)
        rcases List.mem_cons.mp hp with rfl | hp
        · exact Ne.symm q1
        · exact Nat.ne_of_lt (nlt p hp)
    · rcases List.mem_cons.mp hp with rfl | hp
      · exact ⟨u3 _ _ kD, Nat.ne_of_gt (Nat.lt_succ_of_lt hLlt), fresh₀ _ (Nat.le_succ I)⟩
      · exact ⟨up _ _ (N p hp).1, (N p hp).2⟩
  exact codeAny_compStart_list (loop _ rfl) (wpAny_pyIter_listiter (i := 0) (l := ax) ⟨_, u3 _ _ kI2, rfl, rfl⟩ (loop _ rfl))
/-- the inner clause's iterable has come out as a fresh list of the numbers zs -/
def ListEnd (h₀ : Heap) (L : Addr) (m : Str → Option Value) (s₁ : Shared) (led : List (Addr × Obj)) (zs : List Int) (y : Value) (s₂ : Shared) : Prop :=
  ∃ h' tk bx vs n, y = .ref bx ∧ s₂ = { s₁ with heap := h', toks := tk } ∧ Fr h₀ L h' m ∧ News h₀ L h' ((bx, listOf (List.toArray vs) n) :: led) ∧ (∀ p ∈ led, p.1 ≠ bx) ∧ IntsAre vs zs
theorem ListEnd.intro {h₀ : Heap} {L : Addr} {m : Str → Option Value} {s₁ : Shared} {led : List (Addr × Obj)} {zs : List Int} {bx : Addr} {vs : List Value} {n : Nat} {h' : Heap} {tk : Nat} (F : Fr h₀ L h' m) (N : News h₀ L h' ((bx, listOf vs.toArray n) :: led)) (hl : ∀ p ∈ led, p.1 ≠ bx) (hv : IntsAre vs zs) : ListEnd h₀ L m s₁ led zs (.ref bx) { s₁ with heap := h', toks := tk } := ⟨h', tk, bx, vs, n, rfl, rfl, F, N, hl, hv⟩
theorem ints_append : ∀ {vs us : List Value} {ns ms : List Int}, IntsAre vs ns → IntsAre us ms → IntsAre (vs ++ us) (ns ++ ms)
  | _, _, _, _, .nil, h => h
  | _, _, _, _, .cons _ _ h, h' => .cons _ _ (ints_append h h')
theorem src2_ints (f : Int → List Int) {h₀ : Heap} {L : Addr} {m : Str → Option Value} {env : Env} {iter2 : Expr} {x : Str} {scope : Scope} {cl : List (Str × Addr)} {Q : Value → Shared → Prop} {ax : Addr} {vs : List Value} {ns : List Int} {k : Nat} {news : List (Addr × Obj)}
    (hh : A.handled = none) (F : Fr h₀ L s.heap m) (N : News h₀ L s.heap news) (hm : (ax, listOf vs.toArray k) ∈ news) (hi : IntsAre vs ns) (hz : ns.length ≤ 100) (hf : ∀ k, (f k).length ≤ 2)
    (step : ∀ (kk : Int) (tb : Tok) (ys : List Value) (I : Addr) (oI : Obj) (C : Addr) (oC : Obj) (D : Addr) (m₂ : Str → Option Value) (h : Heap) (tk : Nat) (E' : Value → Shared → Prop), kk ∈ ns → LCg.NsObj oC m₂ → m₂ x = some (.int kk tb) → Fr h₀ L h m → News h₀ L h ((I, oI) :: (C, oC) :: (D, LCg.lst ys) :: news) →
      wpAny (model prog w) A (eval iter2 (compEnvC scope cl C env)) (ListEnd h₀ L m { s with heap := h, toks := tk } ((I, oI) :: (C, oC) :: (D, LCg.lst ys) :: news) (f kk)) E' { s with heap := h, toks := tk })
    (fin : ∀ D ys h tk, IntsAre ys (ns.flatMap f) → Fr h₀ L h m → News h₀ L h ((D, LCg.lst ys) :: news) → LCg.Off1 D news → Q (.ref D) { s with heap := h, toks := tk }) :
    Src2 prog w A h₀ L m env iter2 x scope cl Q (.ref ax) s := by
  have hvn : vs.length = ns.length := hi.length
  refine ⟨ax, vs.toArray, k, news, fun i ys => IntsAre ys ((ns.take i).flatMap f) ∧ ys.length ≤ 2 * i, rfl, hh, F, N, hm, by rw [List.size_toArray, hvn]; omega, ⟨.nil, Nat.zero_le _⟩, ?_, ?_⟩
  · rintro i v ys I oI C oC D m₂ h tk E' hv ⟨hys, hyl⟩ hoC hb Ft Nt
    have hlt : i < ns.length := by
      rw [← hvn, ← List.size_toArray]
      exact (Array.getElem?_eq_some_iff.mp hv).1
    obtain ⟨kk, tb, rfl, hk, htk⟩ := ints_at hi hv
    refine wpAny_mono (step kk tb ys I oI C oC D m₂ h tk E' (List.mem_of_getElem? hk) hoC hb Ft Nt) (fun y s₂ hy => ?_) fun _ _ e => e
    obtain ⟨h', tk', bx, zs, n, rfl, rfl, F', N', hl', hz'⟩ := hy
    have hzl : zs.length ≤ 2 := by rw [hz'.length]; exact hf kk
    refine ⟨h', tk', bx, zs, n, rfl, rfl, F', N', ⟨(hl' _ (.head _)).symm, (hl' _ (.tail _ (.head _))).symm, (hl' _ (.tail _ (.tail _ (.head _)))).symm⟩, ⟨?_, ?_⟩, by omega⟩
    · rw [htk, List.flatMap_append, List.flatMap_singleton]
      exact ints_append hys hz'
    · rw [List.length_append]; omega
  · rintro D ys h tk ⟨hys, _⟩ F' N' o1
    rw [List.size_toArray, hvn, List.take_length] at hys
    exact fin D ys h tk hys F' N' o1
end
end Comp3
-- Plain4
section Plain4
theorem set_back_Plain4 : True := by
  w_top off
  first | walk1 | trivial
theorem digs_dval {n : Nat} : ∀ {l : List Int}, Figs n l → digs n l.length (dval n l).toNat = l
  | [], _ => rfl
  | d :: r, h => by
    obtain ⟨h1, h2⟩ := h d (.head _)
    have hr : Figs n r := fun x hx => h x (.tail _ hx)
    have hb := dval_bounds hr
    obtain ⟨D, rfl⟩ := Int.eq_ofNat_of_zero_le h1
    obtain ⟨V, hV⟩ := Int.eq_ofNat_of_zero_le hb.1
    have h2' : D < 2 ^ n := by exact_mod_cast h2
    have ih := digs_dval hr
    rw [hV, Int.toNat_natCast] at ih
    have e : (dval n ((D : Int) :: r)).toNat = D + V * 2 ^ n := by
      have : dval n ((D : Int) :: r) = ((D + V * 2 ^ n : Nat) : Int) := by rw [dval, hV]; norm_cast
      rw [this, Int.toNat_natCast]
    rw [e, List.length_cons, digs, Nat.add_mul_mod_self_right, Nat.mod_eq_of_lt h2', Nat.add_mul_div_right _ _ (Nat.two_pow_pos n), Nat.div_eq_of_lt h2', Nat.zero_add, ih]
theorem ndig_snoc {n : Nat} (hn : 1 ≤ n) {l : List Int} (h : Figs n l) : ndig n (dval n (l ++ [1])).toNat = l.length + 1 := by
  have hb := dval_bounds h
  obtain ⟨V, hV⟩ := Int.eq_ofNat_of_zero_le hb.1
  have hlt : V < 2 ^ (n * l.length) := by have := hb.2; rw [hV] at this; exact_mod_cast this
  have e : (dval n (l ++ [1])).toNat = V + 2 ^ (n * l.length) := by
    have : dval n (l ++ [1]) = ((V + 2 ^ (n * l.length) : Nat) : Int) := by
      rw [dval_append, hV]; simp [dval]
    rw [this, Int.toNat_natCast]
  rw [e]
  have hi : Builtin.Int.intBits ((V + 2 ^ (n * l.length) : Nat) : Int) = n * l.length + 1 := by
    apply Nat.le_antisymm
    · refine intBits_le ?_
      rw [Int.natAbs_natCast, Nat.pow_succ]; omega
    · have h2 := lt_intBits (V + 2 ^ (n * l.length))
      have h3 : 2 ^ (n * l.length) < 2 ^ Builtin.Int.intBits ((V + 2 ^ (n * l.length) : Nat) : Int) := by omega
      exact (Nat.pow_lt_pow_iff_right (by decide)).mp h3
  unfold ndig
  rw [hi, show n * l.length + 1 + n - 1 = n * l.length + n from by omega, Nat.add_div_right _ (by omega), Nat.mul_div_cancel_left _ (by omega)]
theorem figs_snoc_one {n : Nat} (hn : 1 ≤ n) {l : List Int} (h : Figs n l) : Figs n (l ++ [1]) := by
  intro d hd
  rcases List.mem_append.mp hd with hd | hd
  · exact h d hd
  · obtain rfl := List.mem_singleton.mp hd
    refine ⟨by decide, ?_⟩
    have : (2 : Int) ^ 1 ≤ 2 ^ n := by exact_mod_cast Nat.pow_le_pow_right (by decide) hn
    omega
theorem digs_snoc {n : Nat} (hn : 1 ≤ n) {l : List Int} (h : Figs n l) : digs n (ndig n (dval n (l ++ [1])).toNat) (dval n (l ++ [1])).toNat = l ++ [1] := by
  have := digs_dval (figs_snoc_one hn h)
  rw [List.length_append, List.length_singleton] at this
  rw [ndig_snoc hn h, this]
theorem two_le_pow {n : Nat} (hn : 1 ≤ n) : (2 : Int) ≤ 2 ^ n := by
  have : (2 : Int) ^ 1 ≤ 2 ^ n := by exact_mod_cast Nat.pow_le_pow_right (by decide) hn
  omega
theorem figs_bits {n : Nat} (hn : 1 ≤ n) {l : List Int} (h : ∀ x ∈ l, x = 0 ∨ x = 1) : Figs n l := by
  intro d hd
  have := two_le_pow hn
  rcases h d hd with rfl | rfl <;> omega
/-- the doubled word -/
def dbl : List Int → List Int
  | [] => []
  | b :: r => b :: (1 - b) :: dbl r
theorem dbl_length : ∀ l, (dbl l).length = 2 * l.length
  | [] => rfl
  | _ :: r => by rw [dbl, List.length_cons, List.length_cons, dbl_length r, List.length_cons]; omega
theorem dbl_bits : ∀ {l : List Int}, (∀ x ∈ l, x = 0 ∨ x = 1) → ∀ x ∈ dbl l, x = 0 ∨ x = 1
  | [], _, x, h => nomatch h
  | b :: r, hb, x, h => by
    have h0 := hb b (.head _)
    rcases List.mem_cons.mp h with rfl | h
    · exact h0
    rcases List.mem_cons.mp h with rfl | h
    · omega
    · exact dbl_bits (fun y hy => hb y (.tail _ hy)) x h
/-- the figure that the program lays for a bit's pair -/
def pairF (W : Nat) (k : Int) : Int := if k = 1 then 1 else 1 * 2 ^ W
theorem pow_two_mul (W : Nat) : (2 : Int) ^ (2 * W) = 2 ^ W * 2 ^ W := by rw [Nat.two_mul, Int.pow_add]
theorem dval_pairs {W : Nat} : ∀ {l : List Int}, (∀ x ∈ l, x = 0 ∨ x = 1) → ∀ r, dval (2 * W) (l.map (pairF W) ++ [r]) = dval W (dbl l ++ [r])
  | [], _, r => by simp [dval, dbl]
  | b :: l, h, r => by
    rw [List.map_cons, List.cons_append, dval, dval_pairs (fun x hx => h x (.tail _ hx)) r, dbl, List.cons_append, List.cons_append, dval, dval, pow_two_mul]
    generalize dval W (dbl l ++ [r]) = V
    have e : V * (2 ^ W * 2 ^ W) = V * 2 ^ W * 2 ^ W := (Int.mul_assoc ..).symm
    rw [e, Int.add_mul]
    rcases h b (.head _) with rfl | rfl <;> simp [pairF]
theorem figs_pairs {W : Nat} (hW : 1 ≤ W) {l : List Int} : Figs (2 * W) (l.map (pairF W)) := by
  intro d hd
  obtain ⟨k, _, rfl⟩ := List.mem_map.mp hd
  have h2 := two_le_pow hW
  have h3 : (2 : Int) ^ W * 2 ≤ 2 ^ W * 2 ^ W := Int.mul_le_mul_of_nonneg_left h2 (by omega)
  rw [pow_two_mul]
  unfold pairF
  split <;> omega
/-- the figures of the doubled number -/
theorem digs_doubled {W : Nat} (hW : 1 ≤ W) {l : List Int} (h : ∀ x ∈ l, x = 0 ∨ x = 1) :
    digs W (ndig W (dval (2 * W) (l.map (pairF W) ++ [1])).toNat) (dval (2 * W) (l.map (pairF W) ++ [1])).toNat = dbl l ++ [1] := by
  rw [dval_pairs h, digs_snoc hW (figs_bits hW (dbl_bits h))]
theorem and_low {n a b X Y : Nat} (ha : a < 2 ^ n) (hb : b < 2 ^ n) : (a + X * 2 ^ n) &&& (b + Y * 2 ^ n) = (a &&& b) + (X &&& Y) * 2 ^ n := by
  have hab : a &&& b < 2 ^ n := Nat.lt_of_le_of_lt Nat.and_le_left ha
  rw [Nat.add_comm a, Nat.add_comm b, Nat.add_comm (a &&& b), Nat.mul_comm X, Nat.mul_comm Y, Nat.mul_comm (X &&& Y)]
  apply Nat.eq_of_testBit_eq
  intro i
  rw [Nat.testBit_and, Nat.testBit_two_pow_mul_add _ ha, Nat.testBit_two_pow_mul_add _ hb, Nat.testBit_two_pow_mul_add _ hab]
  split <;> simp
theorem bitAnd_nat (a b : Nat) : Builtin.bitAnd (a : Int) (b : Int) = ((a &&& b : Nat) : Int) := by
  unfold Builtin.bitAnd
  have a1 : decide (0 ≤ (a : Int)) = true := decide_eq_true (Int.natCast_nonneg _)
  have a2 : decide (0 ≤ (b : Int)) = true := decide_eq_true (Int.natCast_nonneg _)
  rw [a1, a2]; simp only [Int.toNat_natCast]
theorem bitAnd_low {n : Nat} {a b X Y : Int} (ha0 : 0 ≤ a) (ha : a < 2 ^ n) (hb0 : 0 ≤ b) (hb : b < 2 ^ n) (hX : 0 ≤ X) (hY : 0 ≤ Y) :
    Builtin.bitAnd (a + X * 2 ^ n) (b + Y * 2 ^ n) = Builtin.bitAnd a b + Builtin.bitAnd X Y * 2 ^ n := by
  obtain ⟨a, rfl⟩ := Int.eq_ofNat_of_zero_le ha0
  obtain ⟨b, rfl⟩ := Int.eq_ofNat_of_zero_le hb0
  obtain ⟨X, rfl⟩ := Int.eq_ofNat_of_zero_le hX
  obtain ⟨Y, rfl⟩ := Int.eq_ofNat_of_zero_le hY
  have e1 : (a : Int) + (X : Int) * 2 ^ n = ((a + X * 2 ^ n : Nat) : Int) := by norm_cast
  have e2 : (b : Int) + (Y : Int) * 2 ^ n = ((b + Y * 2 ^ n : Nat) : Int) := by norm_cast
  rw [e1, e2, bitAnd_nat, bitAnd_nat, bitAnd_nat, and_low (by exact_mod_cast ha) (by exact_mod_cast hb)]
  norm_cast
theorem bitOr_low {n : Nat} {a b X Y : Int} (ha0 : 0 ≤ a) (ha : a < 2 ^ n) (hb0 : 0 ≤ b) (hb : b < 2 ^ n) (hX : 0 ≤ X) (hY : 0 ≤ Y) :
    Builtin.bitOr (a + X * 2 ^ n) (b + Y * 2 ^ n) = Builtin.bitOr a b + Builtin.bitOr X Y * 2 ^ n := by
  rw [bitOr_and, bitOr_and, bitOr_and, bitAnd_low ha0 ha hb0 hb hX hY, Int.sub_mul, Int.add_mul]; omega
theorem bitXor_lowP {n : Nat} {a b X Y : Int} (ha0 : 0 ≤ a) (ha : a < 2 ^ n) (hb0 : 0 ≤ b) (hb : b < 2 ^ n) (hX : 0 ≤ X) (hY : 0 ≤ Y) :
    Builtin.bitXor (a + X * 2 ^ n) (b + Y * 2 ^ n) = Builtin.bitXor a b + Builtin.bitXor X Y * 2 ^ n := by
  rw [bitXor_and, bitXor_and, bitXor_and, bitAnd_low ha0 ha hb0 hb hX hY, Int.sub_mul, Int.add_mul, Int.mul_assoc]; omega
theorem bitAnd_nonneg' {a b : Int} (ha : 0 ≤ a) (hb : 0 ≤ b) : 0 ≤ Builtin.bitAnd a b ∧ Builtin.bitAnd a b ≤ a ∧ Builtin.bitAnd a b ≤ b := by
  obtain ⟨a, rfl⟩ := Int.eq_ofNat_of_zero_le ha
  obtain ⟨b, rfl⟩ := Int.eq_ofNat_of_zero_le hb
  rw [bitAnd_nat]
  exact ⟨Int.natCast_nonneg _, by exact_mod_cast Nat.and_le_left, by exact_mod_cast Nat.and_le_right⟩
theorem bitOr_nonneg' {a b : Int} (ha : 0 ≤ a) (hb : 0 ≤ b) : 0 ≤ Builtin.bitOr a b := by
  have := bitAnd_nonneg' ha hb
  rw [bitOr_and]; omega
theorem bitXor_nonneg' {a b : Int} (ha : 0 ≤ a) (hb : 0 ≤ b) : 0 ≤ Builtin.bitXor a b := by
  have := bitAnd_nonneg' ha hb
  rw [bitXor_and]; omega
/-- or_ and xor of the core's figures make the doubled number -/
theorem or_doubled {W : Nat} (hW : 1 ≤ W) : ∀ {l : List Int}, (∀ x ∈ l, x = 0 ∨ x = 1) →
    Builtin.bitOr (Builtin.bitOr (dval (2 * W) l) (1 * 2 ^ (2 * W * l.length))) (Builtin.bitOr (Builtin.bitXor (dval (2 * W) l) (dval (2 * W) (l.map fun _ => 1)) * 2 ^ W) (1 * 2 ^ (2 * W * l.length))) = dval (2 * W) (l.map (pairF W) ++ [1])
  | [], _ => by
    simp only [dval, List.length_nil, Nat.mul_zero, Int.pow_zero, List.map_nil, List.nil_append, bitXor_self]
    rw [Int.zero_mul]
    rw [show Builtin.bitOr 0 (1 * 1) = 1 from rfl, show Builtin.bitOr 1 1 = 1 from rfl]
    simp
  | b :: l, h => by
    have hl : ∀ x ∈ l, x = 0 ∨ x = 1 := fun x hx => h x (.tail _ hx)
    have ih := or_doubled hW hl
    have hS := (dval_bounds (n := 2 * W) (figs_bits (by omega) hl)).1
    have hO : 0 ≤ dval (2 * W) (l.map fun _ => (1 : Int)) := (dval_bounds (n := 2 * W) (figs_bits (by omega) fun x hx => by obtain ⟨_, _, rfl⟩ := List.mem_map.mp hx; exact .inr rfl)).1
    have hT : (0 : Int) ≤ 1 * 2 ^ (2 * W * l.length) := by rw [Int.one_mul]; exact Int.le_of_lt (pow2_pos _)
    have hp2 : (2 : Int) ≤ 2 ^ (2 * W) := two_le_pow (by omega)
    have hpW := two_le_pow hW
    have hpWW : (2 : Int) ^ W < 2 ^ (2 * W) := by
      have h3 : (2 : Int) ^ W * 2 ≤ 2 ^ W * 2 ^ W := Int.mul_le_mul_of_nonneg_left hpW (by omega)
      rw [pow_two_mul]; omega
    simp only [List.map_cons, List.cons_append, dval, List.length_cons]
    rw [← ih]
    have eT : (1 : Int) * 2 ^ (2 * W * (l.length + 1)) = 0 + 1 * 2 ^ (2 * W * l.length) * 2 ^ (2 * W) := by
      rw [Nat.mul_succ, Int.pow_add, Int.one_mul, Int.one_mul, Int.zero_add]
    rw [eT]
    generalize dval (2 * W) l = S at *
    generalize dval (2 * W) (l.map fun _ => (1 : Int)) = O at *
    generalize (1 : Int) * 2 ^ (2 * W * l.length) = T at *
    clear eT ih
    have hb := h b (.head _)
    have hb0 : 0 ≤ b := by omega
    have hb1 : b < 2 ^ (2 * W) := by omega
    rw [bitOr_low hb0 hb1 (Int.le_refl 0) (by omega) hS hT, bitXor_lowP hb0 hb1 (by decide) (by omega) hS hO]
    have hX := bitXor_nonneg' hS hO
    have hXb : 0 ≤ Builtin.bitXor b 1 ∧ Builtin.bitXor b 1 * 2 ^ W < 2 ^ (2 * W) ∧ Builtin.bitXor b 1 * 2 ^ W = if b = 1 then 0 else 2 ^ W := by
      rcases hb with rfl | rfl
      · rw [show Builtin.bitXor 0 1 = 1 from rfl, Int.one_mul]; exact ⟨by decide, hpWW, by simp⟩
      · rw [show Builtin.bitXor 1 1 = 0 from rfl, Int.zero_mul]; exact ⟨by decide, by omega, by simp⟩
    rw [Int.add_mul, Int.mul_assoc, Int.mul_comm (2 ^ (2 * W)) (2 ^ W), ← Int.mul_assoc]
    have hX2 : 0 ≤ Builtin.bitXor S O * 2 ^ W := Int.mul_nonneg hX (by omega)
    have hXW : 0 ≤ Builtin.bitXor b 1 * 2 ^ W := Int.mul_nonneg hXb.1 (by omega)
    rw [bitOr_low hXW hXb.2.1 (Int.le_refl 0) (by omega) hX2 hT]
    have z : ∀ x : Int, Builtin.bitOr x 0 = x := fun x => by rw [bitOr_and, show Builtin.bitAnd x 0 = 0 from by unfold Builtin.bitAnd; split <;> simp_all]; omega
    rw [z, z, bitOr_low hb0 hb1 hXW hXb.2.1 (bitOr_nonneg' hS hT) (bitOr_nonneg' hX2 hT)]
    congr 1
    rw [hXb.2.2]
    unfold pairF
    rcases hb with rfl | rfl
    · simp only [show ((0 : Int) = 1) = False from by simp, if_false]; rw [bitOr_comm, z, Int.one_mul]
    · simp only [if_true]; rw [z]
theorem ones_div {W : Nat} (hW : 1 ≤ W) : ∀ k : Nat, ((1 : Int) * 2 ^ (2 * W * k)) = dval (2 * W) (List.replicate k 1) * (1 * 2 ^ (2 * W) - 1) + 1
  | 0 => by simp [dval]
  | k + 1 => by
    have ih := ones_div hW k
    rw [List.replicate_succ, dval, Nat.mul_succ, Int.pow_add]
    generalize dval (2 * W) (List.replicate k 1) = V at *
    generalize (2 : Int) ^ (2 * W * k) = T at *
    generalize (2 : Int) ^ (2 * W) = P at *
    rw [Int.one_mul] at *
    subst ih
    simp only [Int.add_mul, Int.mul_sub, Int.mul_one, Int.one_mul, Int.sub_mul, Int.mul_assoc]
    omega
theorem top_div {W k : Nat} (hW : 1 ≤ W) : (1 : Int) * 2 ^ (2 * W * k) / (1 * 2 ^ (2 * W) - 1) = dval (2 * W) (List.replicate k 1) ∧ (1 : Int) * 2 ^ (2 * W * k) % (1 * 2 ^ (2 * W) - 1) = 1 := by
  have h4 : (4 : Int) ≤ 2 ^ (2 * W) := by
    have : (2 : Int) ^ 2 ≤ 2 ^ (2 * W) := by exact_mod_cast Nat.pow_le_pow_right (by decide) (by omega)
    omega
  have e := ones_div hW k
  rw [e]
  generalize dval (2 * W) (List.replicate k 1) = V
  have hP : (1 : Int) < 1 * 2 ^ (2 * W) - 1 := by omega
  generalize (1 : Int) * 2 ^ (2 * W) - 1 = P at *
  constructor
  · rw [Int.add_comm, Int.add_mul_ediv_right _ _ (by omega), Int.ediv_eq_zero_of_lt (by decide) hP]; omega
  · rw [Int.add_comm, Int.add_mul_emod_self_right, Int.emod_eq_of_lt (by decide) hP]
theorem dbl_flat : ∀ l : List Int, l.flatMap (fun b => [b, 1 - b]) = dbl l
  | [] => rfl
  | b :: r => by rw [List.flatMap_cons, dbl_flat r]; rfl
theorem map_ones (l : List Int) : l.map (fun _ => (1 : Int)) = List.replicate l.length 1 := by
  induction l with
  | nil => rfl
  | cons _ r ih => rw [List.map_cons, ih]; rfl
theorem xor_bits {n : Nat} {a b : List Int} (ha : Figs n a) (hb : Figs n b) (hl : b.length = a.length) : Builtin.Int.intBits (Builtin.bitXor (dval n a) (dval n b)) ≤ n * a.length + 1 := by
  obtain ⟨a0, a1⟩ := dval_bounds ha
  obtain ⟨b0, b1⟩ := dval_bounds hb
  rw [hl] at b1
  have h := bitAnd_nonneg' a0 b0
  refine intBits_le' (bitXor_nonneg' a0 b0) ?_
  rw [bitXor_and, Int.pow_add]
  have e2 : (2 : Int) ^ 1 = 2 := by decide
  rw [e2]
  generalize (2 : Int) ^ (n * a.length) = P at *
  omega
theorem bits_ones {W : Nat} (hW : 1 ≤ W) : Builtin.Int.intBits ((1 : Int) * 2 ^ (2 * W) - 1) = 2 * W := by
  have h4 : (2 : Int) ≤ 2 ^ (2 * W) := two_le_pow (by omega)
  apply Nat.le_antisymm
  · exact intBits_le' (by omega) (by omega)
  · have h2 := lt_of_intBits (b := (1 : Int) * 2 ^ (2 * W) - 1) (by omega)
    generalize Builtin.Int.intBits ((1 : Int) * 2 ^ (2 * W) - 1) = k at *
    have h3 : (2 : Int) ^ (2 * W) ≤ 2 ^ k := by
      have : ((((1 : Int) * 2 ^ (2 * W) - 1).toNat : Nat) : Int) < ((2 ^ k : Nat) : Int) := by exact_mod_cast h2
      rw [Int.toNat_of_nonneg (by omega)] at this
      push_cast at this
      omega
    have h5 : 2 ^ (2 * W) ≤ 2 ^ k := by exact_mod_cast h3
    exact (Nat.pow_le_pow_iff_right (by decide)).mp h5
theorem ltPow_top {k n : Nat} (h : k < n) : LtPow ((1 : Int) * 2 ^ k).toNat n := by
  have e : ((1 : Int) * 2 ^ k) = ((2 ^ k : Nat) : Int) := by push_cast; omega
  rw [e, Int.toNat_natCast]
  exact Nat.pow_lt_pow_right (by decide) h
theorem ltPow_int {a : Int} {n : Nat} (h0 : 0 ≤ a) (h : a < 2 ^ n) : LtPow a.toNat n := by
  have : ((a.toNat : Nat) : Int) < ((2 ^ n : Nat) : Int) := by rw [Int.toNat_of_nonneg h0]; push_cast; exact h
  exact_mod_cast this
end Plain4
theorem set_back_Plain4_z : True := by first | walk1 | trivial
-- X4
section X4
set_option maxRecDepth 100000
set_option maxHeartbeats 8000000
theorem set_back_X4 : True := by
  w_top off
  first | walk1 | trivial
local macro_rules | `(tactic| k_all) => `(tactic| with_reducible assumption)
def pickI (ns : List Int) (lo hi : Option Int) : List Int := (ns.drop (kms_lo lo ns.length)).take (kms_hi hi ns.length - kms_lo lo ns.length)
theorem ints_drop : ∀ {vs : List Value} {ns : List Int} (k : Nat), IntsAre vs ns → IntsAre (vs.drop k) (ns.drop k)
  | _, _, 0, h => h
  | _, _, k + 1, .nil => .nil
  | _, _, k + 1, .cons _ _ h => ints_drop k h
theorem ints_take : ∀ {vs : List Value} {ns : List Int} (k : Nat), IntsAre vs ns → IntsAre (vs.take k) (ns.take k)
  | _, _, 0, h => .nil
  | _, _, k + 1, .nil => .nil
  | _, _, k + 1, .cons _ _ h => .cons _ _ (ints_take k h)
theorem sliceL {prog : Program} {w : World} {A : Around} {E : Value → Shared → Prop} {s : Shared} {Q : Value → Shared → Prop} {h₀ h9 : Heap} {tk : Nat} {L : Addr} {m : Str → Option Value} {news : List (Addr × Obj)} {value slice : Expr} {l : Addr} {vs : List Value} {ns : List Int} {n : Nat} {vl vu : Value} {lo hi : Option Int}
    (F : Fr h₀ L h9 m) (N : News h₀ L h9 news) (hm : (l, listOf vs.toArray n) ∈ news) (pl : IsPart vl lo) (pu : IsPart vu hi) (hv : IntsAre vs ns)
    (h : ∀ D ws h', IntsAre ws (pickI ns lo hi) → Fr h₀ L h' m → News h₀ L h' ((D, listOf ws.toArray 0) :: news) → (∀ p ∈ news, p.1 < D) → Q (.ref D) { s with heap := h', toks := tk })
    (hs : subscripted slice false (.ref l) (.ref h9.objs.size) = operate [.ref h9.objs.size, .ref l] (getItem (.ref l) (.ref h9.objs.size))) (ht : ∀ r, letTemporaryGo value (.ref l) r = pure ()) (hz : ns.length ≤ 1000) :
    wpAny (model prog w) A (subscriptTail value slice (.ref l) (.ref h9.objs.size)) Q E { s with heap := h9.push { cls := .type "slice", data := .fields #[vl, vu, .none] }, toks := tk } := by
  refine kms_slice_lit (s := { s with heap := h9, toks := tk }) F N (PySem.IsL.isList (n := n) (N _ hm).1) pl pu rfl (fun D h' F' N' l1 => h D _ h' ?_ F' N' l1) hs ht (by rw [List.size_toArray, hv.length]; exact size_okC hz)
  have e : vs.toArray.toList = vs := rfl
  rw [e]
  unfold kms_pick pickI
  rw [hv.length]
  exact ints_take _ (ints_drop _ hv)
theorem pickI_last (ns : List Int) (x : Int) : pickI (ns ++ [x]) none (some (-1)) = ns := by
  unfold pickI kms_lo kms_hi
  simp
theorem off1_mem {D : Addr} : ∀ {l : List (Addr × Obj)}, LCg.Off1 D l → ∀ p ∈ l, @Ne Nat p.1 D
  | [], _, _, h => nomatch h
  | _ :: _, x, p, h => by
    rcases List.mem_cons.mp h with rfl | h
    · exact x.1
    · exact off1_mem x.2 p h
theorem off_tabs {D : Addr} {g : List (Addr × Obj) → List (Addr × Obj)} {rest : List (Addr × Obj)} (h : LCg.Off1 D (g rest)) (hG : Led g) (hR : TabsL rest) : @Ne Nat D 37 ∧ @Ne Nat D 30 := by
  obtain ⟨pre, e, _⟩ := hG.of
  obtain ⟨r1, r2, rfl, t1, t2⟩ := hR
  rw [e] at h
  obtain ⟨p1, m1⟩ := t1.mem
  obtain ⟨p2, m2⟩ := t2.mem
  exact ⟨(off1_mem h (37, _) (List.mem_append_right _ (List.mem_append_left _ m1))).symm, (off1_mem h (30, _) (List.mem_append_right _ (List.mem_append_right _ m2))).symm⟩
theorem lt_tabs {L : Addr} {g : List (Addr × Obj) → List (Addr × Obj)} {rest : List (Addr × Obj)} (h : ∀ p ∈ g rest, p.1 < L) (hG : Led g) (hR : TabsL rest) : (37 : Nat) < L := by
  obtain ⟨pre, e, _⟩ := hG.of
  obtain ⟨r1, r2, rfl, t1, t2⟩ := hR
  rw [e] at h
  obtain ⟨p1, m1⟩ := t1.mem
  exact h (37, _) (List.mem_append_right _ (List.mem_append_left _ m1))
theorem ints_size {vs : List Value} {ns : List Int} (h : IntsAre vs ns) (hl : ns.length ≤ 1000) : vs.toArray.size ≤ sizeLine := by rw [List.size_toArray, h.length]; exact size_okC hl
section
variable {w : World} {p : Program} {loose : List Str} {mean : ExcName → Option Value} {mg mb : Str → Option Value}
    {dp un : Nat} {gd : Option (List Code)} {cn : Str} {cs : Scope} {a : Addr} {ccd : Value} {cl : List (Str × Addr)} {outer : List Env} {A₀ : Around} {base h₀ : Heap} {L : Addr} {m : Str → Option Value} {s : Shared} {Q E : Value → Shared → Prop}
    {g : List (Addr × Obj) → List (Addr × Obj)} {rest led news : List (Addr × Obj)}
theorem doubled_spec {ax : Addr} {vs : List Value} {ns : List Int} {i : Nat} {wd : Int} {tw : Tok}
    (hR : TabsL rest) (hG : Led g) (B : Below A₀ base outer h₀) (F : Fr h₀ L s.heap m) (X : (Mine.hd.heap_39 w.params).In h₀) (C1 : CodeHd base 41 37) (C2 : CodeHd base 34 30)
    (N : News h₀ L s.heap (g rest)) (T : Top p loose mean mg mb h₀) (hk : cs.kind = .function) (hd : dp + 120 < recursionLimit) (hu : un + 900 < cLine)
    (ha : ∀ r, (ax, listOf vs.toArray i) ∈ g r) (hi : IntsAre vs ns) (hn : ∀ n ∈ ns, n = 0 ∨ n = 1) (hz : ns.length ≤ 6) (hw1 : 1 ≤ wd) (hw2 : wd ≤ 400)
    (hret : ∀ D us h' tk' rest', IntsAre us (dbl ns) → TabsL rest' → Fr h₀ L h' m → News h₀ L h' ((D, listOf us.toArray 0) :: g rest') → (37 : Nat) < D → Q (.ref D) { s with heap := h', toks := tk' }) :
    wpAny (model PySem.Challenge.rw_ti0020_01.row.prog w) (ktrTop dp un gd cn cs L a ccd cl outer) (call (.ref 129) [.ref ax, .int wd tw]) Q E s := by
  (rename Frag.In _ _ => Xfill; revert Xfill; k_fill; intro Xfill)
  refine wpAny_call ?_
  k_dflt ((refine' code_defC ?k1 ?k2 ?k3 ?k4 ?k5 ?kA ?kF ?kK ?k6 ?k7 ?k8 ?k9 ?kB ?kD ?_ ?c2 ?c3 ?c4; (case kA => exact rfl); (case kF => exact rfl); (case kK => assumption); (case k1 => k_asm); (case k2 => k_asm); (case k3 => k_asm); (case k4 => k_asm); (case k5 => k_asm); (case k6 => k_is); (case k7 => k_is); (case k8 => ktr_room); (case k9 => first | exact BindsTo.of_eq rfl | exact binds_K (by k_in) rfl (by k_is) rfl rfl rfl | fail "k_enter: no rule for these arguments"); (case kB => exact rfl); (case kD => decide +kernel); (case c2 => exact rfl); (case c3 => exact rfl); (case c4 => exact rfl); k_whole; wtm_at "t6"))
  rename_i g' L' h' tk' FG' F' B' X' T' l1 o1 d1 N'
  clear N FG'
  have hc37 : (37 : Nat) < L' := lt_tabs l1 hG hR
  replace F' : Fr g' L' h' (fun z => if z = Str.ofString "core" then some (Value.ref ax) else none) := F'
  replace d1 : o1.data = Data.cell (some (Value.int wd tw)) := d1
  clear l1
  have eW : (2 * wd).toNat = 2 * wd.toNat := by omega
  have hW : 1 ≤ wd.toNat := by omega
  have e27 : (2 : Int) ^ 27 = 134217728 := by decide
  have b1 : (Builtin.Int.intBits 1 : Int) = 1 := by decide
  (repeat' (first | (k_unfold; (try dsimp only)) | (k_end; wrow_close) | with_reducible (first | (k_here; (with_reducible show wpAny _ _ (callWith _ (Value.ref _) [] _ _) _ _ _); k_dflt (first | (refine' callWith_K ?k1 ?k2 ?_; (case k1 => k_asm); (case k2 => k_is); k_whole) | (refine' callWith_K0 ?k1 ?k2 ?_; (case k1 => k_in); (case k2 => k_is); k_whole))) | (k_here; (with_reducible show wpAny _ _ (eval (PySem.Expr.ListComp _ [PySem.Comprehension.mk _ _ [] _] _ _) _) _ _ _); k_dflt (refine LCg.ListComp_U (F₀ := by k_asm) (by with_unfolding_all rfl) (by decide) (by rfl) (by decide) (by rfl) ?_))) | (k_here; (with_reducible show wpAny _ _ (callWith _ (Value.ref _) [] _ _) _ _ _); k_dflt (first | (refine' callWith_K ?k1 ?k2 ?_; (case k1 => k_asm); (case k2 => k_is); k_whole) | (refine' callWith_K0 ?k1 ?k2 ?_; (case k1 => k_in); (case k2 => k_is); k_whole))) | (k_here; (with_reducible show wpAny _ _ (eval (PySem.Expr.ListComp _ [PySem.Comprehension.mk _ _ [] _] _ _) _) _ _ _); k_dflt (refine LCg.ListComp_U (F₀ := by k_asm) (by with_unfolding_all rfl) (by decide) (by rfl) (by decide) (by rfl) ?_)) | walk1 | (dsimp only; first | with_reducible (first | (k_here; (with_reducible show wpAny _ _ (callWith _ (Value.ref _) [] _ _) _ _ _); k_dflt (first | (refine' callWith_K ?k1 ?k2 ?_; (case k1 => k_asm); (case k2 => k_is); k_whole) | (refine' callWith_K0 ?k1 ?k2 ?_; (case k1 => k_in); (case k2 => k_is); k_whole))) | (k_here; (with_reducible show wpAny _ _ (eval (PySem.Expr.ListComp _ [PySem.Comprehension.mk _ _ [] _] _ _) _) _ _ _); k_dflt (refine LCg.ListComp_U (F₀ := by k_asm) (by with_unfolding_all rfl) (by decide) (by rfl) (by decide) (by rfl) ?_))) | (k_here; (with_reducible show wpAny _ _ (callWith _ (Value.ref _) [] _ _) _ _ _); k_dflt (first | (refine' callWith_K ?k1 ?k2 ?_; (case k1 => k_asm); (case k2 => k_is); k_whole) | (refine' callWith_K0 ?k1 ?k2 ?_; (case k1 => k_in); (case k2 => k_is); k_whole))) | (k_here; (with_reducible show wpAny _ _ (eval (PySem.Expr.ListComp _ [PySem.Comprehension.mk _ _ [] _] _ _) _) _ _ _); k_dflt (refine LCg.ListComp_U (F₀ := by k_asm) (by with_unfolding_all rfl) (by decide) (by rfl) (by decide) (by rfl) ?_)) | walk1) | (leave1; (try dsimp only)) | fail "no step"))
  refine src_map_ints (fun _ => 1) rfl (by k_asm) (by k_asm) (.tail _ (ha _)) hi (by omega) ?_ ?_
  · intro g1 kk tb ys I oI C oC D m₂ h tk E' hkk hoC hb Ft Nt
    k_steps
    exact IntEnd.intro Ft Nt
  · intro g1 ys hys
    (walk1; try dsimp only)
    rename_i D1 h1 tk1 F1 N1 off1
    have hD1 := off_tabs off1.2 hG hR
    change News g' L' h1 ((D1, listOf ys.toArray ys.length) :: (L' + 1, o1) :: g rest) at N1
    have f1 : (ns.map fun _ => (1 : Int)).length ≤ 50 := by rw [List.length_map]; omega
    have f2 : Figs (2 * wd).toNat (ns.map fun _ => (1 : Int)) := by
      rw [eW]; exact figs_bits (by omega) fun x hx => by obtain ⟨_, _, rfl⟩ := List.mem_map.mp hx; exact .inr rfl
    have f3 : ns.length ≤ 50 := by omega
    have f4 : Figs (2 * wd).toNat ns := by rw [eW]; exact figs_bits (by omega) hn
    have f5 : (vs.toArray.size : Int) < 2 ^ 63 := by
      have e63 : (2 : Int) ^ 63 = 9223372036854775808 := by decide
      rw [List.size_toArray, hi.length]; omega
    have f6 : 0 ≤ 2 * wd * ((vs.toArray.size : Nat) : Int) := Int.mul_nonneg (by omega) (Int.natCast_nonneg _)
    have f7 : (Builtin.Int.intBits 1 : Int) + 2 * wd * ((vs.toArray.size : Nat) : Int) ≤ 2 ^ 27 := by
      rw [List.size_toArray, hi.length, b1, e27]
      have : 2 * wd * ((ns.length : Nat) : Int) ≤ 2 * wd * 6 := Int.mul_le_mul_of_nonneg_left (by omega) (by omega)
      omega
    (repeat' (first | (k_unfold; (try dsimp only)) | (k_end; wrow_close) | with_reducible (first | (k_here; (with_reducible show wpAny _ _ (callWith _ (Value.ref _) [] _ _) _ _ _); k_dflt (first | (refine' callWith_K ?k1 ?k2 ?_; (case k1 => k_asm); (case k2 => k_is); k_whole) | (refine' callWith_K0 ?k1 ?k2 ?_; (case k1 => k_in); (case k2 => k_is); k_whole))) | ((with_reducible show wpAny _ _ (call _ _) _ _ _); first | (k_here; (with_reducible show wpAny _ _ (call (Value.builtin "len") [Value.ref _]) _ _ _); k_dflt (refine' len_L ?j1 ?j2 ?j3 ?_; (case j1 => k_asm); (case j2 => first | exact .tail _ (.tail _ (ha _)) | exact .tail _ (.tail _ (.tail _ (ha _))) | exact .tail _ (ha _) | exact ha _); (case j3 => with_reducible assumption))) | (k_here; (with_reducible show wpAny _ _ (call (Value.ref 42) _) _ _ _); k_dflt (refine' d2i_use ?jR ?jB ?jF ?jX ?jC1 ?jC2 ?jN ?jG ?jl ?jT ?jk ?jd ?ju ?p0 ?p1 ?p2 ?p3 ?p4 ?_; (case jR => with_reducible assumption); (case jB => k_asm); (case jF => k_asm); (case jX => k_asm); (case jC1 => with_reducible assumption); (case jC2 => with_reducible assumption); (case jN => k_asm); (case jG => wtm_at "r0"); (case jl => (intro r9; first | exact .tail _ (.tail _ (ha r9)) | exact .tail _ (.tail _ (.tail _ (ha r9))) | exact .tail _ (ha r9) | exact ha r9)); (case jT => k_asm); (case jk => exact rfl); (case jd => ((try dsimp only [ktrTop]); omega)); (case ju => ((try dsimp only [ktrTop]); omega)); (case p0 => with_reducible assumption); (case p1 => first | with_reducible assumption | omega); (case p2 => first | with_reducible assumption | omega); (case p3 => first | with_reducible assumption | omega); (case p4 => with_reducible assumption); k_whole); intro t9 h9 tk9 rest9 hR9 F9 N9; (try dsimp only); (try k_fold)) | (k_here; (with_reducible show wpAny _ _ (call (Value.ref 70) [Value.int _ _, Value.int _ _]) _ _ _); k_dflt (refine' op_lshift ?jB ?jF ?jX ?jN ?jT ?jk ?jd ?ju ?p1 ?p2 ?_; (case jB => k_asm); (case jF => k_asm); (case jX => k_asm); (case jN => k_asm); (case jT => k_asm); (case jk => exact rfl); (case jd => ((try dsimp only [ktrTop]); omega)); (case ju => ((try dsimp only [ktrTop]); omega)); (case p1 => first | with_reducible assumption | omega); (case p2 => with_reducible assumption); k_whole); intro _ _ _ _ _; (try dsimp only); (try k_fold)) | (k_here; (with_reducible show wpAny _ _ (call (Value.ref 42) _) _ _ _); k_dflt (refine' d2i_use ?jR ?jB ?jF ?jX ?jC1 ?jC2 ?jN ?jG ?jl ?jT ?jk ?jd ?ju ?p0 ?p1 ?p2 ?p3 ?p4 ?_; (case jR => with_reducible assumption); (case jB => k_asm); (case jF => k_asm); (case jX => k_asm); (case jC1 => with_reducible assumption); (case jC2 => with_reducible assumption); (case jN => k_asm); (case jG => wtm_at "r0"); (case jl => (intro _; k_mem)); (case jT => k_asm); (case jk => exact rfl); (case jd => ((try dsimp only [ktrTop]); omega)); (case ju => ((try dsimp only [ktrTop]); omega)); (case p0 => with_reducible assumption); (case p1 => first | with_reducible assumption | omega); (case p2 => first | with_reducible assumption | omega); (case p3 => first | with_reducible assumption | omega); (case p4 => with_reducible assumption); k_whole); intro _ _ _ _ _ _ _; (try dsimp only); (try k_fold))) | (k_here; (with_reducible show wpAny _ _ (eval (PySem.Expr.ListComp _ [PySem.Comprehension.mk _ _ [] _] _ _) _) _ _ _); k_dflt (refine LCg.ListComp_U (F₀ := by k_asm) (by with_unfolding_all rfl) (by decide) (by rfl) (by decide) (by rfl) ?_))) | (k_here; (with_reducible show wpAny _ _ (callWith _ (Value.ref _) [] _ _) _ _ _); k_dflt (first | (refine' callWith_K ?k1 ?k2 ?_; (case k1 => k_asm); (case k2 => k_is); k_whole) | (refine' callWith_K0 ?k1 ?k2 ?_; (case k1 => k_in); (case k2 => k_is); k_whole))) | ((with_reducible show wpAny _ _ (call _ _) _ _ _); first | (k_here; (with_reducible show wpAny _ _ (call (Value.builtin "len") [Value.ref _]) _ _ _); k_dflt (refine' len_L ?j1 ?j2 ?j3 ?_; (case j1 => k_asm); (case j2 => first | exact .tail _ (.tail _ (ha _)) | exact .tail _ (.tail _ (.tail _ (ha _))) | exact .tail _ (ha _) | exact ha _); (case j3 => with_reducible assumption))) | (k_here; (with_reducible show wpAny _ _ (call (Value.ref 42) _) _ _ _); k_dflt (refine' d2i_use ?jR ?jB ?jF ?jX ?jC1 ?jC2 ?jN ?jG ?jl ?jT ?jk ?jd ?ju ?p0 ?p1 ?p2 ?p3 ?p4 ?_; (case jR => with_reducible assumption); (case jB => k_asm); (case jF => k_asm); (case jX => k_asm); (case jC1 => with_reducible assumption); (case jC2 => with_reducible assumption); (case jN => k_asm); (case jG => wtm_at "r0"); (case jl => (intro r9; first | exact .tail _ (.tail _ (ha r9)) | exact .tail _ (.tail _ (.tail _ (ha r9))) | exact .tail _ (ha r9) | exact ha r9)); (case jT => k_asm); (case jk => exact rfl); (case jd => ((try dsimp only [ktrTop]); omega)); (case ju => ((try dsimp only [ktrTop]); omega)); (case p0 => with_reducible assumption); (case p1 => first | with_reducible assumption | omega); (case p2 => first | with_reducible assumption | omega); (case p3 => first | with_reducible assumption | omega); (case p4 => with_reducible assumption); k_whole); intro t9 h9 tk9 rest9 hR9 F9 N9; (try dsimp only); (try k_fold)) | (k_here; (with_reducible show wpAny _ _ (call (Value.ref 70) [Value.int _ _, Value.int _ _]) _ _ _); k_dflt (refine' op_lshift ?jB ?jF ?jX ?jN ?jT ?jk ?jd ?ju ?p1 ?p2 ?_; (case jB => k_asm); (case jF => k_asm); (case jX => k_asm); (case jN => k_asm); (case jT => k_asm); (case jk => exact rfl); (case jd => ((try dsimp only [ktrTop]); omega)); (case ju => ((try dsimp only [ktrTop]); omega)); (case p1 => first | with_reducible assumption | omega); (case p2 => with_reducible assumption); k_whole); intro _ _ _ _ _; (try dsimp only); (try k_fold)) | (k_here; (with_reducible show wpAny _ _ (call (Value.ref 42) _) _ _ _); k_dflt (refine' d2i_use ?jR ?jB ?jF ?jX ?jC1 ?jC2 ?jN ?jG ?jl ?jT ?jk ?jd ?ju ?p0 ?p1 ?p2 ?p3 ?p4 ?_; (case jR => with_reducible assumption); (case jB => k_asm); (case jF => k_asm); (case jX => k_asm); (case jC1 => with_reducible assumption); (case jC2 => with_reducible assumption); (case jN => k_asm); (case jG => wtm_at "r0"); (case jl => (intro _; k_mem)); (case jT => k_asm); (case jk => exact rfl); (case jd => ((try dsimp only [ktrTop]); omega)); (case ju => ((try dsimp only [ktrTop]); omega)); (case p0 => with_reducible assumption); (case p1 => first | with_reducible assumption | omega); (case p2 => first | with_reducible assumption | omega); (case p3 => first | with_reducible assumption | omega); (case p4 => with_reducible assumption); k_whole); intro _ _ _ _ _ _ _; (try dsimp only); (try k_fold))) | (k_here; (with_reducible show wpAny _ _ (eval (PySem.Expr.ListComp _ [PySem.Comprehension.mk _ _ [] _] _ _) _) _ _ _); k_dflt (refine LCg.ListComp_U (F₀ := by k_asm) (by with_unfolding_all rfl) (by decide) (by rfl) (by decide) (by rfl) ?_)) | walk1 | (dsimp only; first | with_reducible (first | (k_here; (with_reducible show wpAny _ _ (callWith _ (Value.ref _) [] _ _) _ _ _); k_dflt (first | (refine' callWith_K ?k1 ?k2 ?_; (case k1 => k_asm); (case k2 => k_is); k_whole) | (refine' callWith_K0 ?k1 ?k2 ?_; (case k1 => k_in); (case k2 => k_is); k_whole))) | ((with_reducible show wpAny _ _ (call _ _) _ _ _); first | (k_here; (with_reducible show wpAny _ _ (call (Value.builtin "len") [Value.ref _]) _ _ _); k_dflt (refine' len_L ?j1 ?j2 ?j3 ?_; (case j1 => k_asm); (case j2 => first | exact .tail _ (.tail _ (ha _)) | exact .tail _ (.tail _ (.tail _ (ha _))) | exact .tail _ (ha _) | exact ha _); (case j3 => with_reducible assumption))) | (k_here; (with_reducible show wpAny _ _ (call (Value.ref 42) _) _ _ _); k_dflt (refine' d2i_use ?jR ?jB ?jF ?jX ?jC1 ?jC2 ?jN ?jG ?jl ?jT ?jk ?jd ?ju ?p0 ?p1 ?p2 ?p3 ?p4 ?_; (case jR => with_reducible assumption); (case jB => k_asm); (case jF => k_asm); (case jX => k_asm); (case jC1 => with_reducible assumption); (case jC2 => with_reducible assumption); (case jN => k_asm); (case jG => wtm_at "r0"); (case jl => (intro r9; first | exact .tail _ (.tail _ (ha r9)) | exact .tail _ (.tail _ (.tail _ (ha r9))) | exact .tail _ (ha r9) | exact ha r9)); (case jT => k_asm); (case jk => exact rfl); (case jd => ((try dsimp only [ktrTop]); omega)); (case ju => ((try dsimp only [ktrTop]); omega)); (case p0 => with_reducible assumption); (case p1 => first | with_reducible assumption | omega); (case p2 => first | with_reducible assumption | omega); (case p3 => first | with_reducible assumption | omega); (case p4 => with_reducible assumption); k_whole); intro t9 h9 tk9 rest9 hR9 F9 N9; (try dsimp only); (try k_fold)) | (k_here; (with_reducible show wpAny _ _ (call (Value.ref 70) [Value.int _ _, Value.int _ _]) _ _ _); k_dflt (refine' op_lshift ?jB ?jF ?jX ?jN ?jT ?jk ?jd ?ju ?p1 ?p2 ?_; (case jB => k_asm); (case jF => k_asm); (case jX => k_asm); (case jN => k_asm); (case jT => k_asm); (case jk => exact rfl); (case jd => ((try dsimp only [ktrTop]); omega)); (case ju => ((try dsimp only [ktrTop]); omega)); (case p1 => first | with_reducible assumption | omega); (case p2 => with_reducible assumption); k_whole); intro _ _ _ _ _; (try dsimp only); (try k_fold)) | (k_here; (with_reducible show wpAny _ _ (call (Value.ref 42) _) _ _ _); k_dflt (refine' d2i_use ?jR ?jB ?jF ?jX ?jC1 ?jC2 ?jN ?jG ?jl ?jT ?jk ?jd ?ju ?p0 ?p1 ?p2 ?p3 ?p4 ?_; (case jR => with_reducible assumption); (case jB => k_asm); (case jF => k_asm); (case jX => k_asm); (case jC1 => with_reducible assumption); (case jC2 => with_reducible assumption); (case jN => k_asm); (case jG => wtm_at "r0"); (case jl => (intro _; k_mem)); (case jT => k_asm); (case jk => exact rfl); (case jd => ((try dsimp only [ktrTop]); omega)); (case ju => ((try dsimp only [ktrTop]); omega)); (case p0 => with_reducible assumption); (case p1 => first | with_reducible assumption | omega); (case p2 => first | with_reducible assumption | omega); (case p3 => first | with_reducible assumption | omega); (case p4 => with_reducible assumption); k_whole); intro _ _ _ _ _ _ _; (try dsimp only); (try k_fold))) | (k_here; (with_reducible show wpAny _ _ (eval (PySem.Expr.ListComp _ [PySem.Comprehension.mk _ _ [] _] _ _) _) _ _ _); k_dflt (refine LCg.ListComp_U (F₀ := by k_asm) (by with_unfolding_all rfl) (by decide) (by rfl) (by decide) (by rfl) ?_))) | (k_here; (with_reducible show wpAny _ _ (callWith _ (Value.ref _) [] _ _) _ _ _); k_dflt (first | (refine' callWith_K ?k1 ?k2 ?_; (case k1 => k_asm); (case k2 => k_is); k_whole) | (refine' callWith_K0 ?k1 ?k2 ?_; (case k1 => k_in); (case k2 => k_is); k_whole))) | ((with_reducible show wpAny _ _ (call _ _) _ _ _); first | (k_here; (with_reducible show wpAny _ _ (call (Value.builtin "len") [Value.ref _]) _ _ _); k_dflt (refine' len_L ?j1 ?j2 ?j3 ?_; (case j1 => k_asm); (case j2 => first | exact .tail _ (.tail _ (ha _)) | exact .tail _ (.tail _ (.tail _ (ha _))) | exact .tail _ (ha _) | exact ha _); (case j3 => with_reducible assumption))) | (k_here; (with_reducible show wpAny _ _ (call (Value.ref 42) _) _ _ _); k_dflt (refine' d2i_use ?jR ?jB ?jF ?jX ?jC1 ?jC2 ?jN ?jG ?jl ?jT ?jk ?jd ?ju ?p0 ?p1 ?p2 ?p3 ?p4 ?_; (case jR => with_reducible assumption); (case jB => k_asm); (case jF => k_asm); (case jX => k_asm); (case jC1 => with_reducible assumption); (case jC2 => with_reducible assumption); (case jN => k_asm); (case jG => wtm_at "r0"); (case jl => (intro r9; first | exact .tail _ (.tail _ (ha r9)) | exact .tail _ (.tail _ (.tail _ (ha r9))) | exact .tail _ (ha r9) | exact ha r9)); (case jT => k_asm); (case jk => exact rfl); (case jd => ((try dsimp only [ktrTop]); omega)); (case ju => ((try dsimp only [ktrTop]); omega)); (case p0 => with_reducible assumption); (case p1 => first | with_reducible assumption | omega); (case p2 => first | with_reducible assumption | omega); (case p3 => first | with_reducible assumption | omega); (case p4 => with_reducible assumption); k_whole); intro t9 h9 tk9 rest9 hR9 F9 N9; (try dsimp only); (try k_fold)) | (k_here; (with_reducible show wpAny _ _ (call (Value.ref 70) [Value.int _ _, Value.int _ _]) _ _ _); k_dflt (refine' op_lshift ?jB ?jF ?jX ?jN ?jT ?jk ?jd ?ju ?p1 ?p2 ?_; (case jB => k_asm); (case jF => k_asm); (case jX => k_asm); (case jN => k_asm); (case jT => k_asm); (case jk => exact rfl); (case jd => ((try dsimp only [ktrTop]); omega)); (case ju => ((try dsimp only [ktrTop]); omega)); (case p1 => first | with_reducible assumption | omega); (case p2 => with_reducible assumption); k_whole); intro _ _ _ _ _; (try dsimp only); (try k_fold)) | (k_here; (with_reducible show wpAny _ _ (call (Value.ref 42) _) _ _ _); k_dflt (refine' d2i_use ?jR ?jB ?jF ?jX ?jC1 ?jC2 ?jN ?jG ?jl ?jT ?jk ?jd ?ju ?p0 ?p1 ?p2 ?p3 ?p4 ?_; (case jR => with_reducible assumption); (case jB => k_asm); (case jF => k_asm); (case jX => k_asm); (case jC1 => with_reducible assumption); (case jC2 => with_reducible assumption); (case jN => k_asm); (case jG => wtm_at "r0"); (case jl => (intro _; k_mem)); (case jT => k_asm); (case jk => exact rfl); (case jd => ((try dsimp only [ktrTop]); omega)); (case ju => ((try dsimp only [ktrTop]); omega)); (case p0 => with_reducible assumption); (case p1 => first | with_reducible assumption | omega); (case p2 => first | with_reducible assumption | omega); (case p3 => first | with_reducible assumption | omega); (case p4 => with_reducible assumption); k_whole); intro _ _ _ _ _ _ _; (try dsimp only); (try k_fold))) | (k_here; (with_reducible show wpAny _ _ (eval (PySem.Expr.ListComp _ [PySem.Comprehension.mk _ _ [] _] _ _) _) _ _ _); k_dflt (refine LCg.ListComp_U (F₀ := by k_asm) (by with_unfolding_all rfl) (by decide) (by rfl) (by decide) (by rfl) ?_)) | walk1) | (leave1; (try dsimp only)) | fail "no step"))
    have f8 : (Builtin.Int.intBits 1 : Int) + wd ≤ 2 ^ 27 := by rw [b1, e27]; omega
    refine src_map_ints (fun k => if k = 1 then 1 else 1 * 2 ^ wd.toNat) rfl (by k_asm) (by k_asm) (.tail _ (.tail _ (ha _))) hi (by omega) ?_ ?_
    · intro g2 kk tb ys2 I oI C oC D m₂ h tk E' hkk hoC hb Ft Nt
      rcases hn kk hkk with rfl | rfl
      · (repeat' (first | (k_unfold; (try dsimp only)) | (k_end; wrow_close) | with_reducible (first | (k_here; (with_reducible show wpAny _ _ (callWith _ (Value.ref _) [] _ _) _ _ _); k_dflt (first | (refine' callWith_K ?k1 ?k2 ?_; (case k1 => k_asm); (case k2 => k_is); k_whole) | (refine' callWith_K0 ?k1 ?k2 ?_; (case k1 => k_in); (case k2 => k_is); k_whole))) | (k_here; (with_reducible show wpAny _ _ (call (Value.ref 70) [Value.int _ _, Value.int _ _]) _ _ _); k_dflt (refine' op_lshift ?jB ?jF ?jX ?jN ?jT ?jk ?jd ?ju ?p1 ?p2 ?_; (case jB => k_asm); (case jF => k_asm); (case jX => k_asm); (case jN => k_asm); (case jT => k_asm); (case jk => exact rfl); (case jd => ((try dsimp only [ktrTop]); omega)); (case ju => ((try dsimp only [ktrTop]); omega)); (case p1 => first | with_reducible assumption | omega); (case p2 => with_reducible assumption); k_whole); intro _ _ _ _ _; (try dsimp only); (try k_fold))) | (k_here; (with_reducible show wpAny _ _ (callWith _ (Value.ref _) [] _ _) _ _ _); k_dflt (first | (refine' callWith_K ?k1 ?k2 ?_; (case k1 => k_asm); (case k2 => k_is); k_whole) | (refine' callWith_K0 ?k1 ?k2 ?_; (case k1 => k_in); (case k2 => k_is); k_whole))) | (k_here; (with_reducible show wpAny _ _ (call (Value.ref 70) [Value.int _ _, Value.int _ _]) _ _ _); k_dflt (refine' op_lshift ?jB ?jF ?jX ?jN ?jT ?jk ?jd ?ju ?p1 ?p2 ?_; (case jB => k_asm); (case jF => k_asm); (case jX => k_asm); (case jN => k_asm); (case jT => k_asm); (case jk => exact rfl); (case jd => ((try dsimp only [ktrTop]); omega)); (case ju => ((try dsimp only [ktrTop]); omega)); (case p1 => first | with_reducible assumption | omega); (case p2 => with_reducible assumption); k_whole); intro _ _ _ _ _; (try dsimp only); (try k_fold)) | walk1 | (dsimp only; first | with_reducible (first | (k_here; (with_reducible show wpAny _ _ (callWith _ (Value.ref _) [] _ _) _ _ _); k_dflt (first | (refine' callWith_K ?k1 ?k2 ?_; (case k1 => k_asm); (case k2 => k_is); k_whole) | (refine' callWith_K0 ?k1 ?k2 ?_; (case k1 => k_in); (case k2 => k_is); k_whole))) | (k_here; (with_reducible show wpAny _ _ (call (Value.ref 70) [Value.int _ _, Value.int _ _]) _ _ _); k_dflt (refine' op_lshift ?jB ?jF ?jX ?jN ?jT ?jk ?jd ?ju ?p1 ?p2 ?_; (case jB => k_asm); (case jF => k_asm); (case jX => k_asm); (case jN => k_asm); (case jT => k_asm); (case jk => exact rfl); (case jd => ((try dsimp only [ktrTop]); omega)); (case ju => ((try dsimp only [ktrTop]); omega)); (case p1 => first | with_reducible assumption | omega); (case p2 => with_reducible assumption); k_whole); intro _ _ _ _ _; (try dsimp only); (try k_fold))) | (k_here; (with_reducible show wpAny _ _ (callWith _ (Value.ref _) [] _ _) _ _ _); k_dflt (first | (refine' callWith_K ?k1 ?k2 ?_; (case k1 => k_asm); (case k2 => k_is); k_whole) | (refine' callWith_K0 ?k1 ?k2 ?_; (case k1 => k_in); (case k2 => k_is); k_whole))) | (k_here; (with_reducible show wpAny _ _ (call (Value.ref 70) [Value.int _ _, Value.int _ _]) _ _ _); k_dflt (refine' op_lshift ?jB ?jF ?jX ?jN ?jT ?jk ?jd ?ju ?p1 ?p2 ?_; (case jB => k_asm); (case jF => k_asm); (case jX => k_asm); (case jN => k_asm); (case jT => k_asm); (case jk => exact rfl); (case jd => ((try dsimp only [ktrTop]); omega)); (case ju => ((try dsimp only [ktrTop]); omega)); (case p1 => first | with_reducible assumption | omega); (case p2 => with_reducible assumption); k_whole); intro _ _ _ _ _; (try dsimp only); (try k_fold)) | walk1) | (leave1; (try dsimp only)) | fail "no step"))
        rename Fr _ _ _ _ => Fe
        rename News _ _ _ _ => Ne
        exact IntEnd.intro Fe Ne
      · k_steps
        exact IntEnd.intro Ft Nt
    · intro g2 ys2 hys2
      (walk1; try dsimp only)
      rename_i D2 h2 tk2 F2 N2 off2
      have hD2 := off_tabs off2.2.2 hG (by with_reducible assumption)
      change News g' L' h2 ((D2, listOf ys2.toArray ys2.length) :: (D1, listOf ys.toArray ys.length) :: (L' + 1, o1) :: g _) at N2
      have f9 : (ns.map (fun k => if k = 1 then 1 else 1 * 2 ^ wd.toNat) ++ [(1 : Int)]).length ≤ 50 := by rw [List.length_append, List.length_map, List.length_singleton]; omega
      have f10 : Figs (2 * wd).toNat (ns.map (fun k => if k = 1 then 1 else 1 * 2 ^ wd.toNat) ++ [(1 : Int)]) := by rw [eW]; exact figs_snoc_one (by omega) (figs_pairs hW)
      have f11 : 0 ≤ dval (2 * wd).toNat (ns.map (fun k => if k = 1 then 1 else 1 * 2 ^ wd.toNat) ++ [(1 : Int)]) := (dval_bounds f10).1
      have f12 : LtPow (dval (2 * wd).toNat (ns.map (fun k => if k = 1 then 1 else 1 * 2 ^ wd.toNat) ++ [(1 : Int)])).toNat (wd.toNat * 50) := by
        obtain ⟨q1, q2⟩ := dval_bounds f10
        refine Nat.lt_of_lt_of_le (m := 2 ^ ((2 * wd).toNat * (ns.length + 1))) ?_ (Nat.pow_le_pow_right (by decide) (Nat.le_trans (Nat.mul_le_mul_left _ (show ns.length + 1 ≤ 7 by omega)) (by omega)))
        rw [List.length_append, List.length_map, List.length_singleton] at q2
        have q3 : (((dval (2 * wd).toNat (ns.map (fun k => if k = 1 then 1 else 1 * 2 ^ wd.toNat) ++ [(1 : Int)])).toNat : Nat) : Int) < ((2 ^ ((2 * wd).toNat * (ns.length + 1)) : Nat) : Int) := by
          rw [Int.toNat_of_nonneg q1]; push_cast; exact q2
        exact_mod_cast q3
      (repeat' (first | (k_unfold; (try dsimp only)) | (k_end; wrow_close) | with_reducible (first | (k_here; (with_reducible show wpAny _ _ (callWith _ (Value.ref _) [] _ _) _ _ _); k_dflt (first | (refine' callWith_K ?k1 ?k2 ?_; (case k1 => k_asm); (case k2 => k_is); k_whole) | (refine' callWith_K0 ?k1 ?k2 ?_; (case k1 => k_in); (case k2 => k_is); k_whole))) | ((with_reducible show wpAny _ _ (call _ _) _ _ _); first | (k_here; (with_reducible show wpAny _ _ (call (Value.ref 42) _) _ _ _); k_dflt (refine' d2i_use ?jR ?jB ?jF ?jX ?jC1 ?jC2 ?jN ?jG ?jl ?jT ?jk ?jd ?ju ?p0 ?p1 ?p2 ?p3 ?p4 ?_; (case jR => with_reducible assumption); (case jB => k_asm); (case jF => k_asm); (case jX => k_asm); (case jC1 => with_reducible assumption); (case jC2 => with_reducible assumption); (case jN => k_asm); (case jG => wtm_at "r0"); (case jl => (intro _; k_mem)); (case jT => k_asm); (case jk => exact rfl); (case jd => ((try dsimp only [ktrTop]); omega)); (case ju => ((try dsimp only [ktrTop]); omega)); (case p0 => with_reducible assumption); (case p1 => first | with_reducible assumption | omega); (case p2 => first | with_reducible assumption | omega); (case p3 => first | with_reducible assumption | omega); (case p4 => with_reducible assumption); k_whole); intro _ _ _ _ _ _ _; (try dsimp only); (try k_fold)) | (k_here; (with_reducible show wpAny _ _ (call (Value.ref 35) _) _ _ _); k_dflt (refine' i2d_use ?jR ?jB ?jF ?jX ?jC1 ?jC2 ?jN ?jG ?jT ?jk ?jd ?ju ?p1 ?p2 ?p3 ?p4 ?_; (case jR => with_reducible assumption); (case jB => k_asm); (case jF => k_asm); (case jX => k_asm); (case jC1 => with_reducible assumption); (case jC2 => with_reducible assumption); (case jN => k_asm); (case jG => wtm_at "r0"); (case jT => k_asm); (case jk => exact rfl); (case jd => ((try dsimp only [ktrTop]); omega)); (case ju => ((try dsimp only [ktrTop]); omega)); (case p1 => first | with_reducible assumption | omega); (case p2 => first | with_reducible assumption | omega); (case p3 => first | with_reducible assumption | omega); (case p4 => with_reducible assumption); k_whole); intro _ _ _ _ _ _ _ _ _ _ _; (try dsimp only); (try k_fold)))) | (k_here; (with_reducible show wpAny _ _ (callWith _ (Value.ref _) [] _ _) _ _ _); k_dflt (first | (refine' callWith_K ?k1 ?k2 ?_; (case k1 => k_asm); (case k2 => k_is); k_whole) | (refine' callWith_K0 ?k1 ?k2 ?_; (case k1 => k_in); (case k2 => k_is); k_whole))) | ((with_reducible show wpAny _ _ (call _ _) _ _ _); first | (k_here; (with_reducible show wpAny _ _ (call (Value.ref 42) _) _ _ _); k_dflt (refine' d2i_use ?jR ?jB ?jF ?jX ?jC1 ?jC2 ?jN ?jG ?jl ?jT ?jk ?jd ?ju ?p0 ?p1 ?p2 ?p3 ?p4 ?_; (case jR => with_reducible assumption); (case jB => k_asm); (case jF => k_asm); (case jX => k_asm); (case jC1 => with_reducible assumption); (case jC2 => with_reducible assumption); (case jN => k_asm); (case jG => wtm_at "r0"); (case jl => (intro _; k_mem)); (case jT => k_asm); (case jk => exact rfl); (case jd => ((try dsimp only [ktrTop]); omega)); (case ju => ((try dsimp only [ktrTop]); omega)); (case p0 => with_reducible assumption); (case p1 => first | with_reducible assumption | omega); (case p2 => first | with_reducible assumption | omega); (case p3 => first | with_reducible assumption | omega); (case p4 => with_reducible assumption); k_whole); intro _ _ _ _ _ _ _; (try dsimp only); (try k_fold)) | (k_here; (with_reducible show wpAny _ _ (call (Value.ref 35) _) _ _ _); k_dflt (refine' i2d_use ?jR ?jB ?jF ?jX ?jC1 ?jC2 ?jN ?jG ?jT ?jk ?jd ?ju ?p1 ?p2 ?p3 ?p4 ?_; (case jR => with_reducible assumption); (case jB => k_asm); (case jF => k_asm); (case jX => k_asm); (case jC1 => with_reducible assumption); (case jC2 => with_reducible assumption); (case jN => k_asm); (case jG => wtm_at "r0"); (case jT => k_asm); (case jk => exact rfl); (case jd => ((try dsimp only [ktrTop]); omega)); (case ju => ((try dsimp only [ktrTop]); omega)); (case p1 => first | with_reducible assumption | omega); (case p2 => first | with_reducible assumption | omega); (case p3 => first | with_reducible assumption | omega); (case p4 => with_reducible assumption); k_whole); intro _ _ _ _ _ _ _ _ _ _ _; (try dsimp only); (try k_fold))) | walk1 | (dsimp only; first | with_reducible (first | (k_here; (with_reducible show wpAny _ _ (callWith _ (Value.ref _) [] _ _) _ _ _); k_dflt (first | (refine' callWith_K ?k1 ?k2 ?_; (case k1 => k_asm); (case k2 => k_is); k_whole) | (refine' callWith_K0 ?k1 ?k2 ?_; (case k1 => k_in); (case k2 => k_is); k_whole))) | ((with_reducible show wpAny _ _ (call _ _) _ _ _); first | (k_here; (with_reducible show wpAny _ _ (call (Value.ref 42) _) _ _ _); k_dflt (refine' d2i_use ?jR ?jB ?jF ?jX ?jC1 ?jC2 ?jN ?jG ?jl ?jT ?jk ?jd ?ju ?p0 ?p1 ?p2 ?p3 ?p4 ?_; (case jR => with_reducible assumption); (case jB => k_asm); (case jF => k_asm); (case jX => k_asm); (case jC1 => with_reducible assumption); (case jC2 => with_reducible assumption); (case jN => k_asm); (case jG => wtm_at "r0"); (case jl => (intro _; k_mem)); (case jT => k_asm); (case jk => exact rfl); (case jd => ((try dsimp only [ktrTop]); omega)); (case ju => ((try dsimp only [ktrTop]); omega)); (case p0 => with_reducible assumption); (case p1 => first | with_reducible assumption | omega); (case p2 => first | with_reducible assumption | omega); (case p3 => first | with_reducible assumption | omega); (case p4 => with_reducible assumption); k_whole); intro _ _ _ _ _ _ _; (try dsimp only); (try k_fold)) | (k_here; (with_reducible show wpAny _ _ (call (Value.ref 35) _) _ _ _); k_dflt (refine' i2d_use ?jR ?jB ?jF ?jX ?jC1 ?jC2 ?jN ?jG ?jT ?jk ?jd ?ju ?p1 ?p2 ?p3 ?p4 ?_; (case jR => with_reducible assumption); (case jB => k_asm); (case jF => k_asm); (case jX => k_asm); (case jC1 => with_reducible assumption); (case jC2 => with_reducible assumption); (case jN => k_asm); (case jG => wtm_at "r0"); (case jT => k_asm); (case jk => exact rfl); (case jd => ((try dsimp only [ktrTop]); omega)); (case ju => ((try dsimp only [ktrTop]); omega)); (case p1 => first | with_reducible assumption | omega); (case p2 => first | with_reducible assumption | omega); (case p3 => first | with_reducible assumption | omega); (case p4 => with_reducible assumption); k_whole); intro _ _ _ _ _ _ _ _ _ _ _; (try dsimp only); (try k_fold)))) | (k_here; (with_reducible show wpAny _ _ (callWith _ (Value.ref _) [] _ _) _ _ _); k_dflt (first | (refine' callWith_K ?k1 ?k2 ?_; (case k1 => k_asm); (case k2 => k_is); k_whole) | (refine' callWith_K0 ?k1 ?k2 ?_; (case k1 => k_in); (case k2 => k_is); k_whole))) | ((with_reducible show wpAny _ _ (call _ _) _ _ _); first | (k_here; (with_reducible show wpAny _ _ (call (Value.ref 42) _) _ _ _); k_dflt (refine' d2i_use ?jR ?jB ?jF ?jX ?jC1 ?jC2 ?jN ?jG ?jl ?jT ?jk ?jd ?ju ?p0 ?p1 ?p2 ?p3 ?p4 ?_; (case jR => with_reducible assumption); (case jB => k_asm); (case jF => k_asm); (case jX => k_asm); (case jC1 => with_reducible assumption); (case jC2 => with_reducible assumption); (case jN => k_asm); (case jG => wtm_at "r0"); (case jl => (intro _; k_mem)); (case jT => k_asm); (case jk => exact rfl); (case jd => ((try dsimp only [ktrTop]); omega)); (case ju => ((try dsimp only [ktrTop]); omega)); (case p0 => with_reducible assumption); (case p1 => first | with_reducible assumption | omega); (case p2 => first | with_reducible assumption | omega); (case p3 => first | with_reducible assumption | omega); (case p4 => with_reducible assumption); k_whole); intro _ _ _ _ _ _ _; (try dsimp only); (try k_fold)) | (k_here; (with_reducible show wpAny _ _ (call (Value.ref 35) _) _ _ _); k_dflt (refine' i2d_use ?jR ?jB ?jF ?jX ?jC1 ?jC2 ?jN ?jG ?jT ?jk ?jd ?ju ?p1 ?p2 ?p3 ?p4 ?_; (case jR => with_reducible assumption); (case jB => k_asm); (case jF => k_asm); (case jX => k_asm); (case jC1 => with_reducible assumption); (case jC2 => with_reducible assumption); (case jN => k_asm); (case jG => wtm_at "r0"); (case jT => k_asm); (case jk => exact rfl); (case jd => ((try dsimp only [ktrTop]); omega)); (case ju => ((try dsimp only [ktrTop]); omega)); (case p1 => first | with_reducible assumption | omega); (case p2 => first | with_reducible assumption | omega); (case p3 => first | with_reducible assumption | omega); (case p4 => with_reducible assumption); k_whole); intro _ _ _ _ _ _ _ _ _ _ _; (try dsimp only); (try k_fold))) | walk1) | (leave1; (try dsimp only)) | fail "no step"))
      rename IntsAre _ (digs _ _ _) => hi9
      have eD : digs wd.toNat (ndig wd.toNat (dval (2 * wd).toNat (ns.map (fun k => if k = 1 then 1 else 1 * 2 ^ wd.toNat) ++ [(1 : Int)])).toNat) (dval (2 * wd).toNat (ns.map (fun k => if k = 1 then 1 else 1 * 2 ^ wd.toNat) ++ [(1 : Int)])).toNat = dbl ns ++ [1] := by rw [eW]; exact digs_doubled hW hn
      rw [eD] at hi9
      have f13 : (dbl ns ++ [(1 : Int)]).length ≤ 1000 := by rw [List.length_append, dbl_length, List.length_singleton]; omega
      (repeat' (first | (k_unfold; (try dsimp only)) | (k_end; wrow_close) | with_reducible (first | (k_here; (with_reducible show wpAny _ _ (subscriptTail _ (PySem.Expr.Slice _ _ none _) (Value.ref _) (Value.ref _)) _ _ _); k_dflt (refine' sliceL ?z1 ?z2 ?z3 ?z4 ?z5 ?z9 ?_ ?z6 ?z7 ?z8; (case z1 => k_asm); (case z2 => k_asm); (case z3 => k_mem); (case z4 => kmk_part); (case z5 => kmk_part); (case z9 => with_reducible assumption); (case z6 => with_unfolding_all rfl); (case z7 => (intro _; with_unfolding_all rfl)); (case z8 => with_reducible assumption)); wtm_at "t8") | (k_here; (with_reducible show wpAny _ _ (eval (PySem.Expr.ListComp _ [_, _] _ _) _) _ _ _); k_dflt (refine ListComp_2 (by k_asm) (by with_unfolding_all rfl) (by decide) (by rfl) (by decide) (by rfl) (by rfl) (by decide) ?_))) | (k_here; (with_reducible show wpAny _ _ (subscriptTail _ (PySem.Expr.Slice _ _ none _) (Value.ref _) (Value.ref _)) _ _ _); k_dflt (refine' sliceL ?z1 ?z2 ?z3 ?z4 ?z5 ?z9 ?_ ?z6 ?z7 ?z8; (case z1 => k_asm); (case z2 => k_asm); (case z3 => k_mem); (case z4 => kmk_part); (case z5 => kmk_part); (case z9 => with_reducible assumption); (case z6 => with_unfolding_all rfl); (case z7 => (intro _; with_unfolding_all rfl)); (case z8 => with_reducible assumption)); wtm_at "t8") | (k_here; (with_reducible show wpAny _ _ (eval (PySem.Expr.ListComp _ [_, _] _ _) _) _ _ _); k_dflt (refine ListComp_2 (by k_asm) (by with_unfolding_all rfl) (by decide) (by rfl) (by decide) (by rfl) (by rfl) (by decide) ?_)) | walk1 | (dsimp only; first | with_reducible (first | (k_here; (with_reducible show wpAny _ _ (subscriptTail _ (PySem.Expr.Slice _ _ none _) (Value.ref _) (Value.ref _)) _ _ _); k_dflt (refine' sliceL ?z1 ?z2 ?z3 ?z4 ?z5 ?z9 ?_ ?z6 ?z7 ?z8; (case z1 => k_asm); (case z2 => k_asm); (case z3 => k_mem); (case z4 => kmk_part); (case z5 => kmk_part); (case z9 => with_reducible assumption); (case z6 => with_unfolding_all rfl); (case z7 => (intro _; with_unfolding_all rfl)); (case z8 => with_reducible assumption)); wtm_at "t8") | (k_here; (with_reducible show wpAny _ _ (eval (PySem.Expr.ListComp _ [_, _] _ _) _) _ _ _); k_dflt (refine ListComp_2 (by k_asm) (by with_unfolding_all rfl) (by decide) (by rfl) (by decide) (by rfl) (by rfl) (by decide) ?_))) | (k_here; (with_reducible show wpAny _ _ (subscriptTail _ (PySem.Expr.Slice _ _ none _) (Value.ref _) (Value.ref _)) _ _ _); k_dflt (refine' sliceL ?z1 ?z2 ?z3 ?z4 ?z5 ?z9 ?_ ?z6 ?z7 ?z8; (case z1 => k_asm); (case z2 => k_asm); (case z3 => k_mem); (case z4 => kmk_part); (case z5 => kmk_part); (case z9 => with_reducible assumption); (case z6 => with_unfolding_all rfl); (case z7 => (intro _; with_unfolding_all rfl)); (case z8 => with_reducible assumption)); wtm_at "t8") | (k_here; (with_reducible show wpAny _ _ (eval (PySem.Expr.ListComp _ [_, _] _ _) _) _ _ _); k_dflt (refine ListComp_2 (by k_asm) (by with_unfolding_all rfl) (by decide) (by rfl) (by decide) (by rfl) (by rfl) (by decide) ?_)) | walk1) | (leave1; (try dsimp only)) | fail "no step"))
      rw [pickI_last] at *
      refine src2_ints (fun b => [b, 1 - b]) rfl (by k_asm) (by k_asm) (by exact .tail _ (.tail _ (.tail _ (.tail _ (.tail _ (.tail _ (.tail _ (ha _)))))))) hi (by omega) (fun _ => by simp) ?_ ?_
      · intro kk tb ys I oI C oC D m₂ h tk E' hkk hoC hb Ft Nt
        k_steps
        rename Fr _ _ _ _ => Fe
        rename News _ _ _ _ => Ne
        rename (_ ∧ _) => l9
        exact ListEnd.intro Fe Ne (allNe_of (l := _ :: _ :: _ :: _ :: _ :: _ :: _ :: _ :: _ :: _ :: g _) l9) (.cons _ _ (.cons _ _ .nil))
      · intro D3 ys3 h3 tk3 hys3 F3 N3 o3
        rw [dbl_flat] at hys3
        have hD3 := off_tabs o3.2.2.2.2.2.2.2 hG (by with_reducible assumption)
        have f14 : (Builtin.Int.intBits (Builtin.bitXor (dval (2 * wd).toNat ns) (dval (2 * wd).toNat (ns.map fun _ => (1 : Int)))) : Int) + wd ≤ 2 ^ 27 := by
          have := xor_bits f4 f2 (by rw [List.length_map])
          have h2 : (2 * wd).toNat * ns.length ≤ 800 * 6 := Nat.mul_le_mul (by omega) (by omega)
          rw [e27]; omega
        have eT : (2 * wd * ((vs.toArray.size : Nat) : Int)).toNat = 2 * wd.toNat * ns.length := by
          rw [List.size_toArray, hi.length]
          have : 2 * wd * ((ns.length : Nat) : Int) = ((2 * wd.toNat * ns.length : Nat) : Int) := by
            push_cast; rw [Int.toNat_of_nonneg (by omega)]
          rw [this, Int.toNat_natCast]
        have f15 : dval (2 * wd).toNat (ns.map (fun k => if k = 1 then 1 else 1 * 2 ^ wd.toNat) ++ [(1 : Int)]) = Builtin.bitOr (Builtin.bitOr (dval (2 * wd).toNat ns) (1 * 2 ^ (2 * wd * ((vs.toArray.size : Nat) : Int)).toNat)) (Builtin.bitOr (Builtin.bitXor (dval (2 * wd).toNat ns) (dval (2 * wd).toNat (ns.map fun _ => (1 : Int))) * 2 ^ wd.toNat) (1 * 2 ^ (2 * wd * ((vs.toArray.size : Nat) : Int)).toNat)) := by
          rw [eT, eW]; exact (or_doubled hW hn).symm
        have f16 : (Builtin.Int.intBits 1 : Int) + 2 * wd ≤ 2 ^ 27 := by rw [b1, e27]; omega
        have f16b : 0 ≤ 2 * wd := by omega
        have hP : (2 : Int) ≤ 2 ^ (2 * wd.toNat) := two_le_pow (by omega)
        have f17 : 0 ≤ (1 : Int) * 2 ^ (2 * wd * ((vs.toArray.size : Nat) : Int)).toNat := by rw [Int.one_mul]; exact Int.le_of_lt (pow2_pos _)
        have f18 : 0 < (1 : Int) * 2 ^ (2 * wd).toNat - 1 := by rw [eW]; omega
        have bO : Builtin.Int.intBits ((1 : Int) * 2 ^ (2 * wd).toNat - 1) = 2 * wd.toNat := by rw [eW]; exact bits_ones hW
        have f19 : Builtin.Int.intBits ((1 : Int) * 2 ^ (2 * wd).toNat - 1) ≤ 8000 := by rw [bO]; omega
        have f20 : LtPow ((1 : Int) * 2 ^ (2 * wd * ((vs.toArray.size : Nat) : Int)).toNat).toNat (Builtin.Int.intBits ((1 : Int) * 2 ^ (2 * wd).toNat - 1) * 50) := by
          rw [bO, eT]; exact ltPow_top (Nat.mul_lt_mul_of_pos_left (by omega) (by omega))
        have f21 : LtPow ((1 : Int) * 2 ^ (2 * wd).toNat - 1).toNat 4000 ∨ LtPow ((1 : Int) * 2 ^ (2 * wd * ((vs.toArray.size : Nat) : Int)).toNat).toNat (Builtin.Int.intBits ((1 : Int) * 2 ^ (2 * wd).toNat - 1) + 4000) := by
          left
          refine Nat.lt_of_lt_of_le (ltPow_int (n := 2 * wd.toNat) (by omega) (by rw [eW]; omega)) (Nat.pow_le_pow_right (by decide) (by omega))
        (repeat' (first | (k_unfold; (try dsimp only)) | (k_end; wrow_close) | with_reducible (first | (k_here; (with_reducible show wpAny _ _ (callWith _ (Value.ref _) [] _ _) _ _ _); k_dflt (first | (refine' callWith_K ?k1 ?k2 ?_; (case k1 => k_asm); (case k2 => k_is); k_whole) | (refine' callWith_K0 ?k1 ?k2 ?_; (case k1 => k_in); (case k2 => k_is); k_whole))) | ((with_reducible show wpAny _ _ (call _ _) _ _ _); first | (k_here; (with_reducible show wpAny _ _ (call (Value.ref 56) _) _ _ _); k_dflt (refine' int_divmod_spec ?jR ?jB ?jF ?jX ?jC1 ?jC2 ?jN ?jG ?jT ?jk ?jd ?ju ?p0 ?p1 ?p2 ?p3 ?p4 ?_; (case jR => with_reducible assumption); (case jB => k_asm); (case jF => k_asm); (case jX => k_asm); (case jC1 => with_reducible assumption); (case jC2 => with_reducible assumption); (case jN => k_asm); (case jG => wtm_at "r0"); (case jT => k_asm); (case jk => exact rfl); (case jd => ((try dsimp only [ktrTop]); omega)); (case ju => ((try dsimp only [ktrTop]); omega)); (case p0 => with_reducible assumption); (case p1 => with_reducible assumption); (case p2 => with_reducible assumption); (case p3 => with_reducible assumption); (case p4 => with_reducible assumption); k_whole); intro _ _ _ _ _ _ _ _ _; (try dsimp only); (try k_fold)) | (k_here; (with_reducible show wpAny _ _ (call (Value.ref 98) [Value.int _ _, Value.int _ _]) _ _ _); k_dflt (refine' op_xor ?jB ?jF ?jX ?jN ?jT ?jk ?jd ?ju  ?_; (case jB => k_asm); (case jF => k_asm); (case jX => k_asm); (case jN => k_asm); (case jT => k_asm); (case jk => exact rfl); (case jd => ((try dsimp only [ktrTop]); omega)); (case ju => ((try dsimp only [ktrTop]); omega)); k_whole); intro _ _ _ _ _; (try dsimp only); (try k_fold)) | (k_here; (with_reducible show wpAny _ _ (call (Value.ref 91) [Value.int _ _, Value.int _ _]) _ _ _); k_dflt (refine' op_sub ?jB ?jF ?jX ?jN ?jT ?jk ?jd ?ju  ?_; (case jB => k_asm); (case jF => k_asm); (case jX => k_asm); (case jN => k_asm); (case jT => k_asm); (case jk => exact rfl); (case jd => ((try dsimp only [ktrTop]); omega)); (case ju => ((try dsimp only [ktrTop]); omega)); k_whole); intro _ _ _ _ _; (try dsimp only); (try k_fold)) | (k_here; (with_reducible show wpAny _ _ (call (Value.ref 84) [Value.int _ _, Value.int _ _]) _ _ _); k_dflt (refine' op_or ?jB ?jF ?jX ?jN ?jT ?jk ?jd ?ju  ?_; (case jB => k_asm); (case jF => k_asm); (case jX => k_asm); (case jN => k_asm); (case jT => k_asm); (case jk => exact rfl); (case jd => ((try dsimp only [ktrTop]); omega)); (case ju => ((try dsimp only [ktrTop]); omega)); k_whole); intro _ _ _ _ _; (try dsimp only); (try k_fold)) | (k_here; (with_reducible show wpAny _ _ (call (Value.ref 70) [Value.int _ _, Value.int _ _]) _ _ _); k_dflt (refine' op_lshift ?jB ?jF ?jX ?jN ?jT ?jk ?jd ?ju ?p1 ?p2 ?_; (case jB => k_asm); (case jF => k_asm); (case jX => k_asm); (case jN => k_asm); (case jT => k_asm); (case jk => exact rfl); (case jd => ((try dsimp only [ktrTop]); omega)); (case ju => ((try dsimp only [ktrTop]); omega)); (case p1 => first | with_reducible assumption | omega); (case p2 => with_reducible assumption); k_whole); intro _ _ _ _ _; (try dsimp only); (try k_fold)))) | (k_here; (with_reducible show wpAny _ _ (callWith _ (Value.ref _) [] _ _) _ _ _); k_dflt (first | (refine' callWith_K ?k1 ?k2 ?_; (case k1 => k_asm); (case k2 => k_is); k_whole) | (refine' callWith_K0 ?k1 ?k2 ?_; (case k1 => k_in); (case k2 => k_is); k_whole))) | ((with_reducible show wpAny _ _ (call _ _) _ _ _); first | (k_here; (with_reducible show wpAny _ _ (call (Value.ref 56) _) _ _ _); k_dflt (refine' int_divmod_spec ?jR ?jB ?jF ?jX ?jC1 ?jC2 ?jN ?jG ?jT ?jk ?jd ?ju ?p0 ?p1 ?p2 ?p3 ?p4 ?_; (case jR => with_reducible assumption); (case jB => k_asm); (case jF => k_asm); (case jX => k_asm); (case jC1 => with_reducible assumption); (case jC2 => with_reducible assumption); (case jN => k_asm); (case jG => wtm_at "r0"); (case jT => k_asm); (case jk => exact rfl); (case jd => ((try dsimp only [ktrTop]); omega)); (case ju => ((try dsimp only [ktrTop]); omega)); (case p0 => with_reducible assumption); (case p1 => with_reducible assumption); (case p2 => with_reducible assumption); (case p3 => with_reducible assumption); (case p4 => with_reducible assumption); k_whole); intro _ _ _ _ _ _ _ _ _; (try dsimp only); (try k_fold)) | (k_here; (with_reducible show wpAny _ _ (call (Value.ref 98) [Value.int _ _, Value.int _ _]) _ _ _); k_dflt (refine' op_xor ?jB ?jF ?jX ?jN ?jT ?jk ?jd ?ju  ?_; (case jB => k_asm); (case jF => k_asm); (case jX => k_asm); (case jN => k_asm); (case jT => k_asm); (case jk => exact rfl); (case jd => ((try dsimp only [ktrTop]); omega)); (case ju => ((try dsimp only [ktrTop]); omega)); k_whole); intro _ _ _ _ _; (try dsimp only); (try k_fold)) | (k_here; (with_reducible show wpAny _ _ (call (Value.ref 91) [Value.int _ _, Value.int _ _]) _ _ _); k_dflt (refine' op_sub ?jB ?jF ?jX ?jN ?jT ?jk ?jd ?ju  ?_; (case jB => k_asm); (case jF => k_asm); (case jX => k_asm); (case jN => k_asm); (case jT => k_asm); (case jk => exact rfl); (case jd => ((try dsimp only [ktrTop]); omega)); (case ju => ((try dsimp only [ktrTop]); omega)); k_whole); intro _ _ _ _ _; (try dsimp only); (try k_fold)) | (k_here; (with_reducible show wpAny _ _ (call (Value.ref 84) [Value.int _ _, Value.int _ _]) _ _ _); k_dflt (refine' op_or ?jB ?jF ?jX ?jN ?jT ?jk ?jd ?ju  ?_; (case jB => k_asm); (case jF => k_asm); (case jX => k_asm); (case jN => k_asm); (case jT => k_asm); (case jk => exact rfl); (case jd => ((try dsimp only [ktrTop]); omega)); (case ju => ((try dsimp only [ktrTop]); omega)); k_whole); intro _ _ _ _ _; (try dsimp only); (try k_fold)) | (k_here; (with_reducible show wpAny _ _ (call (Value.ref 70) [Value.int _ _, Value.int _ _]) _ _ _); k_dflt (refine' op_lshift ?jB ?jF ?jX ?jN ?jT ?jk ?jd ?ju ?p1 ?p2 ?_; (case jB => k_asm); (case jF => k_asm); (case jX => k_asm); (case jN => k_asm); (case jT => k_asm); (case jk => exact rfl); (case jd => ((try dsimp only [ktrTop]); omega)); (case ju => ((try dsimp only [ktrTop]); omega)); (case p1 => first | with_reducible assumption | omega); (case p2 => with_reducible assumption); k_whole); intro _ _ _ _ _; (try dsimp only); (try k_fold))) | walk1 | (dsimp only; first | with_reducible (first | (k_here; (with_reducible show wpAny _ _ (callWith _ (Value.ref _) [] _ _) _ _ _); k_dflt (first | (refine' callWith_K ?k1 ?k2 ?_; (case k1 => k_asm); (case k2 => k_is); k_whole) | (refine' callWith_K0 ?k1 ?k2 ?_; (case k1 => k_in); (case k2 => k_is); k_whole))) | ((with_reducible show wpAny _ _ (call _ _) _ _ _); first | (k_here; (with_reducible show wpAny _ _ (call (Value.ref 56) _) _ _ _); k_dflt (refine' int_divmod_spec ?jR ?jB ?jF ?jX ?jC1 ?jC2 ?jN ?jG ?jT ?jk ?jd ?ju ?p0 ?p1 ?p2 ?p3 ?p4 ?_; (case jR => with_reducible assumption); (case jB => k_asm); (case jF => k_asm); (case jX => k_asm); (case jC1 => with_reducible assumption); (case jC2 => with_reducible assumption); (case jN => k_asm); (case jG => wtm_at "r0"); (case jT => k_asm); (case jk => exact rfl); (case jd => ((try dsimp only [ktrTop]); omega)); (case ju => ((try dsimp only [ktrTop]); omega)); (case p0 => with_reducible assumption); (case p1 => with_reducible assumption); (case p2 => with_reducible assumption); (case p3 => with_reducible assumption); (case p4 => with_reducible assumption); k_whole); intro _ _ _ _ _ _ _ _ _; (try dsimp only); (try k_fold)) | (k_here; (with_reducible show wpAny _ _ (call (Value.ref 98) [Value.int _ _, Value.int _ _]) _ _ _); k_dflt (refine' op_xor ?jB ?jF ?jX ?jN ?jT ?jk ?jd ?ju  ?_; (case jB => k_asm); (case jF => k_asm); (case jX => k_asm); (case jN => k_asm); (case jT => k_asm); (case jk => exact rfl); (case jd => ((try dsimp only [ktrTop]); omega)); (case ju => ((try dsimp only [ktrTop]); omega)); k_whole); intro _ _ _ _ _; (try dsimp only); (try k_fold)) | (k_here; (with_reducible show wpAny _ _ (call (Value.ref 91) [Value.int _ _, Value.int _ _]) _ _ _); k_dflt (refine' op_sub ?jB ?jF ?jX ?jN ?jT ?jk ?jd ?ju  ?_; (case jB => k_asm); (case jF => k_asm); (case jX => k_asm); (case jN => k_asm); (case jT => k_asm); (case jk => exact rfl); (case jd => ((try dsimp only [ktrTop]); omega)); (case ju => ((try dsimp only [ktrTop]); omega)); k_whole); intro _ _ _ _ _; (try dsimp only); (try k_fold)) | (k_here; (with_reducible show wpAny _ _ (call (Value.ref 84) [Value.int _ _, Value.int _ _]) _ _ _); k_dflt (refine' op_or ?jB ?jF ?jX ?jN ?jT ?jk ?jd ?ju  ?_; (case jB => k_asm); (case jF => k_asm); (case jX => k_asm); (case jN => k_asm); (case jT => k_asm); (case jk => exact rfl); (case jd => ((try dsimp only [ktrTop]); omega)); (case ju => ((try dsimp only [ktrTop]); omega)); k_whole); intro _ _ _ _ _; (try dsimp only); (try k_fold)) | (k_here; (with_reducible show wpAny _ _ (call (Value.ref 70) [Value.int _ _, Value.int _ _]) _ _ _); k_dflt (refine' op_lshift ?jB ?jF ?jX ?jN ?jT ?jk ?jd ?ju ?p1 ?p2 ?_; (case jB => k_asm); (case jF => k_asm); (case jX => k_asm); (case jN => k_asm); (case jT => k_asm); (case jk => exact rfl); (case jd => ((try dsimp only [ktrTop]); omega)); (case ju => ((try dsimp only [ktrTop]); omega)); (case p1 => first | with_reducible assumption | omega); (case p2 => with_reducible assumption); k_whole); intro _ _ _ _ _; (try dsimp only); (try k_fold)))) | (k_here; (with_reducible show wpAny _ _ (callWith _ (Value.ref _) [] _ _) _ _ _); k_dflt (first | (refine' callWith_K ?k1 ?k2 ?_; (case k1 => k_asm); (case k2 => k_is); k_whole) | (refine' callWith_K0 ?k1 ?k2 ?_; (case k1 => k_in); (case k2 => k_is); k_whole))) | ((with_reducible show wpAny _ _ (call _ _) _ _ _); first | (k_here; (with_reducible show wpAny _ _ (call (Value.ref 56) _) _ _ _); k_dflt (refine' int_divmod_spec ?jR ?jB ?jF ?jX ?jC1 ?jC2 ?jN ?jG ?jT ?jk ?jd ?ju ?p0 ?p1 ?p2 ?p3 ?p4 ?_; (case jR => with_reducible assumption); (case jB => k_asm); (case jF => k_asm); (case jX => k_asm); (case jC1 => with_reducible assumption); (case jC2 => with_reducible assumption); (case jN => k_asm); (case jG => wtm_at "r0"); (case jT => k_asm); (case jk => exact rfl); (case jd => ((try dsimp only [ktrTop]); omega)); (case ju => ((try dsimp only [ktrTop]); omega)); (case p0 => with_reducible assumption); (case p1 => with_reducible assumption); (case p2 => with_reducible assumption); (case p3 => with_reducible assumption); (case p4 => with_reducible assumption); k_whole); intro _ _ _ _ _ _ _ _ _; (try dsimp only); (try k_fold)) | (k_here; (with_reducible show wpAny _ _ (call (Value.ref 98) [Value.int _ _, Value.int _ _]) _ _ _); k_dflt (refine' op_xor ?jB ?jF ?jX ?jN ?jT ?jk ?jd ?ju  ?_; (case jB => k_asm); (case jF => k_asm); (case jX => k_asm); (case jN => k_asm); (case jT => k_asm); (case jk => exact rfl); (case jd => ((try dsimp only [ktrTop]); omega)); (case ju => ((try dsimp only [ktrTop]); omega)); k_whole); intro _ _ _ _ _; (try dsimp only); (try k_fold)) | (k_here; (with_reducible show wpAny _ _ (call (Value.ref 91) [Value.int _ _, Value.int _ _]) _ _ _); k_dflt (refine' op_sub ?jB ?jF ?jX ?jN ?jT ?jk ?jd ?ju  ?_; (case jB => k_asm); (case jF => k_asm); (case jX => k_asm); (case jN => k_asm); (case jT => k_asm); (case jk => exact rfl); (case jd => ((try dsimp only [ktrTop]); omega)); (case ju => ((try dsimp only [ktrTop]); omega)); k_whole); intro _ _ _ _ _; (try dsimp only); (try k_fold)) | (k_here; (with_reducible show wpAny _ _ (call (Value.ref 84) [Value.int _ _, Value.int _ _]) _ _ _); k_dflt (refine' op_or ?jB ?jF ?jX ?jN ?jT ?jk ?jd ?ju  ?_; (case jB => k_asm); (case jF => k_asm); (case jX => k_asm); (case jN => k_asm); (case jT => k_asm); (case jk => exact rfl); (case jd => ((try dsimp only [ktrTop]); omega)); (case ju => ((try dsimp only [ktrTop]); omega)); k_whole); intro _ _ _ _ _; (try dsimp only); (try k_fold)) | (k_here; (with_reducible show wpAny _ _ (call (Value.ref 70) [Value.int _ _, Value.int _ _]) _ _ _); k_dflt (refine' op_lshift ?jB ?jF ?jX ?jN ?jT ?jk ?jd ?ju ?p1 ?p2 ?_; (case jB => k_asm); (case jF => k_asm); (case jX => k_asm); (case jN => k_asm); (case jT => k_asm); (case jk => exact rfl); (case jd => ((try dsimp only [ktrTop]); omega)); (case ju => ((try dsimp only [ktrTop]); omega)); (case p1 => first | with_reducible assumption | omega); (case p2 => with_reducible assumption); k_whole); intro _ _ _ _ _; (try dsimp only); (try k_fold))) | walk1) | (leave1; (try dsimp only)) | fail "no step"))
        · rename _ ≠ _ => hne
          exact absurd f15 hne
        · rename Fr h₀ L _ _ => kF
          rename News h₀ L _ _ => kN
          refine hret _ _ _ _ _ ?_ (by with_reducible assumption) kF (cb_drop kN (List.forall_mem_cons.mpr ⟨.tail _ (.tail _ (.tail _ (.head _))), fun p hp => .tail _ (.tail _ (.tail _ (.tail _ (.tail _ (.tail _ (.tail _ (.tail _ (.tail _ (.tail _ hp)))))))))⟩)) ?_
          · with_reducible assumption
          · clear f14 f15 f16 f17 f18 f19 f20 f21 hP bO f10 f11 f12 f7 f8
            omega
        · rename (_ && _) = false => hb
          exfalso
          rw [eT, eW, (top_div hW).1, (top_div hW).2, map_ones] at hb
          simp at hb
end
end X4
theorem set_back_X4_z : True := by first | walk1 | trivial
-- Comp4
section Comp4
set_option maxRecDepth 100000
set_option maxHeartbeats 8000000
theorem set_back_Comp4 : True := by
  w_top off
  first | walk1 | trivial
section
variable {prog : Program} {w : World} {A : Around} {s : Shared} {h₀ : Heap} {L : Addr} {m : Str → Option Value} {env : Env} {ct elt : Expr} {x : Str} {scope : Scope} {cl : List (Str × Addr)}
/-- an element has come out as this value, the ledger as before -/
def FixEnd (h₀ : Heap) (L : Addr) (m : Str → Option Value) (s₁ : Shared) (led : List (Addr × Obj)) (r : Value) (y : Value) (s₂ : Shared) : Prop :=
  ∃ h' tk, y = r ∧ s₂ = { s₁ with heap := h', toks := tk } ∧ Fr h₀ L h' m ∧ News h₀ L h' led
theorem FixEnd.intro {s₁ : Shared} {led all : List (Addr × Obj)} {r : Value} {h' : Heap} {tk : Nat} (F : Fr h₀ L h' m) (N : News h₀ L h' all) (hs : ∀ p ∈ led, p ∈ all) : FixEnd h₀ L m s₁ led r r { s₁ with heap := h', toks := tk } := ⟨h', tk, rfl, rfl, F, fun p hp => N p (hs p hp)⟩
/-- a list comprehension over a ledger's list whose values are known -/
theorem src_fix (RES : List Value) {Fin : Shared → List Value → List (Addr × Obj) → Prop} {ax : Addr} {its : Array Value} {k : Nat} {news : List (Addr × Obj)}
    (hh : A.handled = none) (F : Fr h₀ L s.heap m) (N : News h₀ L s.heap news) (hm : (ax, listOf its k) ∈ news) (hsz : its.size ≤ 1000) (hl : RES.length = its.size)
    (step : ∀ (i : Nat) (v : Value) (y' : Value) (ys : List Value) (I : Addr) (oI : Obj) (C : Addr) (oC : Obj) (D : Addr) (m₂ : Str → Option Value) (h : Heap) (tk : Nat) (E' : Value → Shared → Prop), i < its.size → its[i]? = some v → RES[i]? = some y' → LCg.NsObj oC m₂ → m₂ x = some v → Fr h₀ L h m → News h₀ L h ((I, oI) :: (C, oC) :: (D, LCg.lst ys) :: news) →
      wpAny (model prog w) A (eval elt (compEnvC scope cl C env)) (FixEnd h₀ L m { s with heap := h, toks := tk } ((I, oI) :: (C, oC) :: (D, LCg.lst ys) :: news) y') E' { s with heap := h, toks := tk })
    (fin : ∀ g, Fin { s with heap := g } RES news) : LCg.CompSrc prog w A h₀ L m env elt x scope cl Fin (.ref ax) s := by
  refine src_inv hh F N hm (size_okC hsz) (fun i ys nw => nw = news ∧ ys = RES.take i) ⟨rfl, rfl⟩ ?_ ?_
  · rintro g i v ys nw I oI C oC D m₂ h tk E' hin hv ⟨rfl, rfl⟩ hoC hb Ft Nt off ne
    have hlt : i < RES.length := hl ▸ hin
    refine wpAny_mono (step i v RES[i] _ I oI C oC D m₂ h tk E' hin hv (List.getElem?_eq_getElem hlt) hoC hb Ft Nt) (fun y s₂ hy => ?_) fun _ _ e => e
    obtain ⟨h', tk', rfl, rfl, F', N'⟩ := hy
    exact LCg.CompEnd.intro F' N' _ (fun p hp => hp) off (.inr ⟨_, hm, rfl, _, rfl⟩) ⟨rfl, by rw [List.take_add_one, List.getElem?_eq_getElem hlt]; rfl⟩
  · rintro s₁ ys nw ⟨g, rfl⟩ ⟨rfl, rfl⟩
    rw [← hl, List.take_length]
    exact fin g
/-- a test has come out, the ledger as before -/
def TestEnd (h₀ : Heap) (L : Addr) (m : Str → Option Value) (s₁ : Shared) (led : List (Addr × Obj)) (J1 J2 : Prop) (ok : Bool) (s₂ : Shared) : Prop :=
  ∃ h' tk, s₂ = { s₁ with heap := h', toks := tk } ∧ Fr h₀ L h' m ∧ News h₀ L h' led ∧ (if ok = true then J1 else J2)
theorem TestEnd.intro {s₁ : Shared} {led all : List (Addr × Obj)} {J1 J2 : Prop} {ok : Bool} {h' : Heap} {tk : Nat} (F : Fr h₀ L h' m) (N : News h₀ L h' all) (hs : ∀ p ∈ led, p ∈ all) (hJ : if ok = true then J1 else J2) : TestEnd h₀ L m s₁ led J1 J2 ok { s₁ with heap := h', toks := tk } := ⟨h', tk, rfl, F, fun p hp => N p (hs p hp), hJ⟩
theorem restT_name {px : Pos} {S : List (Addr × Obj) → Prop} {P : Nat → Value → Prop} {Fin : List Value → List (Addr × Obj) → Prop} (n : Nat) (J : Nat → List Value → Prop) (news : List (Addr × Obj)) (hS : S news)
    (hkind : scope.kind = .function) (hx : scope.names.lookup x = some .local) (hd : (x == ("__debug__" : Str)) = false)
    (step : ∀ (i : Nat) (v : Value) (ys : List Value) (I : Addr) (oI : Obj) (C : Addr) (oC : Obj) (D : Addr) (m₂ : Str → Option Value) (h : Heap) (tk : Nat) (E' : Value → Shared → Prop), i < n → P i v → J i ys → LCg.NsObj oC m₂ → m₂ x = some v → Fr h₀ L h m → News h₀ L h ((I, oI) :: (C, oC) :: (D, LCg.lst ys) :: news) →
      wpAny (model prog w) A (isTrue ct (compEnvC scope cl C env) (eval ct (compEnvC scope cl C env))) (TestEnd h₀ L m { s with heap := h, toks := tk } ((I, oI) :: (C, oC) :: (D, LCg.lst ys) :: news) (J (i + 1) (ys ++ [v])) (J (i + 1) ys)) E' { s with heap := h, toks := tk })
    (fin : ∀ ys, J n ys → Fin ys news) : ∀ k i ys, i + k = n → J i ys → LCt.CompRestT prog w A h₀ L m env ct (.Name x px) x scope cl s S P Fin k i ys news := by
  intro k
  induction k with
  | zero => intro i ys e hj; cases e; exact fin _ hj
  | succ k ih =>
    intro i ys e hj
    refine LCt.CompRestT.succ ?_
    intro v I oI C oC D m₂ h tk E' hP hC hx' F N off ne
    refine wpAny_mono (step i v ys I oI C oC D m₂ h tk E' (by omega) hP hj hC hx' F N) (fun ok s₂ h₂ => ?_) fun _ _ e => e
    obtain ⟨h', tk', rfl, F', N', hJ⟩ := h₂
    cases ok with
    | true =>
      simp only [if_true] at hJ ⊢
      refine LCgL.ld_own N' (.tail _ (.head _)) hC hx' ?_ (by simp [compEnvC, relabel, hkind]) (lookup_relabel_local hx) hd
      exact ⟨h', tk', news, rfl, F', N', off, hS, ih (i + 1) _ (by omega) hJ⟩
    | false =>
      simp only [Bool.false_eq_true, if_false] at hJ ⊢
      exact ⟨h', tk', news, rfl, F', N', off, hS, ih (i + 1) _ (by omega) hJ⟩
/-- [x for x in l if test], l a list of the ledger's; J i ys between the turns -/
theorem srcT_list {px : Pos} {Fin : Shared → List Value → List (Addr × Obj) → Prop} {ax : Addr} {its : Array Value} {k : Nat} {news : List (Addr × Obj)}
    (hh : A.handled = none) (F : Fr h₀ L s.heap m) (N : News h₀ L s.heap news) (hm : (ax, listOf its k) ∈ news) (hsz : its.size ≤ 1000)
    (hkind : scope.kind = .function) (hx : scope.names.lookup x = some .local) (hd : (x == ("__debug__" : Str)) = false)
    (J : Nat → List Value → Prop) (hJ0 : J 0 [])
    (step : ∀ (g : Heap) (i : Nat) (v : Value) (ys : List Value) (I : Addr) (oI : Obj) (C : Addr) (oC : Obj) (D : Addr) (m₂ : Str → Option Value) (h : Heap) (tk : Nat) (E' : Value → Shared → Prop), i < its.size → its[i]? = some v → J i ys → LCg.NsObj oC m₂ → m₂ x = some v → Fr h₀ L h m → News h₀ L h ((I, oI) :: (C, oC) :: (D, LCg.lst ys) :: news) →
      wpAny (model prog w) A (isTrue ct (compEnvC scope cl C env) (eval ct (compEnvC scope cl C env))) (TestEnd h₀ L m { s with heap := h, toks := tk } ((I, oI) :: (C, oC) :: (D, LCg.lst ys) :: news) (J (i + 1) (ys ++ [v])) (J (i + 1) ys)) E' { s with heap := h, toks := tk })
    (fin : ∀ g ys, J its.size ys → Fin { s with heap := g } ys news) : LCt.CompSrcT prog w A h₀ L m env ct (.Name x px) x scope cl Fin (.ref ax) s :=
  LCt.CompSrcT.ledger hh F N hm (size_okC hsz) fun g => restT_name (s := { s with heap := g }) its.size J news (.inr ⟨_, hm, rfl, _, rfl⟩) hkind hx hd (step g) (fun ys hj => fin g ys hj) its.size 0 [] (Nat.zero_add _) hJ0
/-- [x for x in range(n) if test] -/
theorem srcT_range {px : Pos} {Fin : Shared → List Value → List (Addr × Obj) → Prop} {r : Addr} {a b : Int} {t u v : Tok} {n : Nat} {news : List (Addr × Obj)}
    (hh : A.handled = none) (F : Fr h₀ L s.heap m) (N : News h₀ L s.heap news) (hr : IsRange s.heap r a b 1 t u v) (hsm : Builtin.Range.small a b 1 = true) (hn : Builtin.Range.rangeSize a b 1 = ((n : Nat) : Int)) (hsz : n ≤ 1000)
    (hkind : scope.kind = .function) (hx : scope.names.lookup x = some .local) (hd : (x == ("__debug__" : Str)) = false)
    (J : Nat → List Value → Prop) (hJ0 : J 0 [])
    (step : ∀ (g : Heap) (i : Nat) (tv : Tok) (ys : List Value) (I : Addr) (oI : Obj) (C : Addr) (oC : Obj) (D : Addr) (m₂ : Str → Option Value) (h : Heap) (tk : Nat) (E' : Value → Shared → Prop), i < n → J i ys → LCg.NsObj oC m₂ → m₂ x = some (.int (a + (i : Int)) tv) → Fr h₀ L h m → News h₀ L h ((I, oI) :: (C, oC) :: (D, LCg.lst ys) :: news) →
      wpAny (model prog w) A (isTrue ct (compEnvC scope cl C env) (eval ct (compEnvC scope cl C env))) (TestEnd h₀ L m { s with heap := h, toks := tk } ((I, oI) :: (C, oC) :: (D, LCg.lst ys) :: news) (J (i + 1) (ys ++ [.int (a + (i : Int)) tv])) (J (i + 1) ys)) E' { s with heap := h, toks := tk })
    (fin : ∀ g ys, J n ys → Fin { s with heap := g } ys news) : LCt.CompSrcT prog w A h₀ L m env ct (.Name x px) x scope cl Fin (.ref r) s :=
  LCt.CompSrcT.range hh F N hr hsm hn (size_okC hsz) fun g => restT_name (s := { s with heap := g }) n J news trivial hkind hx hd (fun i v ys I oI C oC D m₂ h tk E' hi hv hj hC hb Ft Nt => by obtain ⟨tv, rfl⟩ := hv; exact step g i tv ys I oI C oC D m₂ h tk E' hi hj hC hb Ft Nt) (fun ys hj => fin g ys hj) n 0 [] (Nat.zero_add _) hJ0
end
end Comp4
theorem set_back_Comp4_z : True := by first | walk1 | trivial
-- X5
section X5
set_option maxRecDepth 100000
set_option maxHeartbeats 8000000
theorem set_back_X5 : True := by
  w_top off
  first | walk1 | trivial
local macro_rules | `(tactic| k_all) => `(tactic| with_reducible assumption)
local macro_rules | `(tactic| k_all) => `(tactic| first | with_reducible assumption | (refine' all_ne_of (by with_reducible assumption) ?_; (try dsimp only); omega))
theorem joinL {prog : Program} {w : World} {A : Around} {E : Value → Shared → Prop} {s : Shared} {Q : Value → Shared → Prop} {h₀ : Heap} {L : Addr} {news : List (Addr × Obj)} {D : Addr} {x : Str} {t : Tok} {vs : List Value} {ys : List Str} {n : Nat}
    (N : News h₀ L s.heap news) (hm : (D, listOf vs.toArray n) ∈ news) (hi : StrsAre vs ys) (hok : (ys.map (·.length)).sum + ys.length * x.length ≤ 16777216)
    (h : ∀ t' k, Q (.str (Txt.join x ys) t') { s with toks := k }) : wpAny (model prog w) A (call (.builtin "str.join") [.str x t, .ref D]) Q E s :=
  join_list (News.isList N hm) hi hok h
theorem dots_len : (Str.ofString "...").length = 3 := by decide +kernel
theorem empty_len : (Str.ofString "").length = 0 := by decide +kernel
theorem item_L {prog : Program} {w : World} {A : Around} {E : Value → Shared → Prop} {s : Shared} {Q : Value → Shared → Prop} {h₀ : Heap} {L : Addr} {news : List (Addr × Obj)} {value slice : Expr} {l : Addr} {its : Array Value} {v : Value} {n : Nat} {k : Int} {u : Tok}
    (N : News h₀ L s.heap news) (hm : (l, listOf its n) ∈ news) (hv : its[k.toNat]? = some v) (h0 : 0 ≤ k) (hz : its.size ≤ 1000) (h : Q v s)
    (hs : subscripted slice false (.ref l) (.int k u) = operate [.ref l, .int k u] (getItem (.ref l) (.int k u))) (hg : ∀ r, letTemporaryGo value (.ref l) r = pure ()) :
    wpAny (model prog w) A (subscriptTail value slice (.ref l) (.int k u)) Q E s := by
  have hl : s.heap.IsList l its := PySem.IsL.isList (n := n) (N _ hm).1
  have hlt : k.toNat < its.size := (Array.getElem?_eq_some_iff.mp hv).1
  exact subscriptTail_builtin hl.typeIs slot_list_getitem.lookup (wpAny_getItem_list hl h0 (k63 hlt hz) hv h) hs hg
/-- the want that is these pieces between dots splits into them again -/
structure EllOk (ws : List Str) : Prop where
  len : (Txt.join (Str.ofString "...") ws).length ≤ 1000
  split : Txt.split (Txt.join (Str.ofString "...") ws) (Str.ofString "...") = ws
  inn : (Builtin.Str.occurrences (Txt.join (Str.ofString "...") ws) (Str.ofString "...") 0 (Txt.join (Str.ofString "...") ws).length 1).isEmpty = (ws.length == 1)
/-- what _law_judged needs of its texts -/
structure JudgeOk (fr bt en : Str) : Prop where
  e1 : EllOk [fr ++ bt ++ en]
  e2 : EllOk [Txt.slice (fr ++ bt ++ en) (some 1) none]
  e3 : EllOk [Txt.slice (fr ++ bt ++ en) none (some (-1))]
  e4 : EllOk [fr, bt, en]
  e5 : EllOk [fr, bt, bt, en]
  e6 : EllOk [Str.ofString "", fr ++ bt ++ en, Txt.item (fr ++ bt ++ en) (-1)]
  e7 : EllOk [bt ++ Txt.item bt 0, bt ++ Txt.item bt 0]
  r1 : (Txt.join (Str.ofString "...") [fr ++ bt ++ en] == fr ++ bt ++ en) = true
  r2 : (Txt.join (Str.ofString "...") [Txt.slice (fr ++ bt ++ en) (some 1) none] == fr ++ bt ++ en) = false
  r3 : (Txt.join (Str.ofString "...") [Txt.slice (fr ++ bt ++ en) none (some (-1))] == fr ++ bt ++ en) = false
  r4 : ellM (fr ++ bt ++ en) fr [bt] en = true
  r5 : ellM (fr ++ bt ++ en) fr [bt, bt] en = false
  r6 : ellM (fr ++ bt ++ en) (Str.ofString "") [fr ++ bt ++ en] (Txt.item (fr ++ bt ++ en) (-1)) = false
  r7 : ellM (bt ++ (bt ++ Txt.item bt 0)) (bt ++ Txt.item bt 0) [] (bt ++ Txt.item bt 0) = false
  r8 : ellM (Txt.mul (bt ++ Txt.item bt 0) 2) (bt ++ Txt.item bt 0) [] (bt ++ Txt.item bt 0) = true
local macro_rules | `(tactic| walk_at "exec Assign cons ListComp") => `(tactic| walk_at "exec Assign")
section
variable {w : World} {p : Program} {loose : List Str} {mean : ExcName → Option Value} {mg mb : Str → Option Value}
    {dp un : Nat} {gd : Option (List Code)} {cn : Str} {cs : Scope} {a : Addr} {ccd : Value} {cl : List (Str × Addr)} {outer : List Env} {A₀ : Around} {base h₀ : Heap} {L : Addr} {m : Str → Option Value} {s : Shared} {Q E : Value → Shared → Prop}
    {g : List (Addr × Obj) → List (Addr × Obj)} {rest led news : List (Addr × Obj)}
theorem judged_spec {fr bt en : Str} {t1 t2 t3 : Tok}
    (B : Below A₀ base outer h₀) (F : Fr h₀ L s.heap m) (X : (Mine.hd.heap_39 w.params).In h₀)
    (N : News h₀ L s.heap news) (T : Top p loose mean mg mb h₀) (hk : cs.kind = .function) (hd : dp + 120 < recursionLimit) (hu : un + 900 < cLine)
    (hz1 : fr.length ≤ 20) (hz2 : bt.length ≤ 20) (hz3 : en.length ≤ 20) (hb : 1 ≤ bt.length) (hJ : JudgeOk fr bt en)
    (hret : ∀ h' tk', Fr h₀ L h' m → News h₀ L h' news → Q (.bool true) { s with heap := h', toks := tk' }) :
    wpAny (model PySem.Challenge.rw_ti0020_01.row.prog w) (ktrTop dp un gd cn cs L a ccd cl outer) (call (.ref 134) [.str fr t1, .str bt t2, .str en t3]) Q E s := by
  (rename Frag.In _ _ => Xfill; revert Xfill; k_fill; intro Xfill)
  refine wpAny_call ?_
  k_dflt ((refine' code_defC ?k1 ?k2 ?k3 ?k4 ?k5 ?kA ?kF ?kK ?k6 ?k7 ?k8 ?k9 ?kB ?kD ?_ ?c2 ?c3 ?c4; (case kA => exact rfl); (case kF => exact rfl); (case kK => assumption); (case k1 => k_asm); (case k2 => k_asm); (case k3 => k_asm); (case k4 => k_asm); (case k5 => k_asm); (case k6 => k_is); (case k7 => k_is); (case k8 => ktr_room); (case k9 => first | exact BindsTo.of_eq rfl | exact binds_K (by k_in) rfl (by k_is) rfl rfl rfl | fail "k_enter: no rule for these arguments"); (case kB => exact rfl); (case kD => decide +kernel); (case c2 => exact rfl); (case c3 => exact rfl); (case c4 => exact rfl); k_whole; wtm_at "t6"))
  rename_i g' L' h' tk' FG' F' B' X' T' l1 o1 o2 o3 o4 d1 d2 d3 d4 N'
  clear N FG'
  replace F' : Fr g' L' h' (fun z => if z = Str.ofString "end" then some (Value.str en t3) else if z = Str.ofString "bits" then some (Value.str bt t2) else if z = Str.ofString "front" then some (Value.str fr t1) else none) := F'
  replace d1 : o1.data = Data.cell none := d1
  replace d2 : o2.data = Data.cell none := d2
  replace d3 : o3.data = Data.cell none := d3
  replace d4 : o4.data = Data.cell none := d4
  have hT : (fr ++ bt ++ en).length ≤ 60 := by simp only [sapp_len]; omega
  (repeat' ((fail_if_success (with_reducible show LCg.CompSrc _ _ _ _ _ _ _ _ _ _ _ _ _ _)); (fail_if_success (with_reducible show LCt.CompSrcT _ _ _ _ _ _ _ _ _ _ _ _ _ _ _)); first | (k_unfold; (try dsimp only)) | (k_end; wrow_close) | with_reducible (first | (k_here; (with_reducible show wpAny _ _ (eval (PySem.Expr.ListComp _ [PySem.Comprehension.mk _ _ [] _] _ _) _) _ _ _); k_dflt (refine LCg.ListComp_U (F₀ := by k_asm) (by with_unfolding_all rfl) (by decide) (by rfl) (by decide) (by rfl) ?_)) | (k_here; (with_reducible show wpAny _ _ (call (Value.ref 105) [Value.str _ _, Value.str _ _]) _ _ _); k_dflt (refine' concat_str ?jB ?jF ?jX ?jN ?jT ?jk ?jd ?ju ?p1 ?p2 ?_; (case jB => k_asm); (case jF => k_asm); (case jX => k_asm); (case jN => k_asm); (case jT => k_asm); (case jk => exact rfl); (case jd => ((try dsimp only [ktrTop]); omega)); (case ju => ((try dsimp only [ktrTop]); omega)); (case p1 => first | with_reducible assumption | omega | (simp only [sapp_len]; omega)); (case p2 => first | with_reducible assumption | omega | (simp only [sapp_len]; omega)); k_whole); intro _ _ _ _ _; (try dsimp only); (try k_fold))) | (k_here; (with_reducible show wpAny _ _ (eval (PySem.Expr.ListComp _ [PySem.Comprehension.mk _ _ [] _] _ _) _) _ _ _); k_dflt (refine LCg.ListComp_U (F₀ := by k_asm) (by with_unfolding_all rfl) (by decide) (by rfl) (by decide) (by rfl) ?_)) | (k_here; (with_reducible show wpAny _ _ (call (Value.ref 105) [Value.str _ _, Value.str _ _]) _ _ _); k_dflt (refine' concat_str ?jB ?jF ?jX ?jN ?jT ?jk ?jd ?ju ?p1 ?p2 ?_; (case jB => k_asm); (case jF => k_asm); (case jX => k_asm); (case jN => k_asm); (case jT => k_asm); (case jk => exact rfl); (case jd => ((try dsimp only [ktrTop]); omega)); (case ju => ((try dsimp only [ktrTop]); omega)); (case p1 => first | with_reducible assumption | omega | (simp only [sapp_len]; omega)); (case p2 => first | with_reducible assumption | omega | (simp only [sapp_len]; omega)); k_whole); intro _ _ _ _ _; (try dsimp only); (try k_fold)) | walk1 | (dsimp only; first | with_reducible (first | (k_here; (with_reducible show wpAny _ _ (eval (PySem.Expr.ListComp _ [PySem.Comprehension.mk _ _ [] _] _ _) _) _ _ _); k_dflt (refine LCg.ListComp_U (F₀ := by k_asm) (by with_unfolding_all rfl) (by decide) (by rfl) (by decide) (by rfl) ?_)) | (k_here; (with_reducible show wpAny _ _ (call (Value.ref 105) [Value.str _ _, Value.str _ _]) _ _ _); k_dflt (refine' concat_str ?jB ?jF ?jX ?jN ?jT ?jk ?jd ?ju ?p1 ?p2 ?_; (case jB => k_asm); (case jF => k_asm); (case jX => k_asm); (case jN => k_asm); (case jT => k_asm); (case jk => exact rfl); (case jd => ((try dsimp only [ktrTop]); omega)); (case ju => ((try dsimp only [ktrTop]); omega)); (case p1 => first | with_reducible assumption | omega | (simp only [sapp_len]; omega)); (case p2 => first | with_reducible assumption | omega | (simp only [sapp_len]; omega)); k_whole); intro _ _ _ _ _; (try dsimp only); (try k_fold))) | (k_here; (with_reducible show wpAny _ _ (eval (PySem.Expr.ListComp _ [PySem.Comprehension.mk _ _ [] _] _ _) _) _ _ _); k_dflt (refine LCg.ListComp_U (F₀ := by k_asm) (by with_unfolding_all rfl) (by decide) (by rfl) (by decide) (by rfl) ?_)) | (k_here; (with_reducible show wpAny _ _ (call (Value.ref 105) [Value.str _ _, Value.str _ _]) _ _ _); k_dflt (refine' concat_str ?jB ?jF ?jX ?jN ?jT ?jk ?jd ?ju ?p1 ?p2 ?_; (case jB => k_asm); (case jF => k_asm); (case jX => k_asm); (case jN => k_asm); (case jT => k_asm); (case jk => exact rfl); (case jd => ((try dsimp only [ktrTop]); omega)); (case ju => ((try dsimp only [ktrTop]); omega)); (case p1 => first | with_reducible assumption | omega | (simp only [sapp_len]; omega)); (case p2 => first | with_reducible assumption | omega | (simp only [sapp_len]; omega)); k_whole); intro _ _ _ _ _; (try dsimp only); (try k_fold)) | walk1) | (leave1; (try dsimp only)) | fail "no step"))
  refine' src_fix [.bool true, .bool false, .bool false, .bool true, .bool false, .bool false] rfl ?z0 ?z1 ?z2 ?z3 ?z4 ?st ?fi
  case z0 => k_asm
  case z1 => k_asm
  case z2 => k_mem
  case z3 => exact Nat.le_of_ble_eq_true rfl
  case z4 => exact rfl
  case st =>
    intro i v y' ys I oI C oC D m₂ h tk E' hin hv hr hoC hbv Ft Nt
    obtain ⟨e1, e2, e3, e4, e5, e6, e7, r1, r2, r3, r4, r5, r6, r7, r8⟩ := hJ
    obtain ⟨e1a, e1b, e1c⟩ := e1
    replace e1c : _ = true := e1c
    replace e1a := Hid.mk e1a
    replace e1b := Hid.mk e1b
    replace e1c := Hid.mk e1c
    replace r1 := Hid.mk r1
    obtain ⟨e2a, e2b, e2c⟩ := e2
    replace e2c : _ = true := e2c
    replace e2a := Hid.mk e2a
    replace e2b := Hid.mk e2b
    replace e2c := Hid.mk e2c
    replace r2 := Hid.mk r2
    obtain ⟨e3a, e3b, e3c⟩ := e3
    replace e3c : _ = true := e3c
    replace e3a := Hid.mk e3a
    replace e3b := Hid.mk e3b
    replace e3c := Hid.mk e3c
    replace r3 := Hid.mk r3
    obtain ⟨e4a, e4b, e4c⟩ := e4
    replace e4c : _ = false := e4c
    replace e4a := Hid.mk e4a
    replace e4b := Hid.mk e4b
    replace e4c := Hid.mk e4c
    replace r4 := Hid.mk r4
    obtain ⟨e5a, e5b, e5c⟩ := e5
    replace e5c : _ = false := e5c
    replace e5a := Hid.mk e5a
    replace e5b := Hid.mk e5b
    replace e5c := Hid.mk e5c
    replace r5 := Hid.mk r5
    obtain ⟨e6a, e6b, e6c⟩ := e6
    replace e6c : _ = false := e6c
    replace e6a := Hid.mk e6a
    replace e6b := Hid.mk e6b
    replace e6c := Hid.mk e6c
    replace r6 := Hid.mk r6
    clear e7 r7 r8
    have w1 := Hid.mk (show fr.length ≤ 1000 by omega)
    have w2 := Hid.mk (show bt.length ≤ 1000 by omega)
    have w3 := Hid.mk (show en.length ≤ 1000 by omega)
    have w4 := Hid.mk (show (fr ++ bt ++ en).length ≤ 1000 by omega)
    have w5 := Hid.mk (show (Str.ofString "").length ≤ 1000 by rw [empty_len]; decide)
    have w6 := Hid.mk (show (Txt.item (fr ++ bt ++ en) (-1)).length ≤ 1000 by show 1 ≤ 1000; decide)
    have w7 : (Txt.item bt 0).length = 1 := rfl
    have w8 := Hid.mk (show (bt ++ Txt.item bt 0).length ≤ 1000 by rw [sapp_len]; omega)
    have w9 := Hid.mk (show (bt ++ (bt ++ Txt.item bt 0)).length ≤ 1000 by rw [sapp_len, sapp_len]; omega)
    have w10 := Hid.mk (show (Txt.mul (bt ++ Txt.item bt 0) 2).length ≤ 1000 by
      have h1 := PyProof.Rows.len_mul (bt ++ Txt.item bt 0) 2
      rw [if_neg (by decide), sapp_len] at h1
      omega)
    have hin' : i < 6 := hin
    clear hin
    rcases i with _ | _ | _ | _ | _ | _ | i
    all_goals (first | (exfalso; omega) | skip)
    all_goals (simp at hv; simp at hr; subst hv; subst hr)
    all_goals (repeat' (first | (k_unfold; (try dsimp only)) | (k_end; wrow_close) | with_reducible (first | ((with_reducible show wpAny _ _ (call _ _) _ _ _); first | (k_here; (with_reducible show wpAny _ _ (call (Value.builtin "str.join") [Value.str _ _, Value.ref _]) _ _ _); k_dflt (refine' joinL ?z1 ?z2 ?z3 ?z4 ?_; (case z1 => k_asm); (case z2 => k_mem); (case z3 => first | exact .cons _ _ .nil | exact .cons _ _ (.cons _ _ .nil) | exact .cons _ _ (.cons _ _ (.cons _ _ .nil)) | exact .cons _ _ (.cons _ _ (.cons _ _ (.cons _ _ .nil)))); (case z4 => (simp only [List.map_cons, List.map_nil, List.sum_cons, List.sum_nil, List.length_cons, List.length_nil, sapp_len, dots_len, empty_len]; omega))); intro _ _) | (k_here; (with_reducible show wpAny _ _ (call (Value.ref 63) [Value.str _ _, Value.str _ _]) _ _ _); k_dflt (refine' ellipsis_1 ?jB ?jF ?jX ?jN ?jT ?jk ?jd ?ju ?p1 ?p2 ?p3 ?p4 ?_; (case jB => k_asm); (case jF => k_asm); (case jX => k_asm); (case jN => k_asm); (case jT => k_asm); (case jk => exact rfl); (case jd => ((try dsimp only [ktrTop]); omega)); (case ju => ((try dsimp only [ktrTop]); omega)); (case p1 => first | exact Hid.out (by with_reducible assumption) | with_reducible assumption | omega | (simp only [sapp_len]; omega)); (case p2 => first | exact Hid.out (by with_reducible assumption) | with_reducible assumption | omega | (simp only [sapp_len]; omega)); (case p3 => first | exact Hid.out (by with_reducible assumption) | with_reducible assumption); (case p4 => first | exact Hid.out (by with_reducible assumption) | with_reducible assumption); k_whole); intro _ _ _ _; (try dsimp only); (try k_fold)) | (k_here; (with_reducible show wpAny _ _ (call (Value.ref 63) [Value.str _ _, Value.str _ _]) _ _ _); k_dflt (refine' ellipsis_3 ?jB ?jF ?jX ?jN ?jT ?jk ?jd ?ju ?p1 ?p2 ?p3 ?p4 ?p5 ?p6 ?p7 ?p8 ?_; (case jB => k_asm); (case jF => k_asm); (case jX => k_asm); (case jN => k_asm); (case jT => k_asm); (case jk => exact rfl); (case jd => ((try dsimp only [ktrTop]); omega)); (case ju => ((try dsimp only [ktrTop]); omega)); (case p1 => first | exact Hid.out (by with_reducible assumption) | with_reducible assumption | omega | (simp only [sapp_len]; omega)); (case p2 => first | exact Hid.out (by with_reducible assumption) | with_reducible assumption | omega | (simp only [sapp_len]; omega)); (case p3 => first | exact Hid.out (by with_reducible assumption) | with_reducible assumption); (case p4 => first | exact Hid.out (by with_reducible assumption) | with_reducible assumption); (case p5 => first | exact Hid.out (by with_reducible assumption) | with_reducible assumption); (case p6 => first | exact Hid.out (by with_reducible assumption) | with_reducible assumption); (case p7 => first | exact Hid.out (by with_reducible assumption) | with_reducible assumption); (case p8 => first | exact Hid.out (by with_reducible assumption) | with_reducible assumption); k_whole); intro _ _ _ _; (try dsimp only); (try k_fold)) | (k_here; (with_reducible show wpAny _ _ (call (Value.ref 63) [Value.str _ _, Value.str _ _]) _ _ _); k_dflt (refine' ellipsis_4 ?jB ?jF ?jX ?jN ?jT ?jk ?jd ?ju ?p1 ?p2 ?p3 ?p4 ?p5 ?p6 ?p7 ?p8 ?p9 ?_; (case jB => k_asm); (case jF => k_asm); (case jX => k_asm); (case jN => k_asm); (case jT => k_asm); (case jk => exact rfl); (case jd => ((try dsimp only [ktrTop]); omega)); (case ju => ((try dsimp only [ktrTop]); omega)); (case p1 => first | exact Hid.out (by with_reducible assumption) | with_reducible assumption | omega | (simp only [sapp_len]; omega)); (case p2 => first | exact Hid.out (by with_reducible assumption) | with_reducible assumption | omega | (simp only [sapp_len]; omega)); (case p3 => first | exact Hid.out (by with_reducible assumption) | with_reducible assumption); (case p4 => first | exact Hid.out (by with_reducible assumption) | with_reducible assumption); (case p5 => first | exact Hid.out (by with_reducible assumption) | with_reducible assumption); (case p6 => first | exact Hid.out (by with_reducible assumption) | with_reducible assumption); (case p7 => first | exact Hid.out (by with_reducible assumption) | with_reducible assumption); (case p8 => first | exact Hid.out (by with_reducible assumption) | with_reducible assumption); (case p9 => first | exact Hid.out (by with_reducible assumption) | with_reducible assumption); k_whole); intro _ _ _ _; (try dsimp only); (try k_fold)))) | ((with_reducible show wpAny _ _ (call _ _) _ _ _); first | (k_here; (with_reducible show wpAny _ _ (call (Value.builtin "str.join") [Value.str _ _, Value.ref _]) _ _ _); k_dflt (refine' joinL ?z1 ?z2 ?z3 ?z4 ?_; (case z1 => k_asm); (case z2 => k_mem); (case z3 => first | exact .cons _ _ .nil | exact .cons _ _ (.cons _ _ .nil) | exact .cons _ _ (.cons _ _ (.cons _ _ .nil)) | exact .cons _ _ (.cons _ _ (.cons _ _ (.cons _ _ .nil)))); (case z4 => (simp only [List.map_cons, List.map_nil, List.sum_cons, List.sum_nil, List.length_cons, List.length_nil, sapp_len, dots_len, empty_len]; omega))); intro _ _) | (k_here; (with_reducible show wpAny _ _ (call (Value.ref 63) [Value.str _ _, Value.str _ _]) _ _ _); k_dflt (refine' ellipsis_1 ?jB ?jF ?jX ?jN ?jT ?jk ?jd ?ju ?p1 ?p2 ?p3 ?p4 ?_; (case jB => k_asm); (case jF => k_asm); (case jX => k_asm); (case jN => k_asm); (case jT => k_asm); (case jk => exact rfl); (case jd => ((try dsimp only [ktrTop]); omega)); (case ju => ((try dsimp only [ktrTop]); omega)); (case p1 => first | exact Hid.out (by with_reducible assumption) | with_reducible assumption | omega | (simp only [sapp_len]; omega)); (case p2 => first | exact Hid.out (by with_reducible assumption) | with_reducible assumption | omega | (simp only [sapp_len]; omega)); (case p3 => first | exact Hid.out (by with_reducible assumption) | with_reducible assumption); (case p4 => first | exact Hid.out (by with_reducible assumption) | with_reducible assumption); k_whole); intro _ _ _ _; (try dsimp only); (try k_fold)) | (k_here; (with_reducible show wpAny _ _ (call (Value.ref 63) [Value.str _ _, Value.str _ _]) _ _ _); k_dflt (refine' ellipsis_3 ?jB ?jF ?jX ?jN ?jT ?jk ?jd ?ju ?p1 ?p2 ?p3 ?p4 ?p5 ?p6 ?p7 ?p8 ?_; (case jB => k_asm); (case jF => k_asm); (case jX => k_asm); (case jN => k_asm); (case jT => k_asm); (case jk => exact rfl); (case jd => ((try dsimp only [ktrTop]); omega)); (case ju => ((try dsimp only [ktrTop]); omega)); (case p1 => first | exact Hid.out (by with_reducible assumption) | with_reducible assumption | omega | (simp only [sapp_len]; omega)); (case p2 => first | exact Hid.out (by with_reducible assumption) | with_reducible assumption | omega | (simp only [sapp_len]; omega)); (case p3 => first | exact Hid.out (by with_reducible assumption) | with_reducible assumption); (case p4 => first | exact Hid.out (by with_reducible assumption) | with_reducible assumption); (case p5 => first | exact Hid.out (by with_reducible assumption) | with_reducible assumption); (case p6 => first | exact Hid.out (by with_reducible assumption) | with_reducible assumption); (case p7 => first | exact Hid.out (by with_reducible assumption) | with_reducible assumption); (case p8 => first | exact Hid.out (by with_reducible assumption) | with_reducible assumption); k_whole); intro _ _ _ _; (try dsimp only); (try k_fold)) | (k_here; (with_reducible show wpAny _ _ (call (Value.ref 63) [Value.str _ _, Value.str _ _]) _ _ _); k_dflt (refine' ellipsis_4 ?jB ?jF ?jX ?jN ?jT ?jk ?jd ?ju ?p1 ?p2 ?p3 ?p4 ?p5 ?p6 ?p7 ?p8 ?p9 ?_; (case jB => k_asm); (case jF => k_asm); (case jX => k_asm); (case jN => k_asm); (case jT => k_asm); (case jk => exact rfl); (case jd => ((try dsimp only [ktrTop]); omega)); (case ju => ((try dsimp only [ktrTop]); omega)); (case p1 => first | exact Hid.out (by with_reducible assumption) | with_reducible assumption | omega | (simp only [sapp_len]; omega)); (case p2 => first | exact Hid.out (by with_reducible assumption) | with_reducible assumption | omega | (simp only [sapp_len]; omega)); (case p3 => first | exact Hid.out (by with_reducible assumption) | with_reducible assumption); (case p4 => first | exact Hid.out (by with_reducible assumption) | with_reducible assumption); (case p5 => first | exact Hid.out (by with_reducible assumption) | with_reducible assumption); (case p6 => first | exact Hid.out (by with_reducible assumption) | with_reducible assumption); (case p7 => first | exact Hid.out (by with_reducible assumption) | with_reducible assumption); (case p8 => first | exact Hid.out (by with_reducible assumption) | with_reducible assumption); (case p9 => first | exact Hid.out (by with_reducible assumption) | with_reducible assumption); k_whole); intro _ _ _ _; (try dsimp only); (try k_fold))) | walk1 | (dsimp only; first | with_reducible (first | ((with_reducible show wpAny _ _ (call _ _) _ _ _); first | (k_here; (with_reducible show wpAny _ _ (call (Value.builtin "str.join") [Value.str _ _, Value.ref _]) _ _ _); k_dflt (refine' joinL ?z1 ?z2 ?z3 ?z4 ?_; (case z1 => k_asm); (case z2 => k_mem); (case z3 => first | exact .cons _ _ .nil | exact .cons _ _ (.cons _ _ .nil) | exact .cons _ _ (.cons _ _ (.cons _ _ .nil)) | exact .cons _ _ (.cons _ _ (.cons _ _ (.cons _ _ .nil)))); (case z4 => (simp only [List.map_cons, List.map_nil, List.sum_cons, List.sum_nil, List.length_cons, List.length_nil, sapp_len, dots_len, empty_len]; omega))); intro _ _) | (k_here; (with_reducible show wpAny _ _ (call (Value.ref 63) [Value.str _ _, Value.str _ _]) _ _ _); k_dflt (refine' ellipsis_1 ?jB ?jF ?jX ?jN ?jT ?jk ?jd ?ju ?p1 ?p2 ?p3 ?p4 ?_; (case jB => k_asm); (case jF => k_asm); (case jX => k_asm); (case jN => k_asm); (case jT => k_asm); (case jk => exact rfl); (case jd => ((try dsimp only [ktrTop]); omega)); (case ju => ((try dsimp only [ktrTop]); omega)); (case p1 => first | exact Hid.out (by with_reducible assumption) | with_reducible assumption | omega | (simp only [sapp_len]; omega)); (case p2 => first | exact Hid.out (by with_reducible assumption) | with_reducible assumption | omega | (simp only [sapp_len]; omega)); (case p3 => first | exact Hid.out (by with_reducible assumption) | with_reducible assumption); (case p4 => first | exact Hid.out (by with_reducible assumption) | with_reducible assumption); k_whole); intro _ _ _ _; (try dsimp only); (try k_fold)) | (k_here; (with_reducible show wpAny _ _ (call (Value.ref 63) [Value.str _ _, Value.str _ _]) _ _ _); k_dflt (refine' ellipsis_3 ?jB ?jF ?jX ?jN ?jT ?jk ?jd ?ju ?p1 ?p2 ?p3 ?p4 ?p5 ?p6 ?p7 ?p8 ?_; (case jB => k_asm); (case jF => k_asm); (case jX => k_asm); (case jN => k_asm); (case jT => k_asm); (case jk => exact rfl); (case jd => ((try dsimp only [ktrTop]); omega)); (case ju => ((try dsimp only [ktrTop]); omega)); (case p1 => first | exact Hid.out (by with_reducible assumption) | with_reducible assumption | omega | (simp only [sapp_len]; omega)); (case p2 => first | exact Hid.out (by with_reducible assumption) | with_reducible assumption | omega | (simp only [sapp_len]; omega)); (case p3 => first | exact Hid.out (by with_reducible assumption) | with_reducible assumption); (case p4 => first | exact Hid.out (by with_reducible assumption) | with_reducible assumption); (case p5 => first | exact Hid.out (by with_reducible assumption) | with_reducible assumption); (case p6 => first | exact Hid.out (by with_reducible assumption) | with_reducible assumption); (case p7 => first | exact Hid.out (by with_reducible assumption) | with_reducible assumption); (case p8 => first | exact Hid.out (by with_reducible assumption) | with_reducible assumption); k_whole); intro _ _ _ _; (try dsimp only); (try k_fold)) | (k_here; (with_reducible show wpAny _ _ (call (Value.ref 63) [Value.str _ _, Value.str _ _]) _ _ _); k_dflt (refine' ellipsis_4 ?jB ?jF ?jX ?jN ?jT ?jk ?jd ?ju ?p1 ?p2 ?p3 ?p4 ?p5 ?p6 ?p7 ?p8 ?p9 ?_; (case jB => k_asm); (case jF => k_asm); (case jX => k_asm); (case jN => k_asm); (case jT => k_asm); (case jk => exact rfl); (case jd => ((try dsimp only [ktrTop]); omega)); (case ju => ((try dsimp only [ktrTop]); omega)); (case p1 => first | exact Hid.out (by with_reducible assumption) | with_reducible assumption | omega | (simp only [sapp_len]; omega)); (case p2 => first | exact Hid.out (by with_reducible assumption) | with_reducible assumption | omega | (simp only [sapp_len]; omega)); (case p3 => first | exact Hid.out (by with_reducible assumption) | with_reducible assumption); (case p4 => first | exact Hid.out (by with_reducible assumption) | with_reducible assumption); (case p5 => first | exact Hid.out (by with_reducible assumption) | with_reducible assumption); (case p6 => first | exact Hid.out (by with_reducible assumption) | with_reducible assumption); (case p7 => first | exact Hid.out (by with_reducible assumption) | with_reducible assumption); (case p8 => first | exact Hid.out (by with_reducible assumption) | with_reducible assumption); (case p9 => first | exact Hid.out (by with_reducible assumption) | with_reducible assumption); k_whole); intro _ _ _ _; (try dsimp only); (try k_fold)))) | ((with_reducible show wpAny _ _ (call _ _) _ _ _); first | (k_here; (with_reducible show wpAny _ _ (call (Value.builtin "str.join") [Value.str _ _, Value.ref _]) _ _ _); k_dflt (refine' joinL ?z1 ?z2 ?z3 ?z4 ?_; (case z1 => k_asm); (case z2 => k_mem); (case z3 => first | exact .cons _ _ .nil | exact .cons _ _ (.cons _ _ .nil) | exact .cons _ _ (.cons _ _ (.cons _ _ .nil)) | exact .cons _ _ (.cons _ _ (.cons _ _ (.cons _ _ .nil)))); (case z4 => (simp only [List.map_cons, List.map_nil, List.sum_cons, List.sum_nil, List.length_cons, List.length_nil, sapp_len, dots_len, empty_len]; omega))); intro _ _) | (k_here; (with_reducible show wpAny _ _ (call (Value.ref 63) [Value.str _ _, Value.str _ _]) _ _ _); k_dflt (refine' ellipsis_1 ?jB ?jF ?jX ?jN ?jT ?jk ?jd ?ju ?p1 ?p2 ?p3 ?p4 ?_; (case jB => k_asm); (case jF => k_asm); (case jX => k_asm); (case jN => k_asm); (case jT => k_asm); (case jk => exact rfl); (case jd => ((try dsimp only [ktrTop]); omega)); (case ju => ((try dsimp only [ktrTop]); omega)); (case p1 => first | exact Hid.out (by with_reducible assumption) | with_reducible assumption | omega | (simp only [sapp_len]; omega)); (case p2 => first | exact Hid.out (by with_reducible assumption) | with_reducible assumption | omega | (simp only [sapp_len]; omega)); (case p3 => first | exact Hid.out (by with_reducible assumption) | with_reducible assumption); (case p4 => first | exact Hid.out (by with_reducible assumption) | with_reducible assumption); k_whole); intro _ _ _ _; (try dsimp only); (try k_fold)) | (k_here; (with_reducible show wpAny _ _ (call (Value.ref 63) [Value.str _ _, Value.str _ _]) _ _ _); k_dflt (refine' ellipsis_3 ?jB ?jF ?jX ?jN ?jT ?jk ?jd ?ju ?p1 ?p2 ?p3 ?p4 ?p5 ?p6 ?p7 ?p8 ?_; (case jB => k_asm); (case jF => k_asm); (case jX => k_asm); (case jN => k_asm); (case jT => k_asm); (case jk => exact rfl); (case jd => ((try dsimp only [ktrTop]); omega)); (case ju => ((try dsimp only [ktrTop]); omega)); (case p1 => first | exact Hid.out (by with_reducible assumption) | with_reducible assumption | omega | (simp only [sapp_len]; omega)); (case p2 => first | exact Hid.out (by with_reducible assumption) | with_reducible assumption | omega | (simp only [sapp_len]; omega)); (case p3 => first | exact Hid.out (by with_reducible assumption) | with_reducible assumption); (case p4 => first | exact Hid.out (by with_reducible assumption) | with_reducible assumption); (case p5 => first | exact Hid.out (by with_reducible assumption) | with_reducible assumption); (case p6 => first | exact Hid.out (by with_reducible assumption) | with_reducible assumption); (case p7 => first | exact Hid.out (by with_reducible assumption) | with_reducible assumption); (case p8 => first | exact Hid.out (by with_reducible assumption) | with_reducible assumption); k_whole); intro _ _ _ _; (try dsimp only); (try k_fold)) | (k_here; (with_reducible show wpAny _ _ (call (Value.ref 63) [Value.str _ _, Value.str _ _]) _ _ _); k_dflt (refine' ellipsis_4 ?jB ?jF ?jX ?jN ?jT ?jk ?jd ?ju ?p1 ?p2 ?p3 ?p4 ?p5 ?p6 ?p7 ?p8 ?p9 ?_; (case jB => k_asm); (case jF => k_asm); (case jX => k_asm); (case jN => k_asm); (case jT => k_asm); (case jk => exact rfl); (case jd => ((try dsimp only [ktrTop]); omega)); (case ju => ((try dsimp only [ktrTop]); omega)); (case p1 => first | exact Hid.out (by with_reducible assumption) | with_reducible assumption | omega | (simp only [sapp_len]; omega)); (case p2 => first | exact Hid.out (by with_reducible assumption) | with_reducible assumption | omega | (simp only [sapp_len]; omega)); (case p3 => first | exact Hid.out (by with_reducible assumption) | with_reducible assumption); (case p4 => first | exact Hid.out (by with_reducible assumption) | with_reducible assumption); (case p5 => first | exact Hid.out (by with_reducible assumption) | with_reducible assumption); (case p6 => first | exact Hid.out (by with_reducible assumption) | with_reducible assumption); (case p7 => first | exact Hid.out (by with_reducible assumption) | with_reducible assumption); (case p8 => first | exact Hid.out (by with_reducible assumption) | with_reducible assumption); (case p9 => first | exact Hid.out (by with_reducible assumption) | with_reducible assumption); k_whole); intro _ _ _ _; (try dsimp only); (try k_fold))) | walk1) | (leave1; (try dsimp only)) | fail "no step"))
    all_goals (rename Fr _ _ _ _ => Fe; rename News _ _ _ _ => Ne; exact FixEnd.intro Fe Ne (fun p hp => hp))
  case fi =>
    intro g2
    (walk1; try dsimp only)
    (repeat' ((fail_if_success (with_reducible show LCg.CompSrc _ _ _ _ _ _ _ _ _ _ _ _ _ _)); (fail_if_success (with_reducible show LCt.CompSrcT _ _ _ _ _ _ _ _ _ _ _ _ _ _ _)); first | (k_unfold; (try dsimp only)) | (k_end; wrow_close) | with_reducible (first | (k_here; (with_reducible show wpAny _ _ (eval (PySem.Expr.ListComp _ [PySem.Comprehension.mk _ _ [] _] _ _) _) _ _ _); k_dflt (refine LCg.ListComp_U (F₀ := by k_asm) (by with_unfolding_all rfl) (by decide) (by rfl) (by decide) (by rfl) ?_)) | ((with_reducible show wpAny _ _ (call _ _) _ _ _); first | (k_here; (with_reducible show wpAny _ _ (call (Value.ref 77) [Value.str _ _, Value.int _ _]) _ _ _); k_dflt (refine' mul_str ?jB ?jF ?jX ?jN ?jT ?jk ?jd ?ju ?p1 ?p2 ?p3 ?_; (case jB => k_asm); (case jF => k_asm); (case jX => k_asm); (case jN => k_asm); (case jT => k_asm); (case jk => exact rfl); (case jd => ((try dsimp only [ktrTop]); omega)); (case ju => ((try dsimp only [ktrTop]); omega)); (case p1 => first | with_reducible assumption | omega | (simp only [sapp_len]; omega)); (case p2 => first | with_reducible assumption | omega); (case p3 => first | with_reducible assumption | omega); k_whole); intro _ _ _ _ _; (try dsimp only); (try k_fold)) | (k_here; (with_reducible show wpAny _ _ (call (Value.ref 105) [Value.str _ _, Value.str _ _]) _ _ _); k_dflt (refine' concat_str ?jB ?jF ?jX ?jN ?jT ?jk ?jd ?ju ?p1 ?p2 ?_; (case jB => k_asm); (case jF => k_asm); (case jX => k_asm); (case jN => k_asm); (case jT => k_asm); (case jk => exact rfl); (case jd => ((try dsimp only [ktrTop]); omega)); (case ju => ((try dsimp only [ktrTop]); omega)); (case p1 => first | with_reducible assumption | omega | (simp only [sapp_len]; omega)); (case p2 => first | with_reducible assumption | omega | (simp only [sapp_len]; omega)); k_whole); intro _ _ _ _ _; (try dsimp only); (try k_fold)))) | (k_here; (with_reducible show wpAny _ _ (eval (PySem.Expr.ListComp _ [PySem.Comprehension.mk _ _ [] _] _ _) _) _ _ _); k_dflt (refine LCg.ListComp_U (F₀ := by k_asm) (by with_unfolding_all rfl) (by decide) (by rfl) (by decide) (by rfl) ?_)) | ((with_reducible show wpAny _ _ (call _ _) _ _ _); first | (k_here; (with_reducible show wpAny _ _ (call (Value.ref 77) [Value.str _ _, Value.int _ _]) _ _ _); k_dflt (refine' mul_str ?jB ?jF ?jX ?jN ?jT ?jk ?jd ?ju ?p1 ?p2 ?p3 ?_; (case jB => k_asm); (case jF => k_asm); (case jX => k_asm); (case jN => k_asm); (case jT => k_asm); (case jk => exact rfl); (case jd => ((try dsimp only [ktrTop]); omega)); (case ju => ((try dsimp only [ktrTop]); omega)); (case p1 => first | with_reducible assumption | omega | (simp only [sapp_len]; omega)); (case p2 => first | with_reducible assumption | omega); (case p3 => first | with_reducible assumption | omega); k_whole); intro _ _ _ _ _; (try dsimp only); (try k_fold)) | (k_here; (with_reducible show wpAny _ _ (call (Value.ref 105) [Value.str _ _, Value.str _ _]) _ _ _); k_dflt (refine' concat_str ?jB ?jF ?jX ?jN ?jT ?jk ?jd ?ju ?p1 ?p2 ?_; (case jB => k_asm); (case jF => k_asm); (case jX => k_asm); (case jN => k_asm); (case jT => k_asm); (case jk => exact rfl); (case jd => ((try dsimp only [ktrTop]); omega)); (case ju => ((try dsimp only [ktrTop]); omega)); (case p1 => first | with_reducible assumption | omega | (simp only [sapp_len]; omega)); (case p2 => first | with_reducible assumption | omega | (simp only [sapp_len]; omega)); k_whole); intro _ _ _ _ _; (try dsimp only); (try k_fold))) | walk1 | (dsimp only; first | with_reducible (first | (k_here; (with_reducible show wpAny _ _ (eval (PySem.Expr.ListComp _ [PySem.Comprehension.mk _ _ [] _] _ _) _) _ _ _); k_dflt (refine LCg.ListComp_U (F₀ := by k_asm) (by with_unfolding_all rfl) (by decide) (by rfl) (by decide) (by rfl) ?_)) | ((with_reducible show wpAny _ _ (call _ _) _ _ _); first | (k_here; (with_reducible show wpAny _ _ (call (Value.ref 77) [Value.str _ _, Value.int _ _]) _ _ _); k_dflt (refine' mul_str ?jB ?jF ?jX ?jN ?jT ?jk ?jd ?ju ?p1 ?p2 ?p3 ?_; (case jB => k_asm); (case jF => k_asm); (case jX => k_asm); (case jN => k_asm); (case jT => k_asm); (case jk => exact rfl); (case jd => ((try dsimp only [ktrTop]); omega)); (case ju => ((try dsimp only [ktrTop]); omega)); (case p1 => first | with_reducible assumption | omega | (simp only [sapp_len]; omega)); (case p2 => first | with_reducible assumption | omega); (case p3 => first | with_reducible assumption | omega); k_whole); intro _ _ _ _ _; (try dsimp only); (try k_fold)) | (k_here; (with_reducible show wpAny _ _ (call (Value.ref 105) [Value.str _ _, Value.str _ _]) _ _ _); k_dflt (refine' concat_str ?jB ?jF ?jX ?jN ?jT ?jk ?jd ?ju ?p1 ?p2 ?_; (case jB => k_asm); (case jF => k_asm); (case jX => k_asm); (case jN => k_asm); (case jT => k_asm); (case jk => exact rfl); (case jd => ((try dsimp only [ktrTop]); omega)); (case ju => ((try dsimp only [ktrTop]); omega)); (case p1 => first | with_reducible assumption | omega | (simp only [sapp_len]; omega)); (case p2 => first | with_reducible assumption | omega | (simp only [sapp_len]; omega)); k_whole); intro _ _ _ _ _; (try dsimp only); (try k_fold)))) | (k_here; (with_reducible show wpAny _ _ (eval (PySem.Expr.ListComp _ [PySem.Comprehension.mk _ _ [] _] _ _) _) _ _ _); k_dflt (refine LCg.ListComp_U (F₀ := by k_asm) (by with_unfolding_all rfl) (by decide) (by rfl) (by decide) (by rfl) ?_)) | ((with_reducible show wpAny _ _ (call _ _) _ _ _); first | (k_here; (with_reducible show wpAny _ _ (call (Value.ref 77) [Value.str _ _, Value.int _ _]) _ _ _); k_dflt (refine' mul_str ?jB ?jF ?jX ?jN ?jT ?jk ?jd ?ju ?p1 ?p2 ?p3 ?_; (case jB => k_asm); (case jF => k_asm); (case jX => k_asm); (case jN => k_asm); (case jT => k_asm); (case jk => exact rfl); (case jd => ((try dsimp only [ktrTop]); omega)); (case ju => ((try dsimp only [ktrTop]); omega)); (case p1 => first | with_reducible assumption | omega | (simp only [sapp_len]; omega)); (case p2 => first | with_reducible assumption | omega); (case p3 => first | with_reducible assumption | omega); k_whole); intro _ _ _ _ _; (try dsimp only); (try k_fold)) | (k_here; (with_reducible show wpAny _ _ (call (Value.ref 105) [Value.str _ _, Value.str _ _]) _ _ _); k_dflt (refine' concat_str ?jB ?jF ?jX ?jN ?jT ?jk ?jd ?ju ?p1 ?p2 ?_; (case jB => k_asm); (case jF => k_asm); (case jX => k_asm); (case jN => k_asm); (case jT => k_asm); (case jk => exact rfl); (case jd => ((try dsimp only [ktrTop]); omega)); (case ju => ((try dsimp only [ktrTop]); omega)); (case p1 => first | with_reducible assumption | omega | (simp only [sapp_len]; omega)); (case p2 => first | with_reducible assumption | omega | (simp only [sapp_len]; omega)); k_whole); intro _ _ _ _ _; (try dsimp only); (try k_fold))) | walk1) | (leave1; (try dsimp only)) | fail "no step"))
    refine' src_fix [.bool false, .bool true] rfl ?z0 ?z1 ?z2 ?z3 ?z4 ?st ?fi
    case z0 => k_asm
    case z1 => k_asm
    case z2 => k_mem
    case z3 => exact Nat.le_of_ble_eq_true rfl
    case z4 => exact rfl
    case st =>
      intro i v y' ys I oI C oC D m₂ h tk E' hin hv hr hoC hbv Ft Nt
      obtain ⟨e1, e2, e3, e4, e5, e6, e7, r1, r2, r3, r4, r5, r6, r7, r8⟩ := hJ
      clear e1 e2 e3 e4 e5 e6 r1 r2 r3 r4 r5 r6
      obtain ⟨e7a, e7b, e7c⟩ := e7
      replace e7c : _ = false := e7c
      replace e7a := Hid.mk e7a
      replace e7b := Hid.mk e7b
      replace e7c := Hid.mk e7c
      replace r7 := Hid.mk r7
      replace r8 := Hid.mk r8
      have w1 := Hid.mk (show fr.length ≤ 1000 by omega)
      have w2 := Hid.mk (show bt.length ≤ 1000 by omega)
      have w3 := Hid.mk (show en.length ≤ 1000 by omega)
      have w4 := Hid.mk (show (fr ++ bt ++ en).length ≤ 1000 by omega)
      have w5 := Hid.mk (show (Str.ofString "").length ≤ 1000 by rw [empty_len]; decide)
      have w6 := Hid.mk (show (Txt.item (fr ++ bt ++ en) (-1)).length ≤ 1000 by show 1 ≤ 1000; decide)
      have w7 : (Txt.item bt 0).length = 1 := rfl
      have w8 := Hid.mk (show (bt ++ Txt.item bt 0).length ≤ 1000 by rw [sapp_len]; omega)
      have w9 := Hid.mk (show (bt ++ (bt ++ Txt.item bt 0)).length ≤ 1000 by rw [sapp_len, sapp_len]; omega)
      have w10 := Hid.mk (show (Txt.mul (bt ++ Txt.item bt 0) 2).length ≤ 1000 by
        have h1 := PyProof.Rows.len_mul (bt ++ Txt.item bt 0) 2
        rw [if_neg (by decide), sapp_len] at h1
        omega)
      have hin' : i < 2 := hin
      clear hin
      rcases i with _ | _ | i
      all_goals (first | (exfalso; omega) | skip)
      all_goals (simp at hv; simp at hr; subst hv; subst hr)
      all_goals (repeat' (first | (k_unfold; (try dsimp only)) | (k_end; wrow_close) | with_reducible (first | ((with_reducible show wpAny _ _ (call _ _) _ _ _); first | (k_here; (with_reducible show wpAny _ _ (call (Value.builtin "str.join") [Value.str _ _, Value.ref _]) _ _ _); k_dflt (refine' joinL ?z1 ?z2 ?z3 ?z4 ?_; (case z1 => k_asm); (case z2 => k_mem); (case z3 => first | exact .cons _ _ .nil | exact .cons _ _ (.cons _ _ .nil) | exact .cons _ _ (.cons _ _ (.cons _ _ .nil)) | exact .cons _ _ (.cons _ _ (.cons _ _ (.cons _ _ .nil)))); (case z4 => (simp only [List.map_cons, List.map_nil, List.sum_cons, List.sum_nil, List.length_cons, List.length_nil, sapp_len, dots_len, empty_len]; omega))); intro _ _) | (k_here; (with_reducible show wpAny _ _ (call (Value.ref 63) [Value.str _ _, Value.str _ _]) _ _ _); k_dflt (refine' ellipsis_2 ?jB ?jF ?jX ?jN ?jT ?jk ?jd ?ju ?p1 ?p2 ?p3 ?p4 ?p5 ?p6 ?p7 ?_; (case jB => k_asm); (case jF => k_asm); (case jX => k_asm); (case jN => k_asm); (case jT => k_asm); (case jk => exact rfl); (case jd => ((try dsimp only [ktrTop]); omega)); (case ju => ((try dsimp only [ktrTop]); omega)); (case p1 => first | exact Hid.out (by with_reducible assumption) | with_reducible assumption | omega | (simp only [sapp_len]; omega)); (case p2 => first | exact Hid.out (by with_reducible assumption) | with_reducible assumption | omega | (simp only [sapp_len]; omega)); (case p3 => first | exact Hid.out (by with_reducible assumption) | with_reducible assumption); (case p4 => first | exact Hid.out (by with_reducible assumption) | with_reducible assumption); (case p5 => first | exact Hid.out (by with_reducible assumption) | with_reducible assumption); (case p6 => first | exact Hid.out (by with_reducible assumption) | with_reducible assumption); (case p7 => first | exact Hid.out (by with_reducible assumption) | with_reducible assumption); k_whole); intro _ _ _ _; (try dsimp only); (try k_fold)))) | ((with_reducible show wpAny _ _ (call _ _) _ _ _); first | (k_here; (with_reducible show wpAny _ _ (call (Value.builtin "str.join") [Value.str _ _, Value.ref _]) _ _ _); k_dflt (refine' joinL ?z1 ?z2 ?z3 ?z4 ?_; (case z1 => k_asm); (case z2 => k_mem); (case z3 => first | exact .cons _ _ .nil | exact .cons _ _ (.cons _ _ .nil) | exact .cons _ _ (.cons _ _ (.cons _ _ .nil)) | exact .cons _ _ (.cons _ _ (.cons _ _ (.cons _ _ .nil)))); (case z4 => (simp only [List.map_cons, List.map_nil, List.sum_cons, List.sum_nil, List.length_cons, List.length_nil, sapp_len, dots_len, empty_len]; omega))); intro _ _) | (k_here; (with_reducible show wpAny _ _ (call (Value.ref 63) [Value.str _ _, Value.str _ _]) _ _ _); k_dflt (refine' ellipsis_2 ?jB ?jF ?jX ?jN ?jT ?jk ?jd ?ju ?p1 ?p2 ?p3 ?p4 ?p5 ?p6 ?p7 ?_; (case jB => k_asm); (case jF => k_asm); (case jX => k_asm); (case jN => k_asm); (case jT => k_asm); (case jk => exact rfl); (case jd => ((try dsimp only [ktrTop]); omega)); (case ju => ((try dsimp only [ktrTop]); omega)); (case p1 => first | exact Hid.out (by with_reducible assumption) | with_reducible assumption | omega | (simp only [sapp_len]; omega)); (case p2 => first | exact Hid.out (by with_reducible assumption) | with_reducible assumption | omega | (simp only [sapp_len]; omega)); (case p3 => first | exact Hid.out (by with_reducible assumption) | with_reducible assumption); (case p4 => first | exact Hid.out (by with_reducible assumption) | with_reducible assumption); (case p5 => first | exact Hid.out (by with_reducible assumption) | with_reducible assumption); (case p6 => first | exact Hid.out (by with_reducible assumption) | with_reducible assumption); (case p7 => first | exact Hid.out (by with_reducible assumption) | with_reducible assumption); k_whole); intro _ _ _ _; (try dsimp only); (try k_fold))) | walk1 | (dsimp only; first | with_reducible (first | ((with_reducible show wpAny _ _ (call _ _) _ _ _); first | (k_here; (with_reducible show wpAny _ _ (call (Value.builtin "str.join") [Value.str _ _, Value.ref _]) _ _ _); k_dflt (refine' joinL ?z1 ?z2 ?z3 ?z4 ?_; (case z1 => k_asm); (case z2 => k_mem); (case z3 => first | exact .cons _ _ .nil | exact .cons _ _ (.cons _ _ .nil) | exact .cons _ _ (.cons _ _ (.cons _ _ .nil)) | exact .cons _ _ (.cons _ _ (.cons _ _ (.cons _ _ .nil)))); (case z4 => (simp only [List.map_cons, List.map_nil, List.sum_cons, List.sum_nil, List.length_cons, List.length_nil, sapp_len, dots_len, empty_len]; omega))); intro _ _) | (k_here; (with_reducible show wpAny _ _ (call (Value.ref 63) [Value.str _ _, Value.str _ _]) _ _ _); k_dflt (refine' ellipsis_2 ?jB ?jF ?jX ?jN ?jT ?jk ?jd ?ju ?p1 ?p2 ?p3 ?p4 ?p5 ?p6 ?p7 ?_; (case jB => k_asm); (case jF => k_asm); (case jX => k_asm); (case jN => k_asm); (case jT => k_asm); (case jk => exact rfl); (case jd => ((try dsimp only [ktrTop]); omega)); (case ju => ((try dsimp only [ktrTop]); omega)); (case p1 => first | exact Hid.out (by with_reducible assumption) | with_reducible assumption | omega | (simp only [sapp_len]; omega)); (case p2 => first | exact Hid.out (by with_reducible assumption) | with_reducible assumption | omega | (simp only [sapp_len]; omega)); (case p3 => first | exact Hid.out (by with_reducible assumption) | with_reducible assumption); (case p4 => first | exact Hid.out (by with_reducible assumption) | with_reducible assumption); (case p5 => first | exact Hid.out (by with_reducible assumption) | with_reducible assumption); (case p6 => first | exact Hid.out (by with_reducible assumption) | with_reducible assumption); (case p7 => first | exact Hid.out (by with_reducible assumption) | with_reducible assumption); k_whole); intro _ _ _ _; (try dsimp only); (try k_fold)))) | ((with_reducible show wpAny _ _ (call _ _) _ _ _); first | (k_here; (with_reducible show wpAny _ _ (call (Value.builtin "str.join") [Value.str _ _, Value.ref _]) _ _ _); k_dflt (refine' joinL ?z1 ?z2 ?z3 ?z4 ?_; (case z1 => k_asm); (case z2 => k_mem); (case z3 => first | exact .cons _ _ .nil | exact .cons _ _ (.cons _ _ .nil) | exact .cons _ _ (.cons _ _ (.cons _ _ .nil)) | exact .cons _ _ (.cons _ _ (.cons _ _ (.cons _ _ .nil)))); (case z4 => (simp only [List.map_cons, List.map_nil, List.sum_cons, List.sum_nil, List.length_cons, List.length_nil, sapp_len, dots_len, empty_len]; omega))); intro _ _) | (k_here; (with_reducible show wpAny _ _ (call (Value.ref 63) [Value.str _ _, Value.str _ _]) _ _ _); k_dflt (refine' ellipsis_2 ?jB ?jF ?jX ?jN ?jT ?jk ?jd ?ju ?p1 ?p2 ?p3 ?p4 ?p5 ?p6 ?p7 ?_; (case jB => k_asm); (case jF => k_asm); (case jX => k_asm); (case jN => k_asm); (case jT => k_asm); (case jk => exact rfl); (case jd => ((try dsimp only [ktrTop]); omega)); (case ju => ((try dsimp only [ktrTop]); omega)); (case p1 => first | exact Hid.out (by with_reducible assumption) | with_reducible assumption | omega | (simp only [sapp_len]; omega)); (case p2 => first | exact Hid.out (by with_reducible assumption) | with_reducible assumption | omega | (simp only [sapp_len]; omega)); (case p3 => first | exact Hid.out (by with_reducible assumption) | with_reducible assumption); (case p4 => first | exact Hid.out (by with_reducible assumption) | with_reducible assumption); (case p5 => first | exact Hid.out (by with_reducible assumption) | with_reducible assumption); (case p6 => first | exact Hid.out (by with_reducible assumption) | with_reducible assumption); (case p7 => first | exact Hid.out (by with_reducible assumption) | with_reducible assumption); k_whole); intro _ _ _ _; (try dsimp only); (try k_fold))) | walk1) | (leave1; (try dsimp only)) | fail "no step"))
      all_goals (rename Fr _ _ _ _ => Fe; rename News _ _ _ _ => Ne; exact FixEnd.intro Fe Ne (fun p hp => .tail _ hp))
    case fi =>
      intro g3
      (walk1; try dsimp only)
      (repeat' ((fail_if_success (with_reducible show LCg.CompSrc _ _ _ _ _ _ _ _ _ _ _ _ _ _)); (fail_if_success (with_reducible show LCt.CompSrcT _ _ _ _ _ _ _ _ _ _ _ _ _ _ _)); first | (k_unfold; (try dsimp only)) | (k_end; wrow_close) | with_reducible (first | (k_here; (with_reducible show wpAny _ _ (eval (PySem.Expr.ListComp _ [PySem.Comprehension.mk _ _ [_] _] _ _) _) _ _ _); k_dflt (refine LCt.ListComp_T (F₀ := by k_asm) (by with_unfolding_all rfl) (by decide) (by rfl) (by decide) (by rfl) ?_)) | (k_here; (with_reducible show wpAny _ _ (call (Value.ref 105) [Value.ref _, Value.ref _]) _ _ _); k_dflt (refine' concat_list ?jB ?jF ?jX ?jN ?jT ?jk ?jd ?ju ?p1 ?p2 ?p3 ?_; (case jB => k_asm); (case jF => k_asm); (case jX => k_asm); (case jN => k_asm); (case jT => k_asm); (case jk => exact rfl); (case jd => ((try dsimp only [ktrTop]); omega)); (case ju => ((try dsimp only [ktrTop]); omega)); (case p1 => k_mem); (case p2 => k_mem); (case p3 => first | with_reducible assumption | exact size_okC (Nat.le_of_ble_eq_true rfl) | exact size_okC (by simp only [List.length_append, List.length_cons, List.length_nil]; omega)); k_whole); wtm_at "t7")) | (k_here; (with_reducible show wpAny _ _ (eval (PySem.Expr.ListComp _ [PySem.Comprehension.mk _ _ [_] _] _ _) _) _ _ _); k_dflt (refine LCt.ListComp_T (F₀ := by k_asm) (by with_unfolding_all rfl) (by decide) (by rfl) (by decide) (by rfl) ?_)) | (k_here; (with_reducible show wpAny _ _ (call (Value.ref 105) [Value.ref _, Value.ref _]) _ _ _); k_dflt (refine' concat_list ?jB ?jF ?jX ?jN ?jT ?jk ?jd ?ju ?p1 ?p2 ?p3 ?_; (case jB => k_asm); (case jF => k_asm); (case jX => k_asm); (case jN => k_asm); (case jT => k_asm); (case jk => exact rfl); (case jd => ((try dsimp only [ktrTop]); omega)); (case ju => ((try dsimp only [ktrTop]); omega)); (case p1 => k_mem); (case p2 => k_mem); (case p3 => first | with_reducible assumption | exact size_okC (Nat.le_of_ble_eq_true rfl) | exact size_okC (by simp only [List.length_append, List.length_cons, List.length_nil]; omega)); k_whole); wtm_at "t7") | walk1 | (dsimp only; first | with_reducible (first | (k_here; (with_reducible show wpAny _ _ (eval (PySem.Expr.ListComp _ [PySem.Comprehension.mk _ _ [_] _] _ _) _) _ _ _); k_dflt (refine LCt.ListComp_T (F₀ := by k_asm) (by with_unfolding_all rfl) (by decide) (by rfl) (by decide) (by rfl) ?_)) | (k_here; (with_reducible show wpAny _ _ (call (Value.ref 105) [Value.ref _, Value.ref _]) _ _ _); k_dflt (refine' concat_list ?jB ?jF ?jX ?jN ?jT ?jk ?jd ?ju ?p1 ?p2 ?p3 ?_; (case jB => k_asm); (case jF => k_asm); (case jX => k_asm); (case jN => k_asm); (case jT => k_asm); (case jk => exact rfl); (case jd => ((try dsimp only [ktrTop]); omega)); (case ju => ((try dsimp only [ktrTop]); omega)); (case p1 => k_mem); (case p2 => k_mem); (case p3 => first | with_reducible assumption | exact size_okC (Nat.le_of_ble_eq_true rfl) | exact size_okC (by simp only [List.length_append, List.length_cons, List.length_nil]; omega)); k_whole); wtm_at "t7")) | (k_here; (with_reducible show wpAny _ _ (eval (PySem.Expr.ListComp _ [PySem.Comprehension.mk _ _ [_] _] _ _) _) _ _ _); k_dflt (refine LCt.ListComp_T (F₀ := by k_asm) (by with_unfolding_all rfl) (by decide) (by rfl) (by decide) (by rfl) ?_)) | (k_here; (with_reducible show wpAny _ _ (call (Value.ref 105) [Value.ref _, Value.ref _]) _ _ _); k_dflt (refine' concat_list ?jB ?jF ?jX ?jN ?jT ?jk ?jd ?ju ?p1 ?p2 ?p3 ?_; (case jB => k_asm); (case jF => k_asm); (case jX => k_asm); (case jN => k_asm); (case jT => k_asm); (case jk => exact rfl); (case jd => ((try dsimp only [ktrTop]); omega)); (case ju => ((try dsimp only [ktrTop]); omega)); (case p1 => k_mem); (case p2 => k_mem); (case p3 => first | with_reducible assumption | exact size_okC (Nat.le_of_ble_eq_true rfl) | exact size_okC (by simp only [List.length_append, List.length_cons, List.length_nil]; omega)); k_whole); wtm_at "t7") | walk1) | (leave1; (try dsimp only)) | fail "no step"))
      rename IsRange _ _ _ _ _ _ _ _ => R3
      refine' srcT_range (n := 8) rfl ?z0 ?z1 R3 ?z2 ?z3 (by decide) rfl rfl (by decide) (fun _ ys => ys = []) rfl ?st ?fi
      case z0 => k_asm
      case z1 => k_asm
      case z2 => exact range_small (by decide) (by decide) (by decide) (by decide)
      case z3 => exact range_size _ (by decide)
      case st =>
        clear hJ
        rintro g i tv ys I oI C oC D m₂ h tk E' hin rfl hoC hbv Ft Nt
        obtain ⟨b, hb1, hb2⟩ : ∃ b : Bool, ([Value.bool true, .bool false, .bool false, .bool true, .bool false, .bool false] ++ [Value.bool false, .bool true]).toArray[(0 + (i : Int)).toNat]? = some (Value.bool b) ∧ #[Value.bool true, .bool false, .bool false, .bool true, .bool false, .bool false, .bool false, .bool true][(0 + (i : Int)).toNat]? = some (Value.bool b) := by
          rcases i with _ | _ | _ | _ | _ | _ | _ | _ | i
          all_goals (first | (exfalso; omega) | exact ⟨_, rfl, rfl⟩)
        (repeat' (first | (k_unfold; (try dsimp only)) | (k_end; wrow_close) | with_reducible (first | (k_here; (with_reducible show wpAny _ _ (subscriptTail _ (Expr.Name _ _) (Value.ref _) (Value.int _ _)) _ _ _); k_dflt (refine' item_L ?j1 ?j2 ?j3 ?j4 ?j5 ?_ ?j6 ?j7; (case j1 => k_asm); (case j2 => k_mem); (case j3 => with_reducible assumption); (case j4 => omega); (case j5 => exact Nat.le_of_ble_eq_true rfl); (case j6 => with_unfolding_all rfl); (case j7 => (intro _; with_unfolding_all rfl))))) | (k_here; (with_reducible show wpAny _ _ (subscriptTail _ (Expr.Name _ _) (Value.ref _) (Value.int _ _)) _ _ _); k_dflt (refine' item_L ?j1 ?j2 ?j3 ?j4 ?j5 ?_ ?j6 ?j7; (case j1 => k_asm); (case j2 => k_mem); (case j3 => with_reducible assumption); (case j4 => omega); (case j5 => exact Nat.le_of_ble_eq_true rfl); (case j6 => with_unfolding_all rfl); (case j7 => (intro _; with_unfolding_all rfl)))) | walk1 | (dsimp only; first | with_reducible (first | (k_here; (with_reducible show wpAny _ _ (subscriptTail _ (Expr.Name _ _) (Value.ref _) (Value.int _ _)) _ _ _); k_dflt (refine' item_L ?j1 ?j2 ?j3 ?j4 ?j5 ?_ ?j6 ?j7; (case j1 => k_asm); (case j2 => k_mem); (case j3 => with_reducible assumption); (case j4 => omega); (case j5 => exact Nat.le_of_ble_eq_true rfl); (case j6 => with_unfolding_all rfl); (case j7 => (intro _; with_unfolding_all rfl))))) | (k_here; (with_reducible show wpAny _ _ (subscriptTail _ (Expr.Name _ _) (Value.ref _) (Value.int _ _)) _ _ _); k_dflt (refine' item_L ?j1 ?j2 ?j3 ?j4 ?j5 ?_ ?j6 ?j7; (case j1 => k_asm); (case j2 => k_mem); (case j3 => with_reducible assumption); (case j4 => omega); (case j5 => exact Nat.le_of_ble_eq_true rfl); (case j6 => with_unfolding_all rfl); (case j7 => (intro _; with_unfolding_all rfl)))) | walk1) | (leave1; (try dsimp only)) | fail "no step"))
        rename Fr _ _ _ _ => Fe
        rename News _ _ _ _ => Ne
        exact TestEnd.intro Fe Ne (fun p hp => hp) (by simp)
      case fi =>
        rintro g4 ys rfl
        (walk1; try dsimp only)
        k_steps
        rename Fr h₀ L _ _ => kF
        rename News h₀ L _ _ => kN
        exact hret _ _ kF (cb_drop kN fun p hp => by repeat (first | exact hp | apply List.Mem.tail))
end
end X5
theorem set_back_X5_z : True := by first | walk1 | trivial
-- Loop3
section Loop3
set_option maxRecDepth 100000
set_option maxHeartbeats 8000000
section
variable {prog : Program} {w : World} {A : Around} {E : Value → Shared → Prop} {s : Shared} {env : Env} {h₀ : Heap} {target : Expr} {body : List Stmt} {Q : Flow → Shared → Prop}
/-- for target in l, l a list of the ledger's, any target that is one name (a cell too), by a word that holds between the turns -/
theorem iter_listT {ax : Addr} {vs : List Value} {nn : Nat} {m : Str → Option Value} {news : List (Addr × Obj)}
    (ht : ∀ it v, letOwnedTupleGo target it v = pure ()) (hh : A.handled = none) (F : Fr h₀ env.locals s.heap m) (N : News h₀ env.locals s.heap news) (hm : (ax, listOf vs.toArray nn) ∈ news)
    (J : Nat → (Str → Option Value) → List (Addr × Obj) → Prop) (hJ0 : J 0 m news) (hJm : ∀ i m₁ news₁, J i m₁ news₁ → (ax, listOf vs.toArray nn) ∈ news₁)
    (turn : ∀ I i v m₁ news₁ h tk it, it.data = .fields #[.ref ax, .int ((i + 1 : Nat) : Int) 0] → (∀ p ∈ news, p.1 < I) → i < vs.length → vs[i]? = some v → J i m₁ news₁ → (∀ p ∈ news₁, p.1 ≠ I) → Fr h₀ env.locals h m₁ → News h₀ env.locals h ((I, it) :: news₁) →
      wpAny (model prog w) A (assign target env v) (fun _ s₃ => wpAny (model prog w) A (execs body env) (TurnPost h₀ env.locals I it (J (i + 1)) { s with heap := h, toks := tk } Q) E s₃) E { s with heap := h, toks := tk })
    (done : ∀ m₁ news₁ h tk, J vs.length m₁ news₁ → Fr h₀ env.locals h m₁ → News h₀ env.locals h news₁ → Q .next { s with heap := h, toks := tk }) :
    wpAny (model prog w) A (pyIter (.ref ax)) (fun it s₂ => TurnsAt prog w A h₀ env target body Q E it s₂) E s := by
  have hax := N _ hm
  have hl : s.heap.IsList ax vs.toArray := PySem.IsL.isList (n := nn) hax.1
  have hlt : ax < s.heap.objs.size := Heap.lt_size hax.1
  obtain ⟨I, hI⟩ : ∃ I, I = s.heap.objs.size := ⟨_, rfl⟩
  have hne : ax ≠ I := hI ▸ Nat.ne_of_lt hlt
  refine wpAny_pyIter_list hl ?_
  rw [← hI]
  have W := Walks.list (prog := prog) (w := w) hh I ax hne vs.toArray
  have hlen : vs.toArray.size = vs.length := by simp
  rw [hlen] at W
  have hfr : ∀ p ∈ news, p.1 < I := fun p hp => hI ▸ Heap.lt_size (N p hp).1
  have hnone : h₀.get? I = none := hI ▸ Heap.get?_none_of_le (Nat.le_trans F.above (Nat.le_of_lt F.ns.lt))
  have hLI : env.locals ≠ I := hI ▸ Nat.ne_of_lt F.ns.lt
  have K := KTurns.ofWalks (target := target) W (fun i v s Q E _ q => wpAny_of_eq (ht _ v) q)
  refine ⟨I, _, _, vs.length, _, _, _, m, news, J, rfl, K, ?_, ?_, ?_, ⟨⟨_, hI ▸ Heap.get?_push_size _ rfl, rfl, rfl⟩, hl.at fun o e => Heap.get?_push_of_some _ e⟩, F.push _, (fun p hp => ⟨Heap.get?_push_of_some _ (N p hp).1, (N p hp).2⟩), hJ0, ?_, ?_⟩
  · intro hm'
    rcases List.mem_cons.mp hm' with e | hm'
    · exact hLI e
    · rw [List.mem_singleton.mp hm'] at hax; exact hax.2.1 rfl
  · intro b hb
    rw [List.mem_singleton.mp hb]
    exact hnone
  · intro p hp hm'
    rw [List.mem_singleton] at hm'
    exact absurd (hfr p hp) (by rw [hm']; exact Nat.lt_irrefl _)
  · rintro i v m₁ news₁ hh' tk own hin hP hJ hnw hown hget hall hst' F₁ N₁
    obtain ⟨it, hit, hcls, hdat⟩ := hst'.1
    have hmI := hall I (List.mem_cons_self ..) hnone _ hit
    have hneI : ∀ p ∈ news₁, p.1 ≠ I := fun p hp e => hnw p hp (List.mem_singleton.mpr e)
    have N₂ : News h₀ env.locals hh' ((I, it) :: news₁) := fun p hp => by
      rcases List.mem_cons.mp hp with rfl | hp
      · exact N₁ _ (List.mem_append_left _ hmI)
      · exact N₁ _ (List.mem_append_right _ hp)
    have hsub : ∀ p ∈ own, p = (I, it) ∨ p = (ax, listOf vs.toArray nn) := fun p hp => by
      have h2 : hh'.get? p.1 = some p.2 := hget p hp
      rcases List.mem_cons.mp (hown p hp) with h1 | h1
      · rw [h1, hit] at h2
        exact .inl (Prod.ext h1 (Option.some.inj h2).symm)
      · have h1' := List.mem_singleton.mp h1
        have h3 := (N₂ _ (.tail _ (hJm _ _ _ hJ))).1
        rw [h1'] at h2
        refine .inr (Prod.ext h1' ?_)
        have h4 := h3.symm.trans h2
        exact (Option.some.inj h4).symm
    refine wpAny_mono (turn I i v m₁ news₁ hh' tk it hdat hfr hin (by simpa using hP) hJ hneI F₁ N₂) (fun _ s₃ h₃ => wpAny_mono h₃ (fun f s₂ p => ?_) fun _ _ e => e) fun _ _ e => e
    have fin : TurnEnd h₀ env.locals I it (J (i + 1)) { s with heap := hh', toks := tk } s₂ → LoopStepU h₀ env.locals [I] own (J (i + 1)) { s with heap := hh', toks := tk } .next s₂ := by
      rintro ⟨h', tk', m', news', e, F', N', hn, hj⟩
      refine ⟨rfl, h', tk', m', news', e, F', fun p hp => ?_, fun p hp hm' => hn p hp (List.mem_singleton.mp hm'), hj⟩
      rcases List.mem_append.mp hp with hp | hp
      · rcases hsub p hp with rfl | rfl
        · exact N' _ (List.mem_cons_self ..)
        · exact N' _ (.tail _ (hJm _ _ _ hj))
      · exact N' _ (.tail _ hp)
    cases f with
    | ret v => exact .ret p
    | brk => exact .brk p
    | next => exact .next (fin p)
    | cont => exact .cont (fin p)
  · rintro h' tk m' news' F' N' _ hj
    exact done m' news' h' tk hj F' N'
end
end Loop3
-- Fold
section Fold
set_option maxRecDepth 100000
set_option maxHeartbeats 8000000
theorem set_back_Fold : True := by
  w_top off
  first | walk1 | trivial
/-- a list of numbers stands in the ledger's front -/
def Lst (G : List (Addr × Obj) → List (Addr × Obj)) (e : Addr) (f : List Int) : Prop := ∃ vf k, IntsAre vf f ∧ ∀ r, (e, listOf (List.toArray vf) k) ∈ G r
def ToldItem (G : List (Addr × Obj) → List (Addr × Obj)) (v : Value) (x : List Int × List Int × List Int) : Prop :=
  ∃ T a b c k, v = .ref T ∧ (∀ r, (T, listOf #[.ref a, .ref b, .ref c] k) ∈ G r) ∧ Lst G a x.1 ∧ Lst G b x.2.1 ∧ Lst G c x.2.2
def EndItem (G : List (Addr × Obj) → List (Addr × Obj)) (v : Value) (f : List Int) : Prop := ∃ e, v = .ref e ∧ Lst G e f
theorem Lst.mono {G G' : List (Addr × Obj) → List (Addr × Obj)} (h : ∀ r p, p ∈ G r → p ∈ G' r) {e : Addr} {f : List Int} (x : Lst G e f) : Lst G' e f := let ⟨vf, k, hi, hm⟩ := x; ⟨vf, k, hi, fun r => h r _ (hm r)⟩
theorem paired_mono {α β : Type} {F F' : α → β → Prop} (h : ∀ a b, F a b → F' a b) : ∀ {l : List α} {l' : List β}, Paired F l l' → Paired F' l l'
  | _, _, .nil => .nil
  | _, _, .cons x t => .cons (h _ _ x) (paired_mono h t)
theorem ToldItem.mono {G G' : List (Addr × Obj) → List (Addr × Obj)} (h : ∀ r p, p ∈ G r → p ∈ G' r) {v x} (y : ToldItem G v x) : ToldItem G' v x :=
  let ⟨T, a, b, c, k, e, hT, ha, hb, hc⟩ := y; ⟨T, a, b, c, k, e, fun r => h r _ (hT r), ha.mono h, hb.mono h, hc.mono h⟩
theorem EndItem.mono {G G' : List (Addr × Obj) → List (Addr × Obj)} (h : ∀ r p, p ∈ G r → p ∈ G' r) {v f} (y : EndItem G v f) : EndItem G' v f := let ⟨e, q, hl⟩ := y; ⟨e, q, hl.mono h⟩
theorem paired_get {α β : Type} {F : α → β → Prop} : ∀ {l : List α} {l' : List β}, Paired F l l' → ∀ {i : Nat} {a : α}, l[i]? = some a → ∃ b, l'[i]? = some b ∧ F a b
  | _, _, .nil, _, _, h => by simp at h
  | _, _, .cons (a := a) (b := b) x t, 0, v, h => by
    rw [List.getElem?_cons_zero] at h
    cases h; exact ⟨b, rfl, x⟩
  | _, _, .cons x t, i + 1, v, h => by
    rw [List.getElem?_cons_succ] at h
    obtain ⟨b, e, y⟩ := paired_get t h
    exact ⟨b, e, y⟩
/-- no code object -/
def NoCode (o : Obj) : Prop := ∀ vs, o.data = .fields vs → ∀ q t, vs[1]? ≠ some (Value.str q t)
theorem noCode_of {o : Obj} (h : ∀ vs, o.data ≠ .fields vs) : NoCode o := fun vs e => absurd e (h vs)
theorem noCode_iter {o : Obj} {a : Value} {b : Int} {t : Tok} (h : o.data = .fields #[a, .int b t]) : NoCode o := fun vs e q t' => by
  rw [h] at e; cases e; simp
/-- the tables' part lies off a list or a cell -/
theorem tabs_off {h₀ h : Heap} {L : Addr} {led rest : List (Addr × Obj)} {d : Addr} {o : Obj} (hR : TabsL rest) (N : News h₀ L h led) (hs : ∀ p ∈ rest, p ∈ led) (hm : (d, o) ∈ led)
    (hne : @Ne Nat d 37 ∧ @Ne Nat d 30) (ho : NoCode o) : ∀ p ∈ rest, p.1 ≠ d := by
  intro p hp e
  have e1 := (N p (hs p hp)).1
  have e2 := (N _ hm).1
  have e3 : p.2 = o := by
    have e' : p.1 = d := e
    rw [e'] at e1
    exact Option.some.inj (e1.symm.trans e2)
  obtain ⟨r1, r2, rfl, t1, t2⟩ := hR
  have one : ∀ {P line col qual r}, TabIn P line col qual r → p ∈ r → p.1 = P ∨ ∃ vs q t, p.2.data = .fields vs ∧ vs[1]? = some (.str q t) := by
    intro P line col qual r t hp
    rcases t with rfl | ⟨c, o', vs, tt, rfl, hd, hv, _⟩
    · rw [List.mem_singleton.mp hp]; exact .inl rfl
    · rcases List.mem_cons.mp hp with rfl | hp
      · exact .inr ⟨vs, _, _, hd, hv⟩
      · rw [List.mem_singleton.mp hp]; exact .inl rfl
  rcases List.mem_append.mp hp with hp | hp
  · rcases one t1 hp with q | ⟨vs, _, _, q, q'⟩
    · exact hne.1 (e.symm.trans q)
    · exact ho vs (e3 ▸ q) _ _ q'
  · rcases one t2 hp with q | ⟨vs, _, _, q, q'⟩
    · exact hne.2 (e.symm.trans q)
    · exact ho vs (e3 ▸ q) _ _ q'
theorem led_off {h₀ h : Heap} {L : Addr} {led rest : List (Addr × Obj)} {G : List (Addr × Obj) → List (Addr × Obj)} {d : Addr} {o : Obj} (hG : Led G) (hR : TabsL rest) (N : News h₀ L h led) (hs : ∀ p ∈ G rest, p ∈ led) (hm : (d, o) ∈ led)
    (hne : @Ne Nat d 37 ∧ @Ne Nat d 30) (ho : NoCode o) (h0 : ∀ p ∈ G [], p.1 ≠ d) : ∀ p ∈ G rest, p.1 ≠ d := by
  obtain ⟨pre, e, _⟩ := hG.of
  rw [e] at hs ⊢
  rw [e, List.append_nil] at h0
  intro p hp
  rcases List.mem_append.mp hp with hp' | hp'
  · exact h0 p hp'
  · exact tabs_off hR N (fun q hq => hs q (List.mem_append_right _ hq)) hm hne ho p hp'
theorem led_rest {G : List (Addr × Obj) → List (Addr × Obj)} (hG : Led G) {r : List (Addr × Obj)} : ∀ p ∈ r, p ∈ G r := by
  obtain ⟨pre, e, _⟩ := hG.of
  rw [e]
  exact fun p hp => List.mem_append_right _ hp
/-- a list, a tuple or a cell is none of the tables -/
theorem seq_off {h₀ h : Heap} {L : Addr} {led rest : List (Addr × Obj)} {d : Addr} {o : Obj} (hR : TabsL rest) (N : News h₀ L h led) (hs : ∀ p ∈ rest, p ∈ led) (hm : (d, o) ∈ led) (ho : ∀ vs, o.data ≠ .fields vs) : @Ne Nat d 37 ∧ @Ne Nat d 30 := by
  obtain ⟨r1, r2, rfl, t1, t2⟩ := hR
  have one : ∀ {P : Addr} {ps}, (P, tabObj ps) ∈ r1 ++ r2 → @Ne Nat d P := by
    intro P ps hp e
    have e1 := (N _ (hs _ hp)).1
    have e2 := (N _ hm).1
    have e' : d = P := e
    rw [← e'] at e1
    have e3 : tabObj ps = o := Option.some.inj (e1.symm.trans e2)
    exact ho ps (by rw [← e3])
  obtain ⟨p1, m1⟩ := t1.mem
  obtain ⟨p2, m2⟩ := t2.mem
  exact ⟨one (List.mem_append_left _ m1), one (List.mem_append_right _ m2)⟩
theorem led_nil {G : List (Addr × Obj) → List (Addr × Obj)} (hG : Led G) {r : List (Addr × Obj)} : ∀ p ∈ G [], p ∈ G r := by
  obtain ⟨pre, e, _⟩ := hG.of
  rw [e, e, List.append_nil]
  exact fun p hp => List.mem_append_left _ hp
def ENDS : List (List Int) := [[], [0], [1], [0, 0], [1, 1]]
/-- what holds between the turns of _law_foldings's loops -/
structure FoldSt (ax : Addr) (g : List (Addr × Obj) → List (Addr × Obj)) (sg : Str) (wd : Int) (tw : Tok) (num : Int) (txt : Str) (cW cF tD : Addr) (mF : Option Value) (tl : List (List Int × List Int × List Int)) (G : List (Addr × Obj) → List (Addr × Obj)) (m₁ : Str → Option Value) (led : List (Addr × Obj)) : Prop where
  st : ∃ rest' items k oF oW t1 t2 t3, led = (tD, listOf (List.toArray items) k) :: (cF, oF) :: (cW, oW) :: G rest' ∧ TabsL rest' ∧ oW.data = .cell (some (.int wd tw)) ∧ oF.data = .cell mF ∧ Paired (ToldItem G) items tl ∧
    m₁ (Str.ofString "word") = some (.ref ax) ∧ m₁ (Str.ofString "signs") = some (.str sg t1) ∧ m₁ (Str.ofString "text") = some (.str txt t2) ∧ m₁ (Str.ofString "number") = some (.int num t3) ∧ m₁ (Str.ofString "told") = some (.ref tD)
  hG : Led G
  ha : ∀ r p, p ∈ g r → p ∈ G r
  off : ∀ p ∈ G [], p.1 ≠ tD ∧ p.1 ≠ cF
/-- what holds between the turns of the inner loop -/
def FoldIn (ax : Addr) (g : List (Addr × Obj) → List (Addr × Obj)) (sg : Str) (wd : Int) (tw : Tok) (num : Int) (txt : Str) (cW cF tD : Addr) (fe : Addr) (vf : List Value) (kf : Nat) (I : Addr) (it : Obj) (DE : Addr) (EL : List Value) (D2 : Addr) (EL2 : List Value) (RV : Int) (bg : Bool) (tl : List (List Int × List Int × List Int)) (m₂ : Str → Option Value) (led₂ : List (Addr × Obj)) : Prop :=
  ∃ G₂ led', led₂ = (I, it) :: led' ∧ FoldSt ax g sg wd tw num txt cW cF tD (some (.ref fe)) tl G₂ m₂ led' ∧ (∃ t, m₂ (Str.ofString "rest") = some (.int RV t)) ∧ m₂ (Str.ofString "begun") = some (.bool bg) ∧ (∀ r, (DE, listOf EL.toArray 0) ∈ G₂ r) ∧ Paired (EndItem G₂) EL ENDS ∧ (∀ r, (D2, listOf EL2.toArray 0) ∈ G₂ r) ∧ Paired (EndItem G₂) EL2 ENDS ∧ (∀ r, (fe, listOf vf.toArray kf) ∈ G₂ r) ∧ (∀ p ∈ G₂ [], p.1 ≠ I)
theorem pin5 {m : Str → Option Value} {x1 x2 x3 x4 x5 : Str} {v1 v2 v3 v4 v5 : Value} (h1 : m x1 = some v1) (h2 : m x2 = some v2) (h3 : m x3 = some v3) (h4 : m x4 = some v4) (h5 : m x5 = some v5) :
    m = fun y => if y = x1 then some v1 else if y = x2 then some v2 else if y = x3 then some v3 else if y = x4 then some v4 else if y = x5 then some v5 else m y := by
  funext y
  split
  · rename_i h; subst h; exact h1
  split
  · rename_i h; subst h; exact h2
  split
  · rename_i h; subst h; exact h3
  split
  · rename_i h; subst h; exact h4
  split
  · rename_i h; subst h; exact h5
  rfl
theorem pin7 {m : Str → Option Value} {x1 x2 x3 x4 x5 x6 x7 : Str} {v1 v2 v3 v4 v5 v6 v7 : Value} (h1 : m x1 = some v1) (h2 : m x2 = some v2) (h3 : m x3 = some v3) (h4 : m x4 = some v4) (h5 : m x5 = some v5) (h6 : m x6 = some v6) (h7 : m x7 = some v7) :
    m = fun y => if y = x1 then some v1 else if y = x2 then some v2 else if y = x3 then some v3 else if y = x4 then some v4 else if y = x5 then some v5 else if y = x6 then some v6 else if y = x7 then some v7 else m y := by
  funext y
  split
  · rename_i h; subst h; exact h1
  split
  · rename_i h; subst h; exact h2
  split
  · rename_i h; subst h; exact h3
  split
  · rename_i h; subst h; exact h4
  split
  · rename_i h; subst h; exact h5
  split
  · rename_i h; subst h; exact h6
  split
  · rename_i h; subst h; exact h7
  rfl
/-- how a front and an end may stand round a word: the middle's figures, told or not -/
def pairsOk : List Int → Bool
  | [] => true
  | [_] => false
  | a :: b :: r => (a + b == 1) && pairsOk r
def evens : List Int → List Int
  | [] => []
  | [a] => [a]
  | a :: _ :: r => a :: evens r
def midOf (ws f e : List Int) : List Int := (ws.drop f.length).take (ws.length - f.length - e.length)
def sameOf (ws f e : List Int) : Bool := (ws.take f.length == f) && (ws.drop (ws.length - e.length) == e)
def foldOne (ws f e : List Int) : List (List Int × List Int × List Int) := if sameOf ws f e && (midOf ws f e).length % 2 == 0 && pairsOk (midOf ws f e) then [(f, evens (midOf ws f e), e)] else []
def foldsAt (ws f : List Int) : List (List Int × List Int × List Int) := ENDS.flatMap (foldOne ws f)
def foldsOf (ws : List Int) : List (List Int × List Int × List Int) := ENDS.flatMap (foldsAt ws)
/-- what the walk needs of the texts of a front, an end and the word -/
structure FoldOk (sg : Str) (ws f e : List Int) : Prop where
  len : (textOf sg f ++ Str.ofString "..." ++ textOf sg e).length ≤ 1000
  split : Txt.split (textOf sg f ++ Str.ofString "..." ++ textOf sg e) (Str.ofString "...") = [textOf sg f, textOf sg e]
  inn : (Builtin.Str.occurrences (textOf sg f ++ Str.ofString "..." ++ textOf sg e) (Str.ofString "...") 0 (textOf sg f ++ Str.ofString "..." ++ textOf sg e).length 1).isEmpty = false
  l1 : (textOf sg f).length ≤ 1000
  l2 : (textOf sg e).length ≤ 1000
  l3 : (textOf sg ws).length ≤ 1000
  l4 : (textOf sg f ++ Str.ofString "...").length ≤ 1000
  hit : ellM (textOf sg ws) (textOf sg f) [] (textOf sg e) = sameOf ws f e
end Fold
theorem set_back_Fold_z : True := by first | walk1 | trivial
-- Plain5
section Plain5
theorem set_back_Plain5 : True := by
  w_top off
  first | walk1 | trivial
theorem dval_div {n k : Nat} {l : List Int} (h : Figs n l) (hk : k ≤ l.length) : dval n l / (1 * 2 ^ (n * k)) = dval n (l.drop k) ∧ dval n l % (1 * 2 ^ (n * k)) = dval n (l.take k) := by
  have e : dval n l = dval n (l.take k) + dval n (l.drop k) * (1 * 2 ^ (n * k)) := by
    conv => lhs; rw [← List.take_append_drop k l]
    rw [dval_append, List.length_take, Nat.min_eq_left hk, Int.one_mul]
  obtain ⟨b0, b1⟩ := dval_bounds (h.take k)
  rw [List.length_take, Nat.min_eq_left hk] at b1
  have hP : 0 < (1 : Int) * 2 ^ (n * k) := by rw [Int.one_mul]; exact pow2_pos _
  have b1' : dval n (l.take k) < 1 * 2 ^ (n * k) := by rw [Int.one_mul]; exact b1
  rw [e]
  generalize (1 : Int) * 2 ^ (n * k) = P at *
  constructor
  · rw [Int.add_mul_ediv_right _ _ (by omega), Int.ediv_eq_zero_of_lt b0 b1', Int.zero_add]
  · rw [Int.add_mul_emod_self_right, Int.emod_eq_of_lt b0 b1']
theorem dval_eq {n : Nat} {a b : List Int} (ha : Figs n a) (hb : Figs n b) (hl : a.length = b.length) : (dval n a == dval n b) = (a == b) := by
  rw [Bool.eq_iff_iff, beq_iff_eq, beq_iff_eq]
  constructor
  · intro e
    rw [← digs_dval ha, ← digs_dval hb, e, hl]
  · rintro rfl; rfl
/-- the sign-by-sign middle's figures at twice the width -/
def pairUp (W : Nat) : List Int → List Int
  | [] => []
  | [a] => [a]
  | a :: b :: r => (a + b * 2 ^ W) :: pairUp W r
theorem dval_pairUp {W : Nat} : ∀ {l : List Int}, l.length % 2 = 0 → ∀ r, dval (2 * W) (pairUp W l ++ [r]) = dval W (l ++ [r])
  | [], _, r => by simp [pairUp, dval]
  | [_], h, _ => by simp at h
  | a :: b :: l, h, r => by
    have h' : l.length % 2 = 0 := by simp only [List.length_cons] at h; omega
    rw [pairUp, List.cons_append, dval, dval_pairUp h' r, List.cons_append, List.cons_append, dval, dval, pow_two_mul, Int.add_mul, ← Int.mul_assoc, Int.add_assoc]
theorem figs_pairUp {W : Nat} (hW : 1 ≤ W) : ∀ {l : List Int}, (∀ x ∈ l, x = 0 ∨ x = 1) → Figs (2 * W) (pairUp W l)
  | [], _ => fun _ h => nomatch h
  | [a], h => figs_bits (by omega) h
  | a :: b :: l, h => by
    intro d hd
    have ha := h a (.head _)
    have hb := h b (.tail _ (.head _))
    have h2 := two_le_pow hW
    have h3 : (2 : Int) ^ W * 2 ≤ 2 ^ W * 2 ^ W := Int.mul_le_mul_of_nonneg_left h2 (by omega)
    rcases List.mem_cons.mp hd with rfl | hd
    · rw [pow_two_mul]
      rcases hb with rfl | rfl <;> rcases ha with rfl | rfl <;> omega
    · exact figs_pairUp hW (fun x hx => h x (.tail _ (.tail _ hx))) d hd
theorem pairUp_length {W : Nat} : ∀ {l : List Int}, (pairUp W l).length ≤ l.length
  | [] => Nat.le_refl _
  | [_] => Nat.le_refl _
  | _ :: _ :: l => by
    have := pairUp_length (W := W) (l := l)
    simp only [pairUp, List.length_cons]; omega
/-- a one laid on top -/
theorem or_top {n : Nat} : ∀ {l : List Int}, Figs n l → Builtin.bitOr (dval n l) (1 * 2 ^ (n * l.length)) = dval n (l ++ [1])
  | [], _ => by simp only [dval, List.length_nil, Nat.mul_zero, Int.pow_zero, List.nil_append]; rw [show Builtin.bitOr 0 (1 * 1) = 1 from rfl]; simp
  | d :: l, h => by
    have hl : Figs n l := fun x hx => h x (.tail _ hx)
    obtain ⟨d0, d1⟩ := h d (.head _)
    have eT : (1 : Int) * 2 ^ (n * (l.length + 1)) = 0 + 1 * 2 ^ (n * l.length) * 2 ^ n := by
      rw [Nat.mul_succ, Int.pow_add, Int.one_mul, Int.one_mul, Int.zero_add]
    rw [List.length_cons, eT, dval, List.cons_append, dval, ← or_top hl, bitOr_low d0 d1 (Int.le_refl 0) (pow2_pos n) (dval_bounds hl).1 (by rw [Int.one_mul]; exact Int.le_of_lt (pow2_pos _))]
    congr 1
    rw [bitOr_and, show Builtin.bitAnd d 0 = 0 from by unfold Builtin.bitAnd; split <;> simp_all]; omega
theorem or_pairs {W : Nat} {l : List Int} (h : ∀ x ∈ l, x = 0 ∨ x = 1) (hW : 1 ≤ W) (he : l.length % 2 = 0) :
    digs (2 * W) (ndig (2 * W) (Builtin.bitOr (dval W l) (1 * 2 ^ (W * l.length))).toNat) (Builtin.bitOr (dval W l) (1 * 2 ^ (W * l.length))).toNat = pairUp W l ++ [1] := by
  rw [or_top (figs_bits hW h), ← dval_pairUp he, digs_snoc (by omega) (figs_pairUp hW h)]
end Plain5
theorem set_back_Plain5_z : True := by first | walk1 | trivial
-- Plain6
section Plain6
open PySem PySem.Spec PySem.Calls PySem.W PyProof.Rows PySem.StrLaws PySem.Builtin.Str
set_option maxRecDepth 100000
/-- the figures of a text -/
abbrev cp (x : Str) : List Nat := x.cps.toList
abbrev dots : Str := Str.ofString "..."
theorem cp_dots : cp dots = [46, 46, 46] := by decide +kernel
theorem dots_ln : dots.length = 3 := by decide +kernel
theorem cp_empty : cp (Str.ofString "") = [] := by decide +kernel
theorem empty_eq : Str.ofString "" = Str.empty := PySem.Str.ext' (Array.toList_inj.mp cp_empty)
theorem cp_inj {x y : Str} (h : cp x = cp y) : x = y := PySem.Str.ext' (Array.toList_inj.mp h)
theorem cp_app (x y : Str) : cp (x ++ y) = cp x ++ cp y := by simp [cp, PySem.Str.cps_append]
theorem cp_len (x : Str) : (cp x).length = x.length := by simp [cp, Str.length]
theorem sub_iff {x y : Str} {i : Nat} : subAt x y i = true ↔ ((cp x).drop i).take y.length = cp y := by
  rw [subAt_eq, beq_iff_eq]
theorem sub_app {x y : Str} {a b : List Nat} (h : cp x = a ++ cp y ++ b) : subAt x y a.length = true := by
  rw [sub_iff, h, List.append_assoc, List.drop_left, List.take_left' (cp_len y)]
theorem at_dots {x : Str} {hi k : Nat} (h : At x dots hi k) : (cp x)[k]? = some 46 := by
  have h2 := sub_iff.mp h.2
  rw [cp_dots, dots_ln] at h2
  have h3 : (((cp x).drop k).take 3)[0]? = some 46 := by rw [h2]; rfl
  rw [List.getElem?_take_of_lt (by decide), List.getElem?_drop] at h3
  exact h3
/-- no dot in a text -/
def NoDot (x : Str) : Prop := 46 ∉ cp x
theorem not_at {x w : Str} {pre post : List Nat} {hi k : Nat} (hx : cp x = pre ++ cp w ++ post) (hw : NoDot w) (h1 : pre.length ≤ k) (h2 : k < pre.length + w.length) : ¬ At x dots hi k := by
  intro h
  have h3 := at_dots h
  rw [hx, List.append_assoc, List.getElem?_append_right h1, List.getElem?_append_left (by rw [cp_len]; omega)] at h3
  exact hw (List.mem_of_getElem? h3)
theorem join_one (w : Str) : Str.join dots [w] = w := rfl
theorem join_two (w v : Str) (r : List Str) : Str.join dots (w :: v :: r) = w ++ dots ++ Str.join dots (v :: r) := rfl
theorem parts_join (x : Str) : ∀ (ws : List Str) (pre : List Nat) (cuts : List Nat) (f : Nat), ws ≠ [] → (∀ w ∈ ws, NoDot w) → cp x = pre ++ cp (Str.join dots ws) → ChainG x dots x.length pre.length cuts f → (∀ k, f ≤ k → ¬ At x dots x.length k) → partsFrom x dots.length pre.length cuts = ws
  | [], _, _, _, h, _, _, _, _ => absurd rfl h
  | [w], pre, cuts, f, _, hn, hx, hc, hf => by
    rw [join_one] at hx
    have hx' : cp x = pre ++ cp w ++ [] := by rw [hx, List.append_nil]
    have hlen : x.length = pre.length + w.length := by rw [← cp_len, hx, List.length_append, cp_len]
    cases cuts with
    | nil =>
      show [strSub x pre.length x.length] = [w]
      congr 1
      apply cp_inj
      rw [cp, strSub_toList]
      show ((cp x).drop _).take _ = _
      rw [hx, List.drop_left, List.take_of_length_le (by rw [cp_len]; omega)]
    | cons c r =>
      exfalso
      have hA := hc.2.1
      have h1 := hA.1
      rw [dots_ln] at h1
      exact not_at hx' (hn w (.head _)) hc.1 (by omega) hA
  | w :: v :: r, pre, cuts, f, _, hn, hx, hc, hf => by
    rw [join_two] at hx
    have hx1 : cp x = pre ++ cp w ++ (cp dots ++ cp (Str.join dots (v :: r))) := by rw [hx, cp_app, cp_app]; simp
    have hx2 : cp x = (pre ++ cp w ++ cp dots) ++ cp (Str.join dots (v :: r)) := by rw [hx1]; simp
    have hx3 : cp x = (pre ++ cp w) ++ cp dots ++ cp (Str.join dots (v :: r)) := hx2
    have hlen : x.length = pre.length + w.length + 3 + (Str.join dots (v :: r)).length := by
      rw [← cp_len, hx2, List.length_append, List.length_append, List.length_append, cp_len, cp_len, cp_len, dots_ln]
    have hAt : At x dots x.length (pre.length + w.length) := by
      refine ⟨by rw [dots_ln]; omega, ?_⟩
      have := sub_app hx3
      rwa [List.length_append, cp_len] at this
    cases cuts with
    | nil =>
      have e : f = pre.length := hc
      exact absurd hAt (hf _ (by omega))
    | cons c cr =>
      obtain ⟨c1, c2, c3, c4⟩ := hc
      have hce : c = pre.length + w.length := by
        rcases Nat.lt_trichotomy c (pre.length + w.length) with h | h | h
        · exact absurd c2 (not_at hx1 (hn w (.head _)) c1 h)
        · exact h
        · exact absurd hAt (c3 _ (by omega) h)
      subst hce
      show strSub x pre.length (pre.length + w.length) :: partsFrom x dots.length (pre.length + w.length + dots.length) cr = _
      have hpl : pre.length + w.length + dots.length = (pre ++ cp w ++ cp dots).length := by rw [List.length_append, List.length_append, cp_len, cp_len]
      rw [hpl] at c4 ⊢
      rw [parts_join x (v :: r) _ cr f (by simp) (fun z hz => hn z (.tail _ hz)) hx2 c4 hf]
      congr 1
      apply cp_inj
      rw [cp, strSub_toList]
      show ((cp x).drop _).take _ = _
      rw [hx1, List.append_assoc, List.drop_left, List.take_left' (by rw [cp_len]; omega)]
theorem txt_join (ws : List Str) : Txt.join dots ws = Str.join dots ws := glued_eq_join _ _
theorem dots_kind (x : Str) : ¬ PySem.Builtin.Str.strKind x < PySem.Builtin.Str.strKind dots := by
  have h1 : PySem.Builtin.Str.strKind dots ≤ PySem.Builtin.Str.strKind x := by
    have e : PySem.Builtin.Str.strKind dots = PySem.Builtin.Str.strKind ⟨#[]⟩ := by decide +kernel
    rw [e]
    unfold PySem.Builtin.Str.strKind
    simp only [Array.all_empty, if_true]
    split
    · omega
    · split <;> omega
  omega
theorem split_join {ws : List Str} (hne : ws ≠ []) (hn : ∀ w ∈ ws, NoDot w) : Txt.split (Txt.join dots ws) dots = ws := by
  obtain ⟨f, hG, hf⟩ := occ_tight (Str.join dots ws) dots (by rw [dots_ln]; decide)
  rw [txt_join]
  have key := fun cuts h => parts_join (Str.join dots ws) ws [] cuts f hne hn rfl h hf
  have one : ∀ c : Bool, c = true → occurrences (Str.join dots ws) dots 0 (Str.join dots ws).length ((Str.join dots ws).length + 1) = [] → [Str.join dots ws] = ws := fun _ _ e => by
    rw [e] at hG
    refine Eq.trans ?_ (key [] hG)
    show _ = [strSub _ 0 _]
    rw [sub_whole]
  unfold Txt.split
  split
  · rename_i hc
    rw [Bool.or_eq_true, decide_eq_true_eq, decide_eq_true_eq] at hc
    rcases hc with hc | hc
    · refine one true rfl ?_
      cases ho : occurrences (Str.join dots ws) dots 0 (Str.join dots ws).length ((Str.join dots ws).length + 1) with
      | nil => rfl
      | cons c r =>
        rw [ho] at hG
        have := hG.2.1.1
        omega
    · exact absurd hc (dots_kind _)
  · split
    · rename_i he
      exact one true rfl (List.isEmpty_iff.mp he)
    · rw [partsBetween_eq]
      exact key _ hG
theorem occ_empty {x : Str} : (occurrences x dots 0 x.length 1).isEmpty = true ↔ ∀ k, ¬ At x dots x.length k := by
  have h := found_iff x dots
  constructor
  · intro he k hk
    have := h.mpr ⟨k, hk⟩
    rw [he] at this
    exact absurd this (by decide)
  · intro hn
    cases hc : (occurrences x dots 0 x.length 1).isEmpty with
    | true => rfl
    | false =>
      rw [hc] at h
      obtain ⟨k, hk⟩ := h.mp rfl
      exact absurd hk (hn k)
theorem inn_join {ws : List Str} (hne : ws ≠ []) (hn : ∀ w ∈ ws, NoDot w) : (occurrences (Txt.join dots ws) dots 0 (Txt.join dots ws).length 1).isEmpty = (ws.length == 1) := by
  rw [txt_join]
  match ws, hne, hn with
  | [w], _, hn =>
    refine (occ_empty.mpr fun k hk => ?_).trans rfl
    have h1 := hk.1
    rw [dots_ln] at h1
    rw [join_one] at hk h1
    exact not_at (pre := []) (post := []) (by simp) (hn w (.head _)) (Nat.zero_le _) (by simp; omega) hk
  | w :: v :: r, _, hn =>
    have hx3 : cp (Str.join dots (w :: v :: r)) = cp w ++ cp dots ++ cp (Str.join dots (v :: r)) := by rw [join_two, cp_app, cp_app]
    cases hc : (occurrences (Str.join dots (w :: v :: r)) dots 0 (Str.join dots (w :: v :: r)).length 1).isEmpty with
    | false => simp
    | true =>
      refine absurd ⟨?_, sub_app hx3⟩ (occ_empty.mp hc (cp w).length)
      rw [← cp_len, ← cp_len (Str.join _ _), hx3]
      simp
/-- find: the first place, or none -/
theorem find4_spec {y w : Str} {a b : Nat} (hb : b ≤ y.length) :
    (find4 y w a b < 0 ∧ ∀ i, a ≤ i → ¬ At y w b i) ∨ (∃ i : Nat, find4 y w a b = (i : Int) ∧ a ≤ i ∧ At y w b i ∧ ∀ k, a ≤ k → k < i → ¬ At y w b k) := by
  have ea : fromIndex y.length (a : Int) = a := by unfold fromIndex; rw [if_neg (by omega)]; omega
  have eb : fromIndex y.length (b : Int) = b := by unfold fromIndex; rw [if_neg (by omega)]; omega
  unfold find4
  rw [ea, eb, Nat.min_eq_left hb, occ_eq]
  rcases occ_first y w b 1 (Nat.le_refl 1) (List.range' a (b + 1 - a)) a (fun i hi => by have := List.mem_range'_1.mp hi; omega) with ⟨h0, hn⟩ | ⟨pre, c, post, e, h0, hc, hn⟩
  · rw [h0]
    refine .inl ⟨by show (-1 : Int) < 0; decide, fun i h1 h2 => ?_⟩
    exact hn i (by have := h2.1; rw [List.mem_range'_1]; omega) h2
  · have hs := range'_split_from e
    refine .inr ⟨c, ?_, hs.1, hc, fun k hk0 hk => hn k (hs.2 k hk0 hk)⟩
    generalize (forIn (List.range' a (b + 1 - a)) ((#[] : Array Nat), a) (occBody y w b 1)).run.fst = arr at h0
    have h1 : arr.toList[0]? = some c := by simpa using h0
    cases hL : arr.toList with
    | nil => rw [hL] at h1; cases h1
    | cons d t => rw [hL] at h1; simp at h1; rw [h1]
theorem sub_empty {y w : Str} (hw : w.length = 0) (i : Nat) : subAt y w i = true := by
  rw [sub_iff, hw, List.take_zero]
  exact (List.length_eq_zero_iff.mp (by rw [cp_len, hw])).symm
theorem loop_cons {y w : Str} {r : List Str} {a b : Nat} (hb : b ≤ y.length) :
    (ellLoop y b (w :: r) a = false ∧ ∀ i, a ≤ i → ¬ At y w b i) ∨ (∃ i : Nat, ellLoop y b (w :: r) a = ellLoop y b r ((i + w.length : Nat) : Int) ∧ a ≤ i ∧ At y w b i ∧ ∀ k, a ≤ k → k < i → ¬ At y w b k) := by
  rcases find4_spec (y := y) (w := w) (a := a) hb with ⟨h1, h2⟩ | ⟨i, h1, h2, h3, h4⟩
  · exact .inl ⟨by unfold ellLoop; rw [if_pos h1], h2⟩
  · refine .inr ⟨i, ?_, h2, h3, h4⟩
    conv => lhs; unfold ellLoop
    rw [if_neg (by rw [h1]; omega), h1]; rfl
theorem loop_empty {y w : Str} {r : List Str} {a b : Nat} (hb : b ≤ y.length) (hab : a ≤ b) (hw : w.length = 0) : ellLoop y b (w :: r) a = ellLoop y b r a := by
  rcases loop_cons (y := y) (w := w) (r := r) (a := a) hb with ⟨_, h2⟩ | ⟨i, h1, h2, h3, h4⟩
  · exact absurd ⟨by omega, sub_empty hw a⟩ (h2 a (Nat.le_refl _))
  · have : i = a := by
      rcases Nat.lt_or_ge a i with h | h
      · exact absurd ⟨by omega, sub_empty hw a⟩ (h4 a (Nat.le_refl _) h)
      · omega
    rw [h1, hw, this, Nat.add_zero]
theorem loop_snoc {y q : Str} {b : Nat} (hb : b ≤ y.length) (hq : q.length = 0) : ∀ (mid : List Str) {a : Nat}, a ≤ b → ellLoop y b (mid ++ [q]) a = ellLoop y b mid a
  | [], a, ha => by rw [List.nil_append, loop_empty hb ha hq]
  | w :: r, a, ha => by
    rw [List.cons_append]
    rcases find4_spec (y := y) (w := w) (a := a) hb with ⟨h1, h2⟩ | ⟨i, h1, h2, h3, h4⟩
    · unfold ellLoop; rw [if_pos h1, if_pos h1]
    · unfold ellLoop
      rw [if_neg (by rw [h1]; omega), if_neg (by rw [h1]; omega), h1]
      exact loop_snoc hb hq r (a := i + w.length) h3.1
theorem loop_one {y w : Str} {a b : Nat} (hb : b ≤ y.length) : ellLoop y b [w] a = true ↔ ∃ i, a ≤ i ∧ At y w b i := by
  rcases loop_cons (y := y) (w := w) (r := []) (a := a) hb with ⟨h1, h2⟩ | ⟨i, h1, h2, h3, h4⟩
  · rw [h1]
    exact ⟨fun h => absurd h (by decide), fun ⟨i, h, k⟩ => absurd k (h2 i h)⟩
  · rw [h1]
    exact ⟨fun _ => ⟨i, h2, h3⟩, fun _ => rfl⟩
theorem starts_iff {y p : Str} : Txt.startswith y p = true ↔ p.length ≤ y.length ∧ (cp y).take p.length = cp p := by
  unfold Txt.startswith
  rw [Bool.and_eq_true, decide_eq_true_eq, sub_iff, List.drop_zero, Nat.zero_add]
theorem ends_iff {y q : Str} : Txt.endswith y q = true ↔ q.length ≤ y.length ∧ (cp y).drop (y.length - q.length) = cp q := by
  unfold Txt.endswith
  rw [Bool.and_eq_true, decide_eq_true_eq, sub_iff, Nat.zero_add]
  constructor
  · rintro ⟨h1, h2⟩
    refine ⟨h1, ?_⟩
    rw [← h2, List.take_of_length_le]
    rw [List.length_drop, cp_len]; omega
  · rintro ⟨h1, h2⟩
    refine ⟨h1, ?_⟩
    rw [h2, List.take_of_length_le]
    rw [cp_len]; exact Nat.le_refl _
theorem starts_empty {y p : Str} (h : p.length = 0) : Txt.startswith y p = true := by
  rw [starts_iff, h]
  exact ⟨Nat.zero_le _, by rw [List.take_zero]; exact (List.length_eq_zero_iff.mp (by rw [cp_len, h])).symm⟩
theorem ends_empty {y p : Str} (h : p.length = 0) : Txt.endswith y p = true := by
  rw [ends_iff, h]
  exact ⟨Nat.zero_le _, by rw [Nat.sub_zero, List.drop_of_length_le (by rw [cp_len]; exact Nat.le_refl _)]; exact (List.length_eq_zero_iff.mp (by rw [cp_len, h])).symm⟩
theorem ellM_eq (y p : Str) (mid : List Str) (q : Str) : ellM y p mid q = (Txt.startswith y p && Txt.endswith y q && decide (p.length + q.length ≤ y.length) && ellLoop y ((y.length - q.length : Nat) : Int) mid ((p.length : Nat) : Int)) := by
  have fin : ∀ (ws : List Str) (a b : Nat), ellFin y ws a b = (decide (a ≤ b) && ellLoop y b ws a) := fun ws a b => by
    unfold ellFin
    by_cases h : a ≤ b
    · rw [if_neg (by omega), decide_eq_true h, Bool.true_and]
    · rw [if_pos (by omega), decide_eq_false h, Bool.false_and]
  unfold ellM
  by_cases hp : p.length = 0
  · rw [if_pos hp, starts_empty hp, Bool.true_and]
    unfold ellEnd
    by_cases hq : q.length = 0
    · rw [if_pos hq, ends_empty hq, Bool.true_and, hp, hq]
      have := fin (p :: (mid ++ [q])) 0 y.length
      rw [loop_empty (Nat.le_refl _) (Nat.zero_le _) hp, loop_snoc (Nat.le_refl _) hq mid (Nat.zero_le _)] at this
      simpa using this
    · rw [if_neg hq]
      cases he : Txt.endswith y q with
      | false => simp
      | true =>
        have h1 := (ends_iff.mp he).1
        have := fin (p :: mid) 0 (y.length - q.length)
        rw [loop_empty (Nat.sub_le _ _) (Nat.zero_le _) hp] at this
        rw [if_pos rfl, List.dropLast_cons_of_ne_nil (by simp), List.dropLast_concat, hp, Bool.true_and, decide_eq_true (by omega), Bool.true_and]
        rw [Int.ofNat_sub h1] at this ⊢
        rw [decide_eq_true (Nat.zero_le _), Bool.true_and] at this
        exact this
  · rw [if_neg hp]
    cases hs : Txt.startswith y p with
    | false => simp
    | true =>
      have h0 := (starts_iff.mp hs).1
      rw [if_pos rfl, Bool.true_and]
      unfold ellEnd
      by_cases hq : q.length = 0
      · rw [if_pos hq, ends_empty hq, Bool.true_and, hq]
        have := fin (mid ++ [q]) p.length y.length
        rw [loop_snoc (Nat.le_refl _) hq mid h0] at this
        simpa using this
      · rw [if_neg hq]
        cases he : Txt.endswith y q with
        | false => simp
        | true =>
          have h1 := (ends_iff.mp he).1
          have := fin mid p.length (y.length - q.length)
          rw [if_pos rfl, List.dropLast_concat, Bool.true_and]
          rw [Int.ofNat_sub h1] at this ⊢
          rw [this]
          congr 1
          rw [Bool.eq_iff_iff, decide_eq_true_eq, decide_eq_true_eq]; omega
end Plain6
-- Plain7
section Plain7
open PySem PySem.Spec PySem.Calls PySem.W PyProof.Rows PySem.StrLaws PySem.Builtin.Str
set_option maxRecDepth 100000
def chr (sg : Str) (n : Int) : Nat := (Txt.charAt sg n).getD 0
/-- two signs, neither of them a dot -/
structure Signs (sg : Str) : Prop where
  len : sg.length = 2
  ne : chr sg 0 ≠ chr sg 1
  d0 : chr sg 0 ≠ 46
  d1 : chr sg 1 ≠ 46
  all : cp sg = [chr sg 0, chr sg 1]
def Bits (ws : List Int) : Prop := ∀ x ∈ ws, x = 0 ∨ x = 1
theorem join_nil (sep : Str) (h : cp sep = []) : ∀ ws : List Str, cp (Str.join sep ws) = (ws.map cp).flatten
  | [] => rfl
  | [x] => by simp [Str.join]
  | x :: y :: r => by
    show cp (x ++ sep ++ Str.join sep (y :: r)) = _
    rw [cp_app, cp_app, h, join_nil sep h (y :: r)]
    simp
theorem cp_text (sg : Str) (ws : List Int) : cp (textOf sg ws) = ws.map (chr sg) := by
  unfold textOf
  rw [show Txt.join (Str.ofString "") (ws.map (signAt sg)) = Str.join (Str.ofString "") (ws.map (signAt sg)) from glued_eq_join _ _, join_nil _ cp_empty, List.map_map]
  induction ws with
  | nil => rfl
  | cons a r ih =>
    rw [List.map_cons, List.map_cons, List.flatten_cons, ih]
    rfl
theorem text_len (sg : Str) (ws : List Int) : (textOf sg ws).length = ws.length := by rw [← cp_len, cp_text, List.length_map]
theorem text_app (sg : Str) (a b : List Int) : textOf sg (a ++ b) = textOf sg a ++ textOf sg b := cp_inj (by rw [cp_app, cp_text, cp_text, cp_text, List.map_append])
theorem chr_bit {sg : Str} (h : Signs sg) {x : Int} (hx : x = 0 ∨ x = 1) : chr sg x ≠ 46 := by
  rcases hx with rfl | rfl
  · exact h.d0
  · exact h.d1
theorem nodot_map {sg : Str} (h : Signs sg) {ws : List Int} (hw : Bits ws) : 46 ∉ ws.map (chr sg) := by
  intro hm
  obtain ⟨x, hx, e⟩ := List.mem_map.mp hm
  exact chr_bit h (hw x hx) e
theorem nodot_text {sg : Str} (h : Signs sg) {ws : List Int} (hw : Bits ws) : NoDot (textOf sg ws) := by
  unfold NoDot
  rw [cp_text]
  exact nodot_map h hw
theorem chr_inj {sg : Str} (h : Signs sg) {x y : Int} (hx : x = 0 ∨ x = 1) (hy : y = 0 ∨ y = 1) (e : chr sg x = chr sg y) : x = y := by
  rcases hx with rfl | rfl <;> rcases hy with rfl | rfl
  · rfl
  · exact absurd e h.ne
  · exact absurd e.symm h.ne
  · rfl
theorem map_inj {sg : Str} (h : Signs sg) : ∀ {a b : List Int}, Bits a → Bits b → a.map (chr sg) = b.map (chr sg) → a = b
  | [], [], _, _, _ => rfl
  | [], _ :: _, _, _, e => by simp at e
  | _ :: _, [], _, _, e => by simp at e
  | x :: a, y :: b, ha, hb, e => by
    rw [List.map_cons, List.map_cons, List.cons.injEq] at e
    rw [chr_inj h (ha x (.head _)) (hb y (.head _)) e.1, map_inj h (fun z hz => ha z (.tail _ hz)) (fun z hz => hb z (.tail _ hz)) e.2]
theorem map_beq {sg : Str} (h : Signs sg) {a b : List Int} (ha : Bits a) (hb : Bits b) : (a.map (chr sg) = b.map (chr sg)) ↔ a = b := ⟨map_inj h ha hb, fun e => by rw [e]⟩
theorem Bits.take {ws : List Int} (h : Bits ws) (n : Nat) : Bits (ws.take n) := fun x hx => h x (List.mem_of_mem_take hx)
theorem Bits.drop {ws : List Int} (h : Bits ws) (n : Nat) : Bits (ws.drop n) := fun x hx => h x (List.mem_of_mem_drop hx)
theorem Bits.app {a b : List Int} (ha : Bits a) (hb : Bits b) : Bits (a ++ b) := fun x hx => (List.mem_append.mp hx).elim (ha x) (hb x)
theorem bits_ends {f : List Int} (h : f ∈ ENDS) : f.length ≤ 2 ∧ Bits f := by
  unfold ENDS at h
  simp only [List.mem_cons, List.not_mem_nil, or_false] at h
  rcases h with rfl | rfl | rfl | rfl | rfl <;> simp [Bits]
theorem bits_dbl : ∀ {ws : List Int}, Bits ws → Bits (dbl ws) := by
  intro ws
  induction ws with
  | nil => intro _ x hx; exact nomatch hx
  | cons a r ih =>
    intro h x hx
    have ha := h a (.head _)
    simp only [dbl, List.mem_cons] at hx
    rcases hx with rfl | rfl | hx
    · exact ha
    · rcases ha with rfl | rfl <;> simp
    · exact ih (fun z hz => h z (.tail _ hz)) x hx
/-- where a word stands in another -/
theorem sub_text {sg : Str} (h : Signs sg) {ws v : List Int} (hw : Bits ws) (hv : Bits v) {i : Nat} : subAt (textOf sg ws) (textOf sg v) i = true ↔ (ws.drop i).take v.length = v := by
  rw [sub_iff, cp_text, cp_text, text_len, ← List.map_drop, ← List.map_take, map_beq h ((hw.drop i).take _) hv]
theorem starts_text {sg : Str} (h : Signs sg) {ws v : List Int} (hw : Bits ws) (hv : Bits v) : Txt.startswith (textOf sg ws) (textOf sg v) = true ↔ v.length ≤ ws.length ∧ ws.take v.length = v := by
  rw [starts_iff, text_len, text_len, cp_text, cp_text, ← List.map_take, map_beq h (hw.take _) hv]
theorem ends_text {sg : Str} (h : Signs sg) {ws v : List Int} (hw : Bits ws) (hv : Bits v) : Txt.endswith (textOf sg ws) (textOf sg v) = true ↔ v.length ≤ ws.length ∧ ws.drop (ws.length - v.length) = v := by
  rw [ends_iff, text_len, text_len, cp_text, cp_text, ← List.map_drop, map_beq h (hw.drop _) hv]
theorem ell_text {sg : Str} (h : Signs sg) {ws f e : List Int} (hw : Bits ws) (hf : Bits f) (he : Bits e) (hl : f.length + e.length ≤ ws.length) : ellM (textOf sg ws) (textOf sg f) [] (textOf sg e) = ((ws.take f.length == f) && (ws.drop (ws.length - e.length) == e)) := by
  rw [ellM_eq, text_len, text_len, text_len, decide_eq_true hl, Bool.and_true, Bool.eq_iff_iff, Bool.and_eq_true, Bool.and_eq_true, Bool.and_eq_true, starts_text h hw hf, ends_text h hw he, beq_iff_eq, beq_iff_eq]
  constructor
  · rintro ⟨⟨h1, h2⟩, _⟩
    exact ⟨h1.2, h2.2⟩
  · rintro ⟨h1, h2⟩
    exact ⟨⟨⟨by omega, h1⟩, ⟨by omega, h2⟩⟩, rfl⟩
theorem text_nil (sg : Str) : textOf sg [] = Str.empty := cp_inj (by rw [cp_text]; rfl)
theorem join2 (a b : Str) : a ++ Str.ofString "..." ++ b = Txt.join dots [a, b] := by rw [txt_join]; rfl
theorem join3 (a b c : Str) : a ++ Str.ofString "..." ++ (b ++ Str.ofString "..." ++ c) = Txt.join dots [a, b, c] := by rw [txt_join]; rfl
theorem two {a b : Str} (ha : NoDot a) (hb : NoDot b) : ∀ w ∈ [a, b], NoDot w := by
  intro w hw
  simp only [List.mem_cons, List.not_mem_nil, or_false] at hw
  rcases hw with rfl | rfl <;> assumption
theorem three {a b c : Str} (ha : NoDot a) (hb : NoDot b) (hc : NoDot c) : ∀ w ∈ [a, b, c], NoDot w := by
  intro w hw
  simp only [List.mem_cons, List.not_mem_nil, or_false] at hw
  rcases hw with rfl | rfl | rfl <;> assumption
theorem nodot_empty : NoDot Str.empty := by show 46 ∉ []; simp
end Plain7
-- Plain8
section Plain8
open PySem PySem.Spec PySem.Calls PySem.W PyProof.Rows PySem.StrLaws PySem.Builtin.Str
set_option maxRecDepth 100000
theorem dots_1000 : (Str.ofString "...").length ≤ 1000 := by decide +kernel
theorem fold_ok {sg : Str} (h : Signs sg) {ws f e : List Int} (hc : Bits ws) (h3 : 4 ≤ ws.length) (h6 : ws.length ≤ 20) (hf : f ∈ ENDS) (he : e ∈ ENDS) : FoldOk sg ws f e := by
  obtain ⟨f2, fb⟩ := bits_ends hf
  obtain ⟨e2, eb⟩ := bits_ends he
  have nd := two (nodot_text h fb) (nodot_text h eb)
  have d3 : (Str.ofString "...").length = 3 := dots_ln
  refine ⟨?_, ?_, ?_, ?_, ?_, ?_, ?_, ?_⟩
  · rw [PySem.Str.length_append, PySem.Str.length_append, text_len, text_len, d3]; omega
  · rw [join2]; exact split_join (by simp) nd
  · rw [join2, inn_join (by simp) nd]; rfl
  · rw [text_len]; omega
  · rw [text_len]; omega
  · rw [text_len]; omega
  · rw [PySem.Str.length_append, text_len, d3]; omega
  · rw [ell_text h hc fb eb (by omega)]; rfl
theorem dbl_len : ∀ ws : List Int, (dbl ws).length = 2 * ws.length
  | [] => rfl
  | a :: r => by
    have := dbl_len r
    simp only [dbl, List.length_cons, this]; omega
theorem emp (x : Str) : Str.empty ++ x = x := PySem.Str.empty_append x
theorem turn_join (b : Str) : Str.ofString "..." ++ b ++ Str.ofString "..." = Txt.join dots [Str.empty, b, Str.empty] := by
  rw [txt_join]
  show _ = Str.empty ++ dots ++ (b ++ dots ++ Str.empty)
  rw [emp, PySem.Str.append_empty, PySem.Str.append_assoc]
theorem nodot_emp : NoDot Str.empty := nodot_empty
theorem mul_cps (x : Str) : ∀ (n : Nat) (a : Array Nat), ((List.replicate n x.cps).foldl (· ++ ·) a).toList = a.toList ++ (List.replicate n (cp x)).flatten
  | 0, a => by simp
  | n + 1, a => by
    rw [List.replicate_succ, List.foldl_cons, mul_cps x n, List.replicate_succ, List.flatten_cons, Array.toList_append, List.append_assoc]
theorem cp_mul (x : Str) (n : Nat) : cp (Txt.mul x (n : Int)) = (List.replicate n (cp x)).flatten := by
  unfold Txt.mul
  split
  · have : n = 0 := by omega
    subst this; rfl
  · split
    · rename_i h1 h2
      rw [Bool.or_eq_true, beq_iff_eq, beq_iff_eq] at h2
      rcases h2 with h2 | h2
      · have : n = 1 := by omega
        subst this; simp
      · have e : cp x = [] := List.length_eq_zero_iff.mp (by rw [cp_len, h2])
        rw [e]; simp
    · show ((List.replicate (n : Int).toNat x.cps).foldl (· ++ ·) #[]).toList = _
      rw [mul_cps, Int.toNat_natCast]; rfl
def altW : Nat → List Int
  | 0 => []
  | n + 1 => 0 :: 1 :: altW n
theorem altW_len : ∀ n, (altW n).length = 2 * n
  | 0 => rfl
  | n + 1 => by have := altW_len n; simp only [altW, List.length_cons, this]; omega
theorem altW_bits : ∀ n, Bits (altW n)
  | 0 => fun _ h => nomatch h
  | n + 1 => fun x hx => by
    simp only [altW, List.mem_cons] at hx
    rcases hx with rfl | rfl | hx
    · exact .inl rfl
    · exact .inr rfl
    · exact altW_bits n x hx
theorem mul_text {sg : Str} (h : Signs sg) (n : Nat) : Txt.mul sg (n : Int) = textOf sg (altW n) := by
  apply cp_inj
  rw [cp_mul, cp_text, h.all]
  induction n with
  | zero => rfl
  | succ n ih => rw [List.replicate_succ, List.flatten_cons, ih]; rfl
/-- what the walk needs of the want in which both signs go by turns -/
structure TurnOk (sg : Str) (mid : List Int) (n : Int) : Prop where
  len : (Str.ofString "..." ++ textOf sg mid ++ Str.ofString "...").length ≤ 1000
  len2 : (Str.ofString "..." ++ textOf sg mid).length ≤ 1000
  l1 : (textOf sg mid).length ≤ 1000
  mlen : (Txt.mul sg n).length ≤ 1000
  split : Txt.split (Str.ofString "..." ++ textOf sg mid ++ Str.ofString "...") (Str.ofString "...") = [Str.empty, textOf sg mid, Str.empty]
  inn : (Builtin.Str.occurrences (Str.ofString "..." ++ textOf sg mid ++ Str.ofString "...") (Str.ofString "...") 0 (Str.ofString "..." ++ textOf sg mid ++ Str.ofString "...").length 1).isEmpty = false
theorem turn_ok {sg : Str} (h : Signs sg) {mid : List Int} (hm : Bits mid) (hl : mid.length ≤ 20) {n : Int} (h0 : 0 ≤ n) (h1 : n ≤ 20) : TurnOk sg mid n := by
  have nd := three nodot_emp (nodot_text h hm) nodot_emp
  have d3 : (Str.ofString "...").length = 3 := dots_ln
  obtain ⟨k, rfl⟩ := Int.eq_ofNat_of_zero_le h0
  refine ⟨?_, ?_, ?_, ?_, ?_, ?_⟩
  · rw [PySem.Str.length_append, PySem.Str.length_append, text_len, d3]; omega
  · rw [PySem.Str.length_append, text_len, d3]; omega
  · rw [text_len]; omega
  · rw [mul_text h, text_len, altW_len]; omega
  · rw [turn_join]; exact split_join (by simp) nd
  · rw [turn_join, inn_join (by simp) nd]; rfl
theorem signs_ok {sg : Str} (h : sg ∈ [Str.ofString "ab", Str.ofString "b\n", Str.ofString "* ", Str.ofString "[\\"]) : Signs sg := by
  simp only [List.mem_cons, List.not_mem_nil, or_false] at h
  rcases h with rfl | rfl | rfl | rfl <;> exact ⟨by decide +kernel, by decide +kernel, by decide +kernel, by decide +kernel, by decide +kernel⟩
theorem pick_eq (ws : List Int) : pickI ws (some 1) (some (-1)) = (ws.drop (min 1 ws.length)).take (ws.length - 1 - min 1 ws.length) := by
  unfold pickI
  have h1 : kms_lo (some 1) ws.length = min 1 ws.length := rfl
  have h2 : kms_hi (some (-1)) ws.length = ws.length - 1 := rfl
  rw [h1, h2]
theorem pick_bits {ws : List Int} (h : Bits ws) : Bits (pickI ws (some 1) (some (-1))) := by
  rw [pick_eq]; exact (h.drop _).take _
theorem pick_len {ws : List Int} (h : ws.length ≤ 16) : (pickI ws (some 1) (some (-1))).length ≤ 20 := by
  rw [pick_eq, List.length_take]; exact Nat.le_trans (Nat.min_le_left _ _) (sub_le_of (sub_le_of (Nat.le_trans h (by decide))))
/-- pieces without dots, put together with dots, split again -/
theorem ell_ok {ws : List Str} (hne : ws ≠ []) (hn : ∀ w ∈ ws, NoDot w) (hl : ws.length ≤ 4) (hs : ∀ w ∈ ws, w.length ≤ 100) : EllOk ws := by
  refine ⟨?_, split_join hne hn, inn_join hne hn⟩
  rw [txt_join]
  have h1 := PySem.StrLaws.join_length_le dots ws
  have h2 := PySem.StrLaws.sumLen_le ws hs
  have d3 : dots.length = 3 := dots_ln
  have h3 : ws.length * 100 ≤ 4 * 100 := Nat.mul_le_mul_right _ hl
  have h4 : ws.length * dots.length ≤ 4 * 3 := by rw [d3]; exact Nat.mul_le_mul_right _ hl
  omega
end Plain8
-- Plain9
section Plain9
open PySem PySem.Spec PySem.Calls PySem.W PyProof.Rows PySem.StrLaws PySem.Builtin.Str
set_option maxRecDepth 100000
theorem slice_tail {sg : Str} {ws : List Int} (h : 1 ≤ ws.length) : Txt.slice (textOf sg ws) (some 1) none = textOf sg (ws.drop 1) := by
  apply cp_inj
  have hl : (textOf sg ws).cps.toList.length = ws.length := by rw [← text_len sg ws, ← cp_len]
  have e := sliceText_from (x := textOf sg ws) (i := 1) ⟨by decide, by rw [hl]; omega⟩
  rw [show Txt.slice (textOf sg ws) (some 1) none = sliceText (textOf sg ws) (some 1) none from rfl, e, cp_text, List.map_drop, ← cp_text]
  show ((cp (textOf sg ws)).drop 1).take _ = _
  rw [List.take_of_length_le]
  rw [List.length_drop, cp_len, text_len]; omega
theorem slice_front {sg : Str} {ws : List Int} (h : 1 ≤ ws.length) : Txt.slice (textOf sg ws) none (some (-1)) = textOf sg (ws.take (ws.length - 1)) := by
  apply cp_inj
  have e := sliceText_to_neg (x := textOf sg ws) (j := -1) (by decide) (by rw [text_len]; omega)
  rw [show Txt.slice (textOf sg ws) none (some (-1)) = sliceText (textOf sg ws) none (some (-1)) from rfl, e, cp_text, List.map_take, ← cp_text]
  show ((cp (textOf sg ws)).drop 0).take _ = _
  rw [List.drop_zero, text_len, neg_one h]; rfl
theorem item_first {sg : Str} {ws : List Int} (h : 1 ≤ ws.length) : Txt.item (textOf sg ws) 0 = textOf sg (ws.take 1) := by
  apply cp_inj
  obtain ⟨a, r, rfl⟩ : ∃ a r, ws = a :: r := by cases ws with | nil => simp at h | cons a r => exact ⟨a, r, rfl⟩
  have e : Txt.charAt (textOf sg (a :: r)) 0 = some (chr sg a) := at_nonneg (by decide) (by
    rw [← Array.getElem?_toList]
    show (cp (textOf sg (a :: r)))[0]? = _
    rw [cp_text]; rfl)
  show [(Txt.charAt _ 0).getD 0] = _
  rw [e, cp_text]; rfl
theorem item_last {sg : Str} {ws : List Int} (h : 1 ≤ ws.length) : Txt.item (textOf sg ws) (-1) = textOf sg (ws.drop (ws.length - 1)) := by
  apply cp_inj
  have hlt : ws.length - 1 < ws.length := Nat.sub_lt h (by decide)
  have e : Txt.charAt (textOf sg ws) (-1) = some (chr sg ws[ws.length - 1]) := at_neg (by decide) (by rw [text_len]; omega) (by
    rw [text_len, ← Array.getElem?_toList, neg_one h, Int.toNat_natCast]
    show (cp (textOf sg ws))[ws.length - 1]? = _
    rw [cp_text, List.getElem?_map, List.getElem?_eq_getElem hlt]; rfl)
  show [(Txt.charAt _ (-1)).getD 0] = _
  rw [e, cp_text, List.drop_eq_getElem_cons hlt, List.drop_of_length_le (by omega)]; rfl
theorem mul_two {sg : Str} {ws : List Int} : Txt.mul (textOf sg ws) 2 = textOf sg (ws ++ ws) := by
  apply cp_inj
  have := cp_mul (textOf sg ws) 2
  rw [show ((2 : Nat) : Int) = 2 from rfl] at this
  rw [this, cp_text, cp_text, List.map_append]
  simp
theorem not_starts_false {b : Bool} (h : ¬ b = true) : b = false := by cases b <;> simp_all
theorem judge_ok {sg : Str} (h : Signs sg) {f core e : List Int} (hf : f ∈ ENDS) (he : e ∈ ENDS) (hc : Bits core) (h3 : 3 ≤ core.length) (h6 : core.length ≤ 6) : JudgeOk (textOf sg f) (textOf sg (dbl core)) (textOf sg e) := by
  obtain ⟨f2, fb⟩ := bits_ends hf
  obtain ⟨e2, eb⟩ := bits_ends he
  have db := bits_dbl hc
  have dl := dbl_len core
  generalize dbl core = d at db dl
  have hw : Bits (f ++ d ++ e) := (fb.app db).app eb
  have hT : textOf sg f ++ textOf sg d ++ textOf sg e = textOf sg (f ++ d ++ e) := by rw [text_app, text_app]
  have hwl : (f ++ d ++ e).length = f.length + d.length + e.length := by rw [List.length_append, List.length_append]
  have hd6 : 6 ≤ d.length := by rw [dl]; exact Nat.mul_le_mul_left 2 h3
  have hd12 : d.length ≤ 12 := by rw [dl]; exact Nat.mul_le_mul_left 2 h6
  have hd1 : 1 ≤ d.length := Nat.le_trans (by decide) hd6
  have lf : f.length ≤ 100 := Nat.le_trans f2 (by decide)
  have le : e.length ≤ 100 := Nat.le_trans e2 (by decide)
  have ld : d.length ≤ 100 := Nat.le_trans hd12 (by decide)
  have lw : (f ++ d ++ e).length ≤ 100 := by rw [hwl]; exact Nat.le_trans (Nat.add_le_add (Nat.add_le_add f2 hd12) e2) (by decide)
  have hfd : f.length + d.length = (f ++ d ++ e).length - e.length := by rw [hwl, Nat.add_sub_cancel]
  have hfe : f.length + e.length ≤ (f ++ d ++ e).length := by rw [hwl]; exact Nat.add_le_add_right (Nat.le_add_right _ _) _
  have hfW := Nat.le_trans (Nat.le_add_right f.length e.length) hfe
  have heW := Nat.le_trans (Nat.le_add_left e.length f.length) hfe
  have hW1 : 1 ≤ (f ++ d ++ e).length := Nat.le_trans hd1 (by rw [hwl]; exact Nat.le_trans (Nat.le_add_left _ _) (Nat.le_add_right _ _))
  have hW0 : (f ++ d ++ e).length - 1 < (f ++ d ++ e).length := Nat.sub_lt hW1 (by decide)
  have hH : textOf sg d ++ Txt.item (textOf sg d) 0 = textOf sg (d ++ d.take 1) := by rw [item_first hd1, text_app]
  have hb : Bits (d ++ d.take 1) := db.app (db.take 1)
  have hbl : (d ++ d.take 1).length = d.length + 1 := by rw [List.length_append, List.length_take, Nat.min_eq_left hd1]
  have lb : (d ++ d.take 1).length ≤ 100 := by rw [hbl]; exact Nat.le_trans (Nat.succ_le_succ hd12) (by decide)
  have nd : ∀ {x : List Int}, Bits x → NoDot (textOf sg x) := fun hx => nodot_text h hx
  have l1 : ∀ {x : List Int}, x.length ≤ 100 → (textOf sg x).length ≤ 100 := fun hx => by rw [text_len]; exact hx
  have jn : ∀ x : Str, Txt.join (Str.ofString "...") [x] = x := fun x => (txt_join [x]).trans rfl
  have one : ∀ {x : List Int}, Bits x → x.length ≤ 100 → EllOk [textOf sg x] := fun hx hl => ell_ok (by simp) (fun w hw => by rw [List.mem_singleton.mp hw]; exact nd hx) (by simp) (fun w hw => by rw [List.mem_singleton.mp hw]; exact l1 hl)
  have hne : ∀ {x : List Int}, x.length ≠ (f ++ d ++ e).length → (Txt.join (Str.ofString "...") [textOf sg x] == textOf sg (f ++ d ++ e)) = false := fun hx => by
    rw [jn, beq_eq_false_iff_ne]
    intro q
    have := congrArg Str.length q
    rw [text_len, text_len] at this
    exact hx this
  have hell : ∀ mid, ellM (textOf sg (f ++ d ++ e)) (textOf sg f) mid (textOf sg e) = ellLoop (textOf sg (f ++ d ++ e)) (((textOf sg (f ++ d ++ e)).length - (textOf sg e).length : Nat) : Int) mid (((textOf sg f).length : Nat) : Int) := fun mid => by
    rw [ellM_eq, (starts_text h hw fb).mpr ⟨hfW, by rw [List.append_assoc, List.take_left]⟩, (ends_text h hw eb).mpr ⟨heW, ?_⟩, decide_eq_true (by rw [text_len, text_len, text_len]; exact hfe)]
    · simp
    · exact List.drop_left' (by rw [List.length_append]; exact hfd)
  refine ⟨?_, ?_, ?_, ?_, ?_, ?_, ?_, ?_, ?_, ?_, ?_, ?_, ?_, ?_, ?_⟩
  · rw [hT]; exact one hw lw
  · rw [hT, slice_tail hW1]; exact one (hw.drop 1) (by rw [List.length_drop]; exact sub_le_of lw)
  · rw [hT, slice_front hW1]; exact one (hw.take _) (by rw [List.length_take]; exact Nat.le_trans (Nat.min_le_right _ _) lw)
  · exact ell_ok (by simp) (three (nd fb) (nd db) (nd eb)) (by simp) (by
      intro w hw; simp only [List.mem_cons, List.not_mem_nil, or_false] at hw
      rcases hw with rfl | rfl | rfl <;> exact l1 (by assumption))
  · exact ell_ok (by simp) (by
      intro w hw; simp only [List.mem_cons, List.not_mem_nil, or_false] at hw
      rcases hw with rfl | rfl | rfl | rfl
      · exact nd fb
      · exact nd db
      · exact nd db
      · exact nd eb) (by simp) (by
      intro w hw; simp only [List.mem_cons, List.not_mem_nil, or_false] at hw
      rcases hw with rfl | rfl | rfl | rfl <;> exact l1 (by assumption))
  · rw [hT, item_last hW1, empty_eq]
    exact ell_ok (by simp) (three nodot_emp (nd hw) (nd (hw.drop _))) (by simp) (by
      intro w hw; simp only [List.mem_cons, List.not_mem_nil, or_false] at hw
      rcases hw with rfl | rfl | rfl
      · exact Nat.zero_le _
      · exact l1 lw
      · exact l1 (by rw [List.length_drop]; exact sub_le_of lw))
  · rw [hH]; exact ell_ok (by simp) (two (nd hb) (nd hb)) (by simp) (by
      intro w hw; simp only [List.mem_cons, List.not_mem_nil, or_false] at hw
      rcases hw with rfl | rfl <;> exact l1 lb)
  · rw [hT, jn]; exact beq_self_eq_true _
  · rw [hT, slice_tail hW1]; exact hne (by rw [List.length_drop]; exact Nat.ne_of_lt hW0)
  · rw [hT, slice_front hW1]; exact hne (by rw [List.length_take, Nat.min_eq_left (Nat.sub_le _ _)]; exact Nat.ne_of_lt hW0)
  · rw [hT, hell, loop_one (Nat.sub_le _ _)]
    refine ⟨f.length, Nat.le_of_eq (text_len sg f), ?_, (sub_text h hw db).mpr ?_⟩
    · rw [text_len, text_len, text_len]; exact Nat.le_of_eq hfd
    · rw [List.append_assoc, List.drop_left, List.take_left]
  · rw [hT, hell]
    rcases loop_cons (y := textOf sg (f ++ d ++ e)) (w := textOf sg d) (r := [textOf sg d]) (a := (textOf sg f).length) (b := (textOf sg (f ++ d ++ e)).length - (textOf sg e).length) (Nat.sub_le _ _) with ⟨q, _⟩ | ⟨j, q, q1, q2, _⟩
    · exact q
    · rw [q]
      refine not_starts_false fun q3 => ?_
      obtain ⟨j2, q4, q5⟩ := (loop_one (Nat.sub_le _ _)).mp q3
      have q6 := q5.1
      rw [text_len] at q1 q4
      rw [text_len, text_len, text_len, ← hfd] at q6
      exact absurd (Nat.le_trans (Nat.add_le_add_right q1 _) (Nat.le_trans q4 (Nat.le_of_add_le_add_right q6))) (Nat.not_le.mpr (Nat.lt_add_of_pos_right hd1))
  · rw [hT, item_last hW1, empty_eq, ellM_eq]
    refine not_starts_false fun q => ?_
    rw [Bool.and_eq_true] at q
    obtain ⟨j, _, q5⟩ := (loop_one (Nat.sub_le _ _)).mp q.2
    have q6 := q5.1
    rw [text_len, text_len, List.length_drop, Nat.sub_sub_self hW1] at q6
    exact absurd (Nat.le_trans (Nat.le_add_left _ _) q6) (Nat.not_le.mpr hW0)
  · rw [hH, ← text_app, ellM_eq, text_len, text_len, decide_eq_false (by rw [show (d ++ (d ++ d.take 1)).length = d.length + (d ++ d.take 1).length from List.length_append, hbl]; omega)]
    simp
  · rw [hH, mul_two, ell_text h (hb.app hb) hb hb (Nat.le_of_eq List.length_append.symm), List.take_left, show ((d ++ d.take 1) ++ (d ++ d.take 1)).length - (d ++ d.take 1).length = (d ++ d.take 1).length from by rw [show ((d ++ d.take 1) ++ (d ++ d.take 1)).length = (d ++ d.take 1).length + (d ++ d.take 1).length from List.length_append, Nat.add_sub_cancel], List.drop_left]
    simp
end Plain9
-- Plain10
section Plain10
open PySem PySem.Spec PySem.Calls PySem.W PyProof.Rows PySem.StrLaws PySem.Builtin.Str
set_option maxRecDepth 100000
def pcs (ws : List Int) (i j : Nat) : List Int := (ws.drop j).take (i + 1)
def wnt (ws : List Int) (i j : Nat) : List Int := pcs ws i j ++ pcs ws i j ++ (pcs ws i j).take 1
theorem piece_text {sg : Str} {ws : List Int} {i j : Nat} (h : j + 2 * (i + 1) < ws.length) : pieceAt (textOf sg ws) i j = textOf sg (pcs ws i j) := by
  apply cp_inj
  have hl : (textOf sg ws).cps.toList.length = ws.length := by rw [← text_len sg ws, ← cp_len]
  have e := sliceText_plain (x := textOf sg ws) (i := 0 + (j : Int)) (j := 0 + (j : Int) + (1 + (i : Int))) ⟨by omega, by omega, by rw [hl]; omega⟩
  show cp (sliceText (textOf sg ws) (some (0 + (j : Int))) (some (0 + (j : Int) + (1 + (i : Int))))) = _
  rw [e, cp_text, pcs, List.map_take, List.map_drop, ← cp_text]
  show ((cp (textOf sg ws)).drop (0 + (j : Int)).toNat).take (0 + (j : Int) + (1 + (i : Int)) - (0 + (j : Int))).toNat = _
  congr 1
  · omega
  · congr 1; omega
theorem pcs_len {ws : List Int} {i j : Nat} (h : j + 2 * (i + 1) < ws.length) : (pcs ws i j).length = i + 1 := by
  rw [pcs, List.length_take, List.length_drop]; exact Nat.min_eq_left (Nat.le_sub_of_add_le (twice_le h))
theorem pcs_bits {ws : List Int} (h : Bits ws) {i j : Nat} : Bits (pcs ws i j) := (h.drop _).take _
theorem wnt_bits {ws : List Int} (h : Bits ws) {i j : Nat} : Bits (wnt ws i j) := ((pcs_bits h).app (pcs_bits h)).app ((pcs_bits h).take 1)
theorem want_text {sg : Str} {ws : List Int} {i j : Nat} (h : j + 2 * (i + 1) < ws.length) : wantAt (textOf sg ws) i j = textOf sg (wnt ws i j) := by
  show Txt.mul (pieceAt (textOf sg ws) i j) 2 ++ Txt.item (pieceAt (textOf sg ws) i j) 0 = _
  rw [piece_text h, mul_two, item_first (by rw [pcs_len h]; omega)]
  exact (text_app _ _ _).symm
theorem hit_iff {sg : Str} {ws : List Int} {i j : Nat} : hitAt (textOf sg ws) i j = true ↔ ∃ k, k + (wantAt (textOf sg ws) i j).length ≤ (textOf sg ws).length ∧ subAt (textOf sg ws) (wantAt (textOf sg ws) i j) k = true := found_iff _ _
theorem over_ok {sg : Str} (h : Signs sg) {ws : List Int} (hc : Bits ws) : OverOk (textOf sg ws) := by
  intro i j hij
  rw [text_len] at hij
  have nd := three nodot_emp (nodot_text h (wnt_bits hc (i := i) (j := j))) nodot_emp
  refine ⟨?_, ?_, ?_, ?_⟩
  · rw [piece_text hij, text_len, pcs_len hij]
  · rw [want_text hij, turn_join]; exact split_join (by simp) nd
  · rw [want_text hij, turn_join, inn_join (by simp) nd]; rfl
  · rw [Bool.eq_iff_iff, hit_iff, ellM_eq, starts_empty rfl, ends_empty rfl]
    have z : Str.empty.length = 0 := rfl
    rw [z, Nat.sub_zero, decide_eq_true (Nat.zero_le _), Bool.true_and, Bool.true_and, Bool.true_and, loop_one (Nat.le_refl _)]
    constructor
    · rintro ⟨k, _, hk⟩; exact ⟨k, hk⟩
    · rintro ⟨k, hk⟩; exact ⟨k, Nat.zero_le _, hk⟩
/-- a word has an overlap: a piece, the piece again, its first sign once more -/
def ovB (l : List Int) : Bool := (List.range ((l.length + 1) / 2 - 1)).any fun p => (List.range (l.length - 2 * (p + 1))).any fun j => (l.drop j).take (2 * (p + 1) + 1) == wnt l p j
theorem wnt_len {ws : List Int} {i j : Nat} (h : j + 2 * (i + 1) < ws.length) : (wnt ws i j).length = 2 * (i + 1) + 1 := by
  rw [wnt, List.length_append, List.length_append, List.length_take, pcs_len h]; omega
theorem any_congr {α : Type} {l : List α} {p q : α → Bool} (h : ∀ x ∈ l, p x = q x) : l.any p = l.any q := by
  induction l with
  | nil => rfl
  | cons a r ih => rw [List.any_cons, List.any_cons, h a (.head _), ih fun x hx => h x (.tail _ hx)]
/-- where a piece twice and its first sign stand, they start with the piece that stands there -/
theorem wnt_same {ws : List Int} {i j k : Nat} (hj : j + 2 * (i + 1) < ws.length) (hk : (ws.drop k).take (wnt ws i j).length = wnt ws i j) : k + 2 * (i + 1) < ws.length ∧ wnt ws i k = wnt ws i j := by
  have hl := wnt_len hj
  have h1 : k + 2 * (i + 1) < ws.length := by
    have := congrArg List.length hk
    rw [List.length_take, List.length_drop, hl] at this
    omega
  refine ⟨h1, ?_⟩
  have h2 : pcs ws i k = pcs ws i j := by
    have := congrArg (List.take (i + 1)) hk
    rw [List.take_take, hl, Nat.min_eq_left (by omega), wnt, List.append_assoc, List.take_append_of_le_length (by rw [pcs_len hj]; exact Nat.le_refl _)] at this
    exact this.trans (List.take_of_length_le (by rw [pcs_len hj]; exact Nat.le_refl _))
  rw [wnt, h2]; rfl
theorem over_b {sg : Str} (h : Signs sg) {ws : List Int} (hc : Bits ws) : overOf (textOf sg ws) = ovB ws := by
  unfold overOf ovB
  rw [text_len]
  refine any_congr fun p _ => ?_
  rw [Bool.eq_iff_iff, List.any_eq_true, List.any_eq_true]
  constructor
  · rintro ⟨j, hj, hh⟩
    have hj' : j + 2 * (p + 1) < ws.length := by have := List.mem_range.mp hj; omega
    obtain ⟨k, _, hk⟩ := hit_iff.mp hh
    rw [want_text hj', sub_text h hc (wnt_bits hc)] at hk
    obtain ⟨h1, h2⟩ := wnt_same hj' hk
    refine ⟨k, List.mem_range.mpr (by omega), ?_⟩
    rw [h2, ← hk, wnt_len hj', beq_iff_eq]
  · rintro ⟨j, hj, hh⟩
    have hj' : j + 2 * (p + 1) < ws.length := by have := List.mem_range.mp hj; omega
    refine ⟨j, hj, hit_iff.mpr ⟨j, ?_, ?_⟩⟩
    · rw [want_text hj', text_len, text_len, wnt_len hj']; omega
    · rw [want_text hj', sub_text h hc (wnt_bits hc), wnt_len hj']
      exact eq_of_beq hh
def wordsN : Nat → List (List Int)
  | 0 => [[]]
  | n + 1 => (wordsN n).flatMap fun l => [0 :: l, 1 :: l]
theorem mem_words : ∀ {l : List Int}, Bits l → l ∈ wordsN l.length
  | [], _ => .head _
  | a :: r, h => by
    have ih := mem_words (l := r) fun x hx => h x (.tail _ hx)
    show _ ∈ (wordsN r.length).flatMap _
    refine List.mem_flatMap.mpr ⟨r, ih, ?_⟩
    rcases h a (.head _) with rfl | rfl
    · exact .head _
    · exact .tail _ (.head _)
theorem ov3 : ((wordsN 3).all fun c => ovB (dbl c) == ovB c) = true := by decide +kernel
theorem ov4 : ((wordsN 4).all fun c => ovB (dbl c) == ovB c) = true := by decide +kernel
theorem ov5 : ((wordsN 5).all fun c => ovB (dbl c) == ovB c) = true := by decide +kernel
theorem ov6 : ((wordsN 6).all fun c => ovB (dbl c) == ovB c) = true := by decide +kernel
theorem over_eq {sg : Str} (h : Signs sg) {core : List Int} (hc : Bits core) (h3 : 3 ≤ core.length) (h6 : core.length ≤ 6) : overOf (textOf sg (dbl core)) = overOf (textOf sg core) := by
  rw [over_b h (bits_dbl hc), over_b h hc]
  have hm := mem_words hc
  generalize core.length = n at hm h3 h6
  match n, h3, h6, hm with
  | 3, _, _, hm => exact eq_of_beq (List.all_eq_true.mp ov3 _ hm)
  | 4, _, _, hm => exact eq_of_beq (List.all_eq_true.mp ov4 _ hm)
  | 5, _, _, hm => exact eq_of_beq (List.all_eq_true.mp ov5 _ hm)
  | 6, _, _, hm => exact eq_of_beq (List.all_eq_true.mp ov6 _ hm)
end Plain10
-- Plain11
section Plain11
open PySem PySem.Spec PySem.Calls PySem.W PyProof.Rows PySem.StrLaws PySem.Builtin.Str
set_option maxRecDepth 100000
theorem set_back_Plain11 : True := by
  w_top off
  first | walk1 | trivial
def subB (mid y : List Int) : Bool := (List.range (y.length + 1)).any fun k => (y.drop k).take mid.length == mid
def midW (ws : List Int) : List Int := pickI ws (some 1) (some (-1))
/-- each figure is the other one than its neighbour -/
def altB : List Int → Bool
  | a :: b :: r => (a + b == 1) && altB (b :: r)
  | _ => true
/-- unlike pairs, all but the last figures (two at most) -/
def prs : List Int → Bool
  | a :: b :: c :: r => (a + b == 1) && prs (c :: r)
  | _ => true
theorem altB_drop : ∀ (k : Nat) {l : List Int}, altB l = true → altB (l.drop k) = true
  | 0, _, h => h
  | _ + 1, [], h => h
  | k + 1, [a], _ => by rw [List.drop_succ_cons, List.drop_nil]; rfl
  | k + 1, a :: b :: r, h => by
    rw [List.drop_succ_cons]
    rw [altB, Bool.and_eq_true] at h
    exact altB_drop k h.2
theorem altB_take : ∀ (k : Nat) {l : List Int}, altB l = true → altB (l.take k) = true
  | 0, _, _ => by rw [List.take_zero]; rfl
  | _ + 1, [], h => h
  | k + 1, [a], _ => by rw [List.take_succ_cons, List.take_nil]; rfl
  | 1, a :: b :: r, _ => rfl
  | k + 2, a :: b :: r, h => by
    rw [altB, Bool.and_eq_true] at h
    have ih := altB_take (k + 1) h.2
    rw [List.take_succ_cons] at ih
    rw [List.take_succ_cons, List.take_succ_cons, altB, Bool.and_eq_true]
    exact ⟨h.1, ih⟩
theorem altB_altW : ∀ n, altB (altW n) = true
  | 0 => rfl
  | 1 => rfl
  | n + 2 => altB_altW (n + 1)
theorem alt_take : ∀ {mid : List Int}, altB mid = true → Bits mid → ∀ n, mid.length ≤ n →
    (mid.head? ≠ some 1 → (altW n).take mid.length = mid) ∧ (mid.head? ≠ some 0 → ((altW n).drop 1).take mid.length = mid)
  | [], _, _, n, _ => ⟨fun _ => rfl, fun _ => rfl⟩
  | a :: m, h, hb, n, hn => by
    have ha := hb a (.head _)
    have hbm : Bits m := fun x hx => hb x (.tail _ hx)
    have hm : altB m = true := altB_drop 1 h
    rw [List.length_cons] at hn
    cases n with
    | zero => omega
    | succ n =>
      have hd : ∀ c, m.head? = some c → a + c = 1 := by
        intro c hc
        cases m with
        | nil => exact nomatch hc
        | cons b r =>
          have e : b = c := Option.some.inj hc
          rw [altB, Bool.and_eq_true, beq_iff_eq] at h
          rw [← e]; exact h.1
      constructor
      · intro h1
        have a0 : a = 0 := by
          rcases ha with e | e
          · exact e
          · exact absurd (by rw [e]; rfl) h1
        have ih := (alt_take hm hbm (n + 1) (by omega)).2 fun e => by have := hd 0 e; omega
        rw [altW, List.drop_succ_cons, List.drop_zero] at ih
        rw [altW, List.length_cons, List.take_succ_cons, ih, a0]
      · intro h1
        have a0 : a = 1 := by
          rcases ha with e | e
          · exact absurd (by rw [e]; rfl) h1
          · exact e
        have ih := (alt_take hm hbm n (by omega)).1 fun e => by have := hd 1 e; omega
        rw [altW, List.drop_succ_cons, List.drop_zero, List.length_cons, List.take_succ_cons, ih, a0]
theorem subB_alt {mid : List Int} (hb : Bits mid) {n : Nat} (hn : mid.length ≤ n) : subB mid (altW n) = altB mid := by
  rw [Bool.eq_iff_iff]
  unfold subB
  rw [List.any_eq_true]
  constructor
  · rintro ⟨k, _, hk⟩
    rw [← eq_of_beq hk]
    exact altB_take _ (altB_drop _ (altB_altW n))
  · intro h
    have t := alt_take h hb n hn
    by_cases h1 : mid.head? = some 1
    · refine ⟨1, List.mem_range.mpr ?_, beq_iff_eq.mpr (t.2 (by rw [h1]; decide))⟩
      cases mid with
      | nil => exact nomatch h1
      | cons a m => rw [altW_len]; rw [List.length_cons] at hn; omega
    · exact ⟨0, List.mem_range.mpr (Nat.succ_pos _), beq_iff_eq.mpr (t.1 h1)⟩
/-- an end, found behind unlike pairs -/
def endOk (r e : List Int) : Bool := (r.drop (r.length - e.length) == e) && ((r.take (r.length - e.length)).length % 2 == 0) && pairsOk (r.take (r.length - e.length))
theorem endOk_step {a b : Int} {r e : List Int} (h : e.length ≤ r.length) : endOk (a :: b :: r) e = ((a + b == 1) && endOk r e) := by
  unfold endOk
  have k : (a :: b :: r).length - e.length = (r.length - e.length) + 2 := add_two_sub h
  rw [k, List.drop_succ_cons, List.drop_succ_cons, List.take_succ_cons, List.take_succ_cons, pairsOk, List.length_cons, List.length_cons]
  have m : ((r.take (r.length - e.length)).length + 1 + 1) % 2 = (r.take (r.length - e.length)).length % 2 := mod_add_two
  rw [m]
  cases (a + b == 1) <;> cases (r.drop (r.length - e.length) == e) <;> cases ((r.take (r.length - e.length)).length % 2 == 0) <;> cases pairsOk (r.take (r.length - e.length)) <;> rfl
def b2n : Bool → Nat
  | true => 1
  | false => 0
def ends1 (r : List Int) : Nat := b2n (endOk r []) + b2n (endOk r [0]) + b2n (endOk r [1]) + b2n (endOk r [0, 0]) + b2n (endOk r [1, 1])
theorem ends_prs : ∀ {r : List Int}, Bits r → ends1 r = b2n (prs r)
  | [], _ => by decide
  | [a], h => by rcases h a (.head _) with rfl | rfl <;> decide
  | [a, b], h => by rcases h a (.head _) with rfl | rfl <;> rcases h b (.tail _ (.head _)) with rfl | rfl <;> decide
  | [a, b, c], h => by rcases h a (.head _) with rfl | rfl <;> rcases h b (.tail _ (.head _)) with rfl | rfl <;> rcases h c (.tail _ (.tail _ (.head _))) with rfl | rfl <;> decide
  | a :: b :: c :: d :: r, h => by
    have ih := ends_prs (r := c :: d :: r) fun x hx => h x (.tail _ (.tail _ hx))
    unfold ends1 at ih ⊢
    have l : ∀ e : List Int, e.length ≤ 2 → endOk (a :: b :: c :: d :: r) e = ((a + b == 1) && endOk (c :: d :: r) e) := fun e he => endOk_step (by rw [List.length_cons, List.length_cons]; omega)
    rw [l [] (by decide), l [0] (by decide), l [1] (by decide), l [0, 0] (by decide), l [1, 1] (by decide), prs]
    cases (a + b == 1)
    · rfl
    · exact ih
theorem foldOne_two {ws f e : List Int} (h : f.length + e.length ≤ ws.length) : (foldOne ws f e).length = b2n ((ws.take f.length == f) && endOk (ws.drop f.length) e) := by
  unfold foldOne sameOf midOf endOk
  have k1 : (ws.drop f.length).length - e.length = ws.length - f.length - e.length := by rw [List.length_drop]
  have k2 : (ws.drop f.length).drop (ws.length - f.length - e.length) = ws.drop (ws.length - e.length) := by rw [List.drop_drop, sg_add h]
  rw [k1, k2]
  cases (ws.take f.length == f) <;> cases (ws.drop (ws.length - e.length) == e) <;> cases (((ws.drop f.length).take (ws.length - f.length - e.length)).length % 2 == 0) <;> cases pairsOk ((ws.drop f.length).take (ws.length - f.length - e.length)) <;> rfl
theorem foldsAt_len {ws f : List Int} (hw : Bits ws) (h : f.length + 2 ≤ ws.length) : (foldsAt ws f).length = b2n ((ws.take f.length == f) && prs (ws.drop f.length)) := by
  have e := ends_prs (r := ws.drop f.length) (hw.drop _)
  unfold ends1 at e
  have l : ∀ e : List Int, e.length ≤ 2 → (foldOne ws f e).length = b2n ((ws.take f.length == f) && endOk (ws.drop f.length) e) := fun e he => foldOne_two (by omega)
  unfold foldsAt ENDS
  simp only [List.flatMap_cons, List.flatMap_nil, List.length_append, List.length_nil, l [] (by decide), l [0] (by decide), l [1] (by decide), l [0, 0] (by decide), l [1, 1] (by decide)]
  cases (ws.take f.length == f)
  · rfl
  · simp only [Bool.true_and]; omega
theorem folds_two {x y z : Int} {r : List Int} (hw : Bits (x :: y :: z :: r)) (hr : 1 ≤ r.length) : (foldsOf (x :: y :: z :: r)).length = b2n (prs (z :: r)) + b2n (prs (y :: z :: r)) := by
  have l : ∀ f : List Int, f.length ≤ 2 → (foldsAt (x :: y :: z :: r) f).length = b2n (((x :: y :: z :: r).take f.length == f) && prs ((x :: y :: z :: r).drop f.length)) := fun f hf => foldsAt_len hw (by simp only [List.length_cons]; omega)
  unfold foldsOf
  conv => lhs; unfold ENDS
  simp only [List.flatMap_cons, List.flatMap_nil, List.length_append, List.length_nil, l [] (by decide), l [0] (by decide), l [1] (by decide), l [0, 0] (by decide), l [1, 1] (by decide)]
  simp only [List.length_cons, List.length_nil, List.take_zero, List.drop_zero, List.take_succ_cons, List.drop_succ_cons]
  have hx := hw x (.head _)
  have hy := hw y (.tail _ (.head _))
  rw [show prs (x :: y :: z :: r) = ((x + y == 1) && prs (z :: r)) from rfl]
  generalize prs (z :: r) = p1
  generalize prs (y :: z :: r) = p2
  rcases hx with rfl | rfl <;> rcases hy with rfl | rfl <;> cases p1 <;> cases p2 <;> decide
theorem alt_prs : ∀ {r : List Int} {y z : Int}, altB ((y :: z :: r).dropLast) = (prs (z :: r) && prs (y :: z :: r))
  | [], y, z => rfl
  | c :: r, y, z => by
    have ih := alt_prs (r := r) (y := z) (z := c)
    have e1 : (y :: z :: c :: r).dropLast = y :: z :: (c :: r).dropLast := rfl
    have e2 : (z :: c :: r).dropLast = z :: (c :: r).dropLast := rfl
    rw [e2] at ih
    rw [e1, altB, ih, show prs (y :: z :: c :: r) = ((y + z == 1) && prs (c :: r)) from rfl]
    cases (y + z == 1) <;> cases prs (c :: r) <;> cases prs (z :: c :: r) <;> rfl
theorem midW_last {x : Int} {r : List Int} (h : 1 ≤ r.length) : midW (x :: r) = r.dropLast := by
  unfold midW pickI
  have k1 : kms_lo (some 1) (x :: r).length = 1 := by
    unfold kms_lo
    dsimp only
    rw [if_neg (by decide), List.length_cons, show (1 : Int).toNat = 1 from rfl]; omega
  have k2 : kms_hi (some (-1)) (x :: r).length = r.length := by
    unfold kms_hi
    dsimp only
    rw [if_pos (by decide), List.length_cons, show (-(-1) : Int).toNat = 1 from rfl]; omega
  rw [k1, k2, List.drop_succ_cons, List.drop_zero, List.dropLast_eq_take]
theorem pairs_dbl : ∀ {c : List Int}, pairsOk (dbl c) = true
  | [] => rfl
  | b :: r => by
    rw [dbl, pairsOk, pairs_dbl, show b + (1 - b) = 1 by omega]; rfl
theorem evens_dbl : ∀ c : List Int, evens (dbl c) = c
  | [] => rfl
  | b :: r => by rw [dbl, evens, evens_dbl]
theorem mem_folds {f core e : List Int} (hf : f ∈ ENDS) (he : e ∈ ENDS) : (f, core, e) ∈ foldsOf (f ++ dbl core ++ e) := by
  refine List.mem_flatMap.mpr ⟨f, hf, List.mem_flatMap.mpr ⟨e, he, ?_⟩⟩
  have m : midOf (f ++ dbl core ++ e) f e = dbl core := by
    unfold midOf
    rw [List.append_assoc, List.drop_left, List.length_append, List.length_append, cancel3, List.take_left]
  have s : sameOf (f ++ dbl core ++ e) f e = true := by
    unfold sameOf
    rw [show (f ++ dbl core ++ e).length - e.length = (f ++ dbl core).length by rw [List.length_append, Nat.add_sub_cancel], List.drop_left, List.append_assoc, List.take_left, beq_self_eq_true, beq_self_eq_true]; rfl
  unfold foldOne
  rw [m, s, pairs_dbl, evens_dbl, dbl_length, show 2 * core.length % 2 = 0 by omega]
  exact .head _
theorem final_ok {sg : Str} (h : Signs sg) {f core e : List Int} (hf : f ∈ ENDS) (he : e ∈ ENDS) (hc : Bits core) (h3 : 3 ≤ core.length) (h6 : core.length ≤ 6) {n : Int} (hn : n = ((f ++ dbl core ++ e).length : Nat)) :
    ∃ tv, ellM (Txt.mul sg n) Str.empty [textOf sg (pickI (f ++ dbl core ++ e) (some 1) (some (-1)))] Str.empty = tv ∧ (foldsOf (f ++ dbl core ++ e)).length = (if tv then 2 else 1) ∧ (f, core, e) ∈ foldsOf (f ++ dbl core ++ e) := by
  have hw : Bits (f ++ dbl core ++ e) := ((bits_ends hf).2.app (bits_dbl hc)).app (bits_ends he).2
  have hin := mem_folds (core := core) hf he
  have hlen : 6 ≤ (f ++ dbl core ++ e).length := by rw [List.length_append, List.length_append, dbl_length]; omega
  have key : (foldsOf (f ++ dbl core ++ e)).length = (if subB (midW (f ++ dbl core ++ e)) (altW (f ++ dbl core ++ e).length) then 2 else 1) := by
    generalize f ++ dbl core ++ e = ws at hw hin hlen
    have hpos := List.length_pos_of_mem hin
    match ws, hw, hlen, hpos with
    | x :: y :: z :: r, hw, hlen, hpos =>
      have hr : 1 ≤ r.length := by simp only [List.length_cons] at hlen; omega
      have hm := midW_last (x := x) (r := y :: z :: r) (Nat.succ_pos _)
      have hmb : Bits (midW (x :: y :: z :: r)) := pick_bits hw
      have hml : (midW (x :: y :: z :: r)).length ≤ (x :: y :: z :: r).length := by rw [hm, List.length_dropLast]; simp only [List.length_cons]; omega
      rw [subB_alt hmb hml, hm, alt_prs]
      rw [folds_two hw hr] at hpos ⊢
      generalize prs (z :: r) = p1 at hpos ⊢
      generalize prs (y :: z :: r) = p2 at hpos ⊢
      cases p1 <;> cases p2
      · exact absurd hpos (by decide)
      · rfl
      · rfl
      · rfl
  refine ⟨subB (midW (f ++ dbl core ++ e)) (altW (f ++ dbl core ++ e).length), ?_, key, hin⟩
  subst hn
  have hp : Bits (midW (f ++ dbl core ++ e)) := pick_bits hw
  rw [mul_text h, Bool.eq_iff_iff, ellM_eq, starts_empty rfl, ends_empty rfl]
  have z : Str.empty.length = 0 := rfl
  rw [z, Nat.sub_zero, decide_eq_true (Nat.zero_le _), Bool.true_and, Bool.true_and, Bool.true_and, loop_one (Nat.le_refl _)]
  show _ ↔ subB (midW (f ++ dbl core ++ e)) (altW (f ++ dbl core ++ e).length) = true
  unfold subB
  rw [List.any_eq_true]
  constructor
  · rintro ⟨k, _, hk1, hk2⟩
    rw [text_len, text_len] at hk1
    exact ⟨k, List.mem_range.mpr (Nat.lt_succ_of_le (Nat.le_trans (Nat.le_add_right _ _) hk1)), beq_iff_eq.mpr ((sub_text h (altW_bits _) hp).mp hk2)⟩
  · rintro ⟨k, hk, hk2⟩
    have q := beq_iff_eq.mp hk2
    refine ⟨k, Nat.zero_le _, ?_, (sub_text h (altW_bits _) hp).mpr q⟩
    have q2 := congrArg List.length q
    rw [List.length_take, List.length_drop] at q2
    have := List.mem_range.mp hk
    show k + (textOf sg (midW (f ++ dbl core ++ e))).length ≤ _
    rw [text_len, text_len]; omega
end Plain11
theorem set_back_Plain11_z : True := by first | walk1 | trivial
-- X6
section X6
set_option maxRecDepth 100000
set_option maxHeartbeats 8000000
theorem set_back_X6 : True := by
  w_top off
  first | walk1 | trivial
local macro_rules | `(tactic| k_all) => `(tactic| with_reducible assumption)
set_option hygiene false in
local macro_rules | `(tactic| k_mem) => `(tactic| first | exact List.Mem.head _ | exact ha _ | exact hm1 _ | exact hm2 _ | exact hm3 _ | exact hm4 _ | exact hm5 _ | (refine' List.Mem.tail _ ?_; k_mem))
local macro_rules | `(tactic| k_all) => `(tactic| first | with_reducible assumption | (refine' all_ne_of (by with_reducible assumption) ?_; (try dsimp only); omega))
theorem reads_ints (h : Heap) : ∀ {vs : List Value} {ns : List Int}, IntsAre vs ns → ReadsAll h vs (ns.map PyData.int) []
  | _, _, .nil => .nil
  | _, _, .cons i t r => .cons (.int i t) (reads_ints h r)
theorem ints_lay : ∀ ns : List Int, PyData.canLayAll0 (ns.map PyData.int) = true
  | [] => rfl
  | n :: r => by
    show (PyData.canLay0 (.int n) && PyData.canLayAll0 (r.map PyData.int)) = true
    rw [ints_lay r]; rfl
theorem any_ints (f : List Int) : ((f.map PyData.int).any fun y => y.eqv (PyData.int 1)) = f.contains 1 := by
  induction f with
  | nil => rfl
  | cons a r ih =>
    rw [List.map_cons, List.any_cons, ih, List.contains_cons]
    congr 1
    show (a == 1) = (1 == a)
    rw [Bool.eq_iff_iff, beq_iff_eq, beq_iff_eq]; exact ⟨Eq.symm, Eq.symm⟩
theorem digs_front {W : Nat} (hW : 1 ≤ W) {f : List Int} (h : f ∈ ENDS) : digs W (ndig W (dval W f).toNat) (dval W f).toNat = if f.contains 1 then f else [] := by
  unfold ENDS at h
  simp only [List.mem_cons, List.not_mem_nil, or_false] at h
  rcases h with rfl | rfl | rfl | rfl | rfl
  · simp [dval, ndig_zero hW, digs]
  · simp [dval, ndig_zero hW, digs]
  · exact digs_snoc (l := []) hW (fun _ h => nomatch h)
  · simp [dval, ndig_zero hW, digs]
  · exact digs_snoc (l := [1]) hW (figs_bits hW (by simp))
theorem bits_pow (k : Nat) : Builtin.Int.intBits ((1 : Int) * 2 ^ k) = k + 1 := by
  have e : (1 : Int) * 2 ^ k = ((2 ^ k : Nat) : Int) := by push_cast; exact Int.one_mul _
  rw [e]
  apply Nat.le_antisymm
  · refine intBits_le ?_
    rw [Int.natAbs_natCast]; exact Nat.pow_lt_pow_right (by decide) (Nat.lt_succ_self k)
  · have := lt_intBits (2 ^ k)
    exact (Nat.pow_lt_pow_iff_right (by decide)).mp this
theorem fold_odd {ws f e : List Int} {sm : Bool} (_h : sameOf ws f e = sm) (hd : (((ws.length : Nat) : Int) - ((f.length : Nat) : Int) - ((e.length : Nat) : Int)).fmod 2 ≠ 0) (hl : f.length + e.length ≤ ws.length) : foldOne ws f e = [] := by
  have hm : (midOf ws f e).length = ws.length - f.length - e.length := by
    unfold midOf; rw [List.length_take, List.length_drop, Nat.min_eq_left (Nat.sub_le _ _)]
  have h2 : (ws.length - f.length - e.length) % 2 ≠ 0 := by
    rw [Int.fmod_eq_emod_of_nonneg _ (by decide)] at hd
    exact fun q => hd ((mod_two (r := 0) hl).2.mpr q)
  unfold foldOne
  rw [hm, show ((ws.length - f.length - e.length) % 2 == 0) = false from by simpa using h2]
  simp
theorem pairs_key {P a b : Int} (hP : 2 ≤ P) (ha : a = 0 ∨ a = 1) (hb : b = 0 ∨ b = 1) : (1 == a + b * P || 1 * P == a + b * P) = (a + b == 1) := by
  rw [Bool.eq_iff_iff, Bool.or_eq_true, beq_iff_eq, beq_iff_eq, beq_iff_eq]
  rcases ha with rfl | rfl <;> rcases hb with rfl | rfl <;> omega
theorem pairs_all {W : Nat} (hW : 1 ≤ W) : ∀ {l : List Int}, l.length % 2 = 0 → (∀ x ∈ l, x = 0 ∨ x = 1) → ((pairUp W l).filter (fun x => !(1 == x || 1 * 2 ^ W == x)) = [] ↔ pairsOk l = true)
  | [], _, _ => by simp [pairUp, pairsOk]
  | [_], h, _ => by simp at h
  | a :: b :: r, h, hb => by
    have ih := pairs_all hW (l := r) (mod_add_two.symm.trans h) (fun x hx => hb x (.tail _ (.tail _ hx)))
    rw [pairUp, pairsOk, List.filter_cons, pairs_key (two_le_pow hW) (hb a (.head _)) (hb b (.tail _ (.head _)))]
    cases hc : (a + b == 1) with
    | true => simpa using ih
    | false => simp
theorem evens_map {W : Nat} (hW : 1 ≤ W) : ∀ {l : List Int}, l.length % 2 = 0 → (∀ x ∈ l, x = 0 ∨ x = 1) → (pairUp W l).map (fun k => k.fmod 2) = evens l
  | [], _, _ => rfl
  | [_], h, _ => by simp at h
  | a :: b :: r, h, hb => by
    have ih := evens_map hW (l := r) (mod_add_two.symm.trans h) (fun x hx => hb x (.tail _ (.tail _ hx)))
    rw [pairUp, evens, List.map_cons, ih]
    congr 1
    obtain ⟨W', rfl⟩ : ∃ W', W = W' + 1 := ⟨W - 1, (Nat.sub_add_cancel hW).symm⟩
    rw [Int.fmod_eq_emod_of_nonneg _ (by decide), Int.pow_succ]
    generalize (2 : Int) ^ W' = P
    rw [← Int.mul_assoc, Int.add_mul_emod_self_right]
    rcases hb a (.head _) with rfl | rfl <;> rfl
theorem fold_bad {ws f e mid : List Int} (hm : midOf ws f e = mid) (h : ¬ pairsOk mid = true) : foldOne ws f e = [] := by
  unfold foldOne
  rw [hm, Bool.eq_false_iff.mpr h]
  simp
theorem fold_good {ws f e mid : List Int} (hm : midOf ws f e = mid) (hs : sameOf ws f e = true) (h2 : mid.length % 2 = 0) (h : pairsOk mid = true) : foldOne ws f e = [(f, evens mid, e)] := by
  unfold foldOne
  rw [hm, hs, h, h2]
  rfl
theorem paired_app {α β : Type} {F : α → β → Prop} : ∀ {l1 : List α} {m1 : List β} {l2 : List α} {m2 : List β}, Paired F l1 m1 → Paired F l2 m2 → Paired F (l1 ++ l2) (m1 ++ m2)
  | _, _, _, _, .nil, y => y
  | _, _, _, _, .cons a t, y => .cons a (paired_app t y)
theorem foldOne_len {ws f e : List Int} : (foldOne ws f e).length ≤ 1 := by
  unfold foldOne; split <;> simp
theorem flat_len {α β : Type} (f : α → List β) (c : Nat) (h : ∀ a, (f a).length ≤ c) : ∀ l : List α, (l.flatMap f).length ≤ c * l.length
  | [] => by simp
  | a :: r => by
    have := flat_len f c h r
    have := h a
    rw [List.flatMap_cons, List.length_append, List.length_cons, Nat.mul_succ, Nat.add_comm]; exact Nat.add_le_add ‹_› ‹_›
theorem folds_len {ws f : List Int} {j jj : Nat} : ((ENDS.take j).flatMap (foldsAt ws) ++ (ENDS.take jj).flatMap (foldOne ws f)).length ≤ 30 := by
  have h5 : ENDS.length = 5 := rfl
  have e1 : ∀ n, (ENDS.take n).length ≤ 5 := fun n => by rw [List.length_take]; exact Nat.min_le_right _ _
  have h1 := flat_len (foldsAt ws) 5 (fun f => by
    have := flat_len (foldOne ws f) 1 (fun _ => foldOne_len) ENDS
    unfold foldsAt; omega) (ENDS.take j)
  have h2 := flat_len (foldOne ws f) 1 (fun _ => foldOne_len) (ENDS.take jj)
  have := e1 j
  have := e1 jj
  rw [List.length_append]; exact Nat.le_trans (Nat.add_le_add (Nat.le_trans h1 (Nat.mul_le_mul_left 5 (e1 j))) (Nat.le_trans h2 (Nat.mul_le_mul_left 1 (e1 jj)))) (by decide)
theorem paired_length {α β : Type} {F : α → β → Prop} : ∀ {l : List α} {m : List β}, Paired F l m → l.length = m.length
  | _, _, .nil => rfl
  | _, _, .cons _ t => by rw [List.length_cons, List.length_cons, paired_length t]
theorem kind_ne {h₀ h : Heap} {L : Addr} {led : List (Addr × Obj)} {a b : Addr} {o1 o2 : Obj} (N : News h₀ L h led) (h1 : (a, o1) ∈ led) (h2 : (b, o2) ∈ led) (hd : o1.cls ≠ o2.cls) : a ≠ b := by
  intro e
  subst e
  have e1 := (N _ h1).1
  have e2 := (N _ h2).1
  exact hd (congrArg Obj.cls (Option.some.inj (e1.symm.trans e2)))
theorem cell_off {c : Addr} (h : @LT.lt Nat _ 37 c) : @Ne Nat (c + 1 + 1) 37 ∧ @Ne Nat (c + 1 + 1) 30 := ⟨Nat.ne_of_gt (Nat.lt_succ_of_lt (Nat.lt_succ_of_lt h)), Nat.ne_of_gt (Nat.lt_trans (by decide) (Nat.lt_succ_of_lt (Nat.lt_succ_of_lt h)))⟩
theorem ends_facts {f : List Int} (h : f ∈ ENDS) : f.length ≤ 2 ∧ ∀ x ∈ f, x = 0 ∨ x = 1 := by
  unfold ENDS at h
  simp only [List.mem_cons, List.not_mem_nil, or_false] at h
  rcases h with rfl | rfl | rfl | rfl | rfl <;> simp
section
variable {prog : Program} {w : World} {A : Around} {E : Value → Shared → Prop} {s : Shared} {Q : Value → Shared → Prop}
theorem notin_two {h₀ : Heap} {L D : Addr} {news : List (Addr × Obj)} {a b k : Int} {t ta tb : Tok} {i : Nat} (N : News h₀ L s.heap news) (hm : (D, listOf #[.int a ta, .int b tb] i) ∈ news) (h : Q (.bool (!(a == k || b == k))) s) : wpAny (model prog w) A (compareOp .NotIn (.int k t) (.ref D)) Q E s :=
  notin_list_ints (vs := [.int a ta, .int b tb]) (ns := [a, b]) (PySem.IsL.isList (n := i) (N _ hm).1) (.cons _ _ (.cons _ _ .nil)) (by simpa using h)
end
section
variable {w : World} {p : Program} {loose : List Str} {mean : ExcName → Option Value} {mg mb : Str → Option Value}
    {dp un : Nat} {gd : Option (List Code)} {cn : Str} {cs : Scope} {a : Addr} {ccd : Value} {cl : List (Str × Addr)} {outer : List Env} {A₀ : Around} {base h₀ : Heap} {L : Addr} {m : Str → Option Value} {s : Shared} {Q E : Value → Shared → Prop}
    {g : List (Addr × Obj) → List (Addr × Obj)} {rest led news : List (Addr × Obj)}
local macro_rules | `(tactic| wtm_at "t9") => `(tactic| (intro D9 t19 t29 h9 tk9 rest9 hR9 F9 N9; (k_dflt (have hD9 := seq_off hR9 N9 (fun p hp => by repeat (first | exact led_rest (by with_reducible assumption) p hp | apply List.Mem.tail)) (.head _) (by intro _ q; cases q))); (try dsimp only); (try k_fold)))
theorem foldings_spec {ax : Addr} {vs : List Value} {ws : List Int} {i : Nat} {sg : Str} {ts tw : Tok} {wd : Int}
    (hR : TabsL rest) (hG : Led g) (B : Below A₀ base outer h₀) (F : Fr h₀ L s.heap m) (X : (Mine.hd.heap_39 w.params).In h₀) (C1 : CodeHd base 41 37) (C2 : CodeHd base 34 30)
    (N : News h₀ L s.heap (g rest)) (T : Top p loose mean mg mb h₀) (hk : cs.kind = .function) (hd : dp + 120 < recursionLimit) (hu : un + 900 < cLine)
    (ha : ∀ r, (ax, listOf vs.toArray i) ∈ g r) (hi : IntsAre vs ws) (hn : ∀ n ∈ ws, n = 0 ∨ n = 1) (hz1 : 6 ≤ ws.length) (hz : ws.length ≤ 16) (hs : sg.length = 2) (hw1 : 1 ≤ wd) (hw2 : wd ≤ 400) (hM : ∀ f ∈ ENDS, ∀ e ∈ ENDS, FoldOk sg ws f e)
    (hret : ∀ D items k G h' tk' rest', Led G → (∀ r p, p ∈ g r → p ∈ G r) → Paired (ToldItem G) items (foldsOf ws) → TabsL rest' → Fr h₀ L h' m → News h₀ L h' ((D, listOf (List.toArray items) k) :: G rest') → 37 < D → Q (.ref D) { s with heap := h', toks := tk' })
    :
    wpAny (model PySem.Challenge.rw_ti0020_01.row.prog w) (ktrTop dp un gd cn cs L a ccd cl outer) (call (.ref 146) [.ref ax, .str sg ts, .int wd tw]) Q E s := by
  (rename Frag.In _ _ => Xfill; revert Xfill; k_fill; intro Xfill)
  refine wpAny_call ?_
  k_dflt ((refine' code_defC ?k1 ?k2 ?k3 ?k4 ?k5 ?kA ?kF ?kK ?k6 ?k7 ?k8 ?k9 ?kB ?kD ?_ ?c2 ?c3 ?c4; (case kA => exact rfl); (case kF => exact rfl); (case kK => assumption); (case k1 => k_asm); (case k2 => k_asm); (case k3 => k_asm); (case k4 => k_asm); (case k5 => k_asm); (case k6 => k_is); (case k7 => k_is); (case k8 => ktr_room); (case k9 => first | exact BindsTo.of_eq rfl | exact binds_K (by k_in) rfl (by k_is) rfl rfl rfl | fail "k_enter: no rule for these arguments"); (case kB => exact rfl); (case kD => decide +kernel); (case c2 => exact rfl); (case c3 => exact rfl); (case c4 => exact rfl); k_whole; wtm_at "t6"))
  rename_i g' L' h' tk' FG' F' B' X' T' l1 o1 o2 d1 d2 N'
  clear N FG'
  have hc37 : (37 : Nat) < L' := lt_tabs l1 hG hR
  have hg0 : Hid (∀ p ∈ g [], @LT.lt Nat _ p.1 L') := ⟨fun p hp => l1 p (led_nil hG p hp)⟩
  replace F' : Fr g' L' h' (fun z => if z = Str.ofString "signs" then some (Value.str sg ts) else if z = Str.ofString "word" then some (Value.ref ax) else none) := F'
  replace d1 : o1.data = Data.cell none := d1
  replace d2 : o2.data = Data.cell (some (Value.int wd tw)) := d2
  have hvl : vs.length ≤ 16 := by rw [hi.length]; exact hz
  have hW : 1 ≤ wd.toNat := tn_ge hw1
  have hW4 : wd.toNat ≤ 400 := tn_le hw2
  have hw0 : 0 ≤ wd := Int.le_trans (by decide) hw1
  have f1 : ([(1 : Int)] ++ ws ++ [(1 : Int)]).length ≤ 50 := by
    simp only [List.length_append, List.length_cons, List.length_nil]
    exact Nat.le_trans (Nat.add_le_add_right (Nat.add_le_add_left hz _) _) (by decide)
  have f2 : Figs wd.toNat ([(1 : Int)] ++ ws ++ [(1 : Int)]) := figs_bits hW fun x hx => by
    simp only [List.mem_append, List.mem_singleton] at hx
    rcases hx with (rfl | hx) | rfl
    · exact .inr rfl
    · exact hn x hx
    · exact .inr rfl
  clear l1
  (repeat' ((fail_if_success (with_reducible show wpAny _ _ (pyIter _) _ _ _)); first | (k_unfold; (try dsimp only)) | (k_end; wrow_close) | with_reducible (first | ((with_reducible show wpAny _ _ (call _ _) _ _ _); first | (k_here; (with_reducible show wpAny _ _ (call (Value.ref 117) _) _ _ _); k_dflt (refine' text_spec ?jB ?jF ?jX ?jN ?jT ?jk ?jd ?ju ?p1 ?p2 ?p3 ?p4 ?p5 ?_; (case jB => k_asm); (case jF => k_asm); (case jX => k_asm); (case jN => k_asm); (case jT => k_asm); (case jk => exact rfl); (case jd => ((try dsimp only [ktrTop]); omega)); (case ju => ((try dsimp only [ktrTop]); omega)); (case p1 => k_mem); (case p2 => with_reducible assumption); (case p3 => with_reducible assumption); (case p4 => with_reducible assumption); (case p5 => omega); k_whole); intro _ _ _ _ _; (try dsimp only); (try k_fold)) | (k_here; (with_reducible show wpAny _ _ (call (Value.ref 105) [Value.ref _, Value.ref _]) _ _ _); k_dflt (refine' concat_list ?jB ?jF ?jX ?jN ?jT ?jk ?jd ?ju ?p1 ?p2 ?p3 ?_; (case jB => k_asm); (case jF => k_asm); (case jX => k_asm); (case jN => k_asm); (case jT => k_asm); (case jk => exact rfl); (case jd => ((try dsimp only [ktrTop]); omega)); (case ju => ((try dsimp only [ktrTop]); omega)); (case p1 => k_mem); (case p2 => k_mem); (case p3 => first | with_reducible assumption | exact size_okC (Nat.le_of_ble_eq_true rfl) | exact size_okC (by simp only [List.length_append, List.length_cons, List.length_nil]; omega)); k_whole); wtm_at "t7") | (k_here; (with_reducible show wpAny _ _ (call (Value.ref 42) _) _ _ _); k_dflt (refine' d2i_use ?jR ?jB ?jF ?jX ?jC1 ?jC2 ?jN ?jG ?jl ?jT ?jk ?jd ?ju ?p0 ?p1 ?p2 ?p3 ?p4 ?_; (case jR => with_reducible assumption); (case jB => k_asm); (case jF => k_asm); (case jX => k_asm); (case jC1 => with_reducible assumption); (case jC2 => with_reducible assumption); (case jN => k_asm); (case jG => wtm_at "r0"); (case jl => (intro _; k_mem)); (case jT => k_asm); (case jk => exact rfl); (case jd => ((try dsimp only [ktrTop]); omega)); (case ju => ((try dsimp only [ktrTop]); omega)); (case p0 => first | with_reducible assumption | exact ints_append (.cons _ _ .nil) (by with_reducible assumption) | exact ints_append (by with_reducible assumption) (.cons _ _ .nil) | exact ints_append (ints_append (.cons _ _ .nil) (by with_reducible assumption)) (.cons _ _ .nil)); (case p1 => first | with_reducible assumption | exact Hid.out (by with_reducible assumption) | omega); (case p2 => first | with_reducible assumption | exact Hid.out (by with_reducible assumption) | omega); (case p3 => first | with_reducible assumption | exact Hid.out (by with_reducible assumption) | omega); (case p4 => first | with_reducible assumption | exact Hid.out (by with_reducible assumption)); k_whole); intro _ _ _ _ _ _ _; (try dsimp only); (try k_fold))) | (k_here; (with_reducible show wpAny _ _ (callWith _ (Value.ref _) [] _ _) _ _ _); k_dflt (first | (refine' callWith_K ?k1 ?k2 ?_; (case k1 => k_asm); (case k2 => k_is); k_whole) | (refine' callWith_K0 ?k1 ?k2 ?_; (case k1 => k_in); (case k2 => k_is); k_whole)))) | ((with_reducible show wpAny _ _ (call _ _) _ _ _); first | (k_here; (with_reducible show wpAny _ _ (call (Value.ref 117) _) _ _ _); k_dflt (refine' text_spec ?jB ?jF ?jX ?jN ?jT ?jk ?jd ?ju ?p1 ?p2 ?p3 ?p4 ?p5 ?_; (case jB => k_asm); (case jF => k_asm); (case jX => k_asm); (case jN => k_asm); (case jT => k_asm); (case jk => exact rfl); (case jd => ((try dsimp only [ktrTop]); omega)); (case ju => ((try dsimp only [ktrTop]); omega)); (case p1 => k_mem); (case p2 => with_reducible assumption); (case p3 => with_reducible assumption); (case p4 => with_reducible assumption); (case p5 => omega); k_whole); intro _ _ _ _ _; (try dsimp only); (try k_fold)) | (k_here; (with_reducible show wpAny _ _ (call (Value.ref 105) [Value.ref _, Value.ref _]) _ _ _); k_dflt (refine' concat_list ?jB ?jF ?jX ?jN ?jT ?jk ?jd ?ju ?p1 ?p2 ?p3 ?_; (case jB => k_asm); (case jF => k_asm); (case jX => k_asm); (case jN => k_asm); (case jT => k_asm); (case jk => exact rfl); (case jd => ((try dsimp only [ktrTop]); omega)); (case ju => ((try dsimp only [ktrTop]); omega)); (case p1 => k_mem); (case p2 => k_mem); (case p3 => first | with_reducible assumption | exact size_okC (Nat.le_of_ble_eq_true rfl) | exact size_okC (by simp only [List.length_append, List.length_cons, List.length_nil]; omega)); k_whole); wtm_at "t7") | (k_here; (with_reducible show wpAny _ _ (call (Value.ref 42) _) _ _ _); k_dflt (refine' d2i_use ?jR ?jB ?jF ?jX ?jC1 ?jC2 ?jN ?jG ?jl ?jT ?jk ?jd ?ju ?p0 ?p1 ?p2 ?p3 ?p4 ?_; (case jR => with_reducible assumption); (case jB => k_asm); (case jF => k_asm); (case jX => k_asm); (case jC1 => with_reducible assumption); (case jC2 => with_reducible assumption); (case jN => k_asm); (case jG => wtm_at "r0"); (case jl => (intro _; k_mem)); (case jT => k_asm); (case jk => exact rfl); (case jd => ((try dsimp only [ktrTop]); omega)); (case ju => ((try dsimp only [ktrTop]); omega)); (case p0 => first | with_reducible assumption | exact ints_append (.cons _ _ .nil) (by with_reducible assumption) | exact ints_append (by with_reducible assumption) (.cons _ _ .nil) | exact ints_append (ints_append (.cons _ _ .nil) (by with_reducible assumption)) (.cons _ _ .nil)); (case p1 => first | with_reducible assumption | exact Hid.out (by with_reducible assumption) | omega); (case p2 => first | with_reducible assumption | exact Hid.out (by with_reducible assumption) | omega); (case p3 => first | with_reducible assumption | exact Hid.out (by with_reducible assumption) | omega); (case p4 => first | with_reducible assumption | exact Hid.out (by with_reducible assumption)); k_whole); intro _ _ _ _ _ _ _; (try dsimp only); (try k_fold))) | (k_here; (with_reducible show wpAny _ _ (callWith _ (Value.ref _) [] _ _) _ _ _); k_dflt (first | (refine' callWith_K ?k1 ?k2 ?_; (case k1 => k_asm); (case k2 => k_is); k_whole) | (refine' callWith_K0 ?k1 ?k2 ?_; (case k1 => k_in); (case k2 => k_is); k_whole))) | walk1 | (dsimp only; first | with_reducible (first | ((with_reducible show wpAny _ _ (call _ _) _ _ _); first | (k_here; (with_reducible show wpAny _ _ (call (Value.ref 117) _) _ _ _); k_dflt (refine' text_spec ?jB ?jF ?jX ?jN ?jT ?jk ?jd ?ju ?p1 ?p2 ?p3 ?p4 ?p5 ?_; (case jB => k_asm); (case jF => k_asm); (case jX => k_asm); (case jN => k_asm); (case jT => k_asm); (case jk => exact rfl); (case jd => ((try dsimp only [ktrTop]); omega)); (case ju => ((try dsimp only [ktrTop]); omega)); (case p1 => k_mem); (case p2 => with_reducible assumption); (case p3 => with_reducible assumption); (case p4 => with_reducible assumption); (case p5 => omega); k_whole); intro _ _ _ _ _; (try dsimp only); (try k_fold)) | (k_here; (with_reducible show wpAny _ _ (call (Value.ref 105) [Value.ref _, Value.ref _]) _ _ _); k_dflt (refine' concat_list ?jB ?jF ?jX ?jN ?jT ?jk ?jd ?ju ?p1 ?p2 ?p3 ?_; (case jB => k_asm); (case jF => k_asm); (case jX => k_asm); (case jN => k_asm); (case jT => k_asm); (case jk => exact rfl); (case jd => ((try dsimp only [ktrTop]); omega)); (case ju => ((try dsimp only [ktrTop]); omega)); (case p1 => k_mem); (case p2 => k_mem); (case p3 => first | with_reducible assumption | exact size_okC (Nat.le_of_ble_eq_true rfl) | exact size_okC (by simp only [List.length_append, List.length_cons, List.length_nil]; omega)); k_whole); wtm_at "t7") | (k_here; (with_reducible show wpAny _ _ (call (Value.ref 42) _) _ _ _); k_dflt (refine' d2i_use ?jR ?jB ?jF ?jX ?jC1 ?jC2 ?jN ?jG ?jl ?jT ?jk ?jd ?ju ?p0 ?p1 ?p2 ?p3 ?p4 ?_; (case jR => with_reducible assumption); (case jB => k_asm); (case jF => k_asm); (case jX => k_asm); (case jC1 => with_reducible assumption); (case jC2 => with_reducible assumption); (case jN => k_asm); (case jG => wtm_at "r0"); (case jl => (intro _; k_mem)); (case jT => k_asm); (case jk => exact rfl); (case jd => ((try dsimp only [ktrTop]); omega)); (case ju => ((try dsimp only [ktrTop]); omega)); (case p0 => first | with_reducible assumption | exact ints_append (.cons _ _ .nil) (by with_reducible assumption) | exact ints_append (by with_reducible assumption) (.cons _ _ .nil) | exact ints_append (ints_append (.cons _ _ .nil) (by with_reducible assumption)) (.cons _ _ .nil)); (case p1 => first | with_reducible assumption | exact Hid.out (by with_reducible assumption) | omega); (case p2 => first | with_reducible assumption | exact Hid.out (by with_reducible assumption) | omega); (case p3 => first | with_reducible assumption | exact Hid.out (by with_reducible assumption) | omega); (case p4 => first | with_reducible assumption | exact Hid.out (by with_reducible assumption)); k_whole); intro _ _ _ _ _ _ _; (try dsimp only); (try k_fold))) | (k_here; (with_reducible show wpAny _ _ (callWith _ (Value.ref _) [] _ _) _ _ _); k_dflt (first | (refine' callWith_K ?k1 ?k2 ?_; (case k1 => k_asm); (case k2 => k_is); k_whole) | (refine' callWith_K0 ?k1 ?k2 ?_; (case k1 => k_in); (case k2 => k_is); k_whole)))) | ((with_reducible show wpAny _ _ (call _ _) _ _ _); first | (k_here; (with_reducible show wpAny _ _ (call (Value.ref 117) _) _ _ _); k_dflt (refine' text_spec ?jB ?jF ?jX ?jN ?jT ?jk ?jd ?ju ?p1 ?p2 ?p3 ?p4 ?p5 ?_; (case jB => k_asm); (case jF => k_asm); (case jX => k_asm); (case jN => k_asm); (case jT => k_asm); (case jk => exact rfl); (case jd => ((try dsimp only [ktrTop]); omega)); (case ju => ((try dsimp only [ktrTop]); omega)); (case p1 => k_mem); (case p2 => with_reducible assumption); (case p3 => with_reducible assumption); (case p4 => with_reducible assumption); (case p5 => omega); k_whole); intro _ _ _ _ _; (try dsimp only); (try k_fold)) | (k_here; (with_reducible show wpAny _ _ (call (Value.ref 105) [Value.ref _, Value.ref _]) _ _ _); k_dflt (refine' concat_list ?jB ?jF ?jX ?jN ?jT ?jk ?jd ?ju ?p1 ?p2 ?p3 ?_; (case jB => k_asm); (case jF => k_asm); (case jX => k_asm); (case jN => k_asm); (case jT => k_asm); (case jk => exact rfl); (case jd => ((try dsimp only [ktrTop]); omega)); (case ju => ((try dsimp only [ktrTop]); omega)); (case p1 => k_mem); (case p2 => k_mem); (case p3 => first | with_reducible assumption | exact size_okC (Nat.le_of_ble_eq_true rfl) | exact size_okC (by simp only [List.length_append, List.length_cons, List.length_nil]; omega)); k_whole); wtm_at "t7") | (k_here; (with_reducible show wpAny _ _ (call (Value.ref 42) _) _ _ _); k_dflt (refine' d2i_use ?jR ?jB ?jF ?jX ?jC1 ?jC2 ?jN ?jG ?jl ?jT ?jk ?jd ?ju ?p0 ?p1 ?p2 ?p3 ?p4 ?_; (case jR => with_reducible assumption); (case jB => k_asm); (case jF => k_asm); (case jX => k_asm); (case jC1 => with_reducible assumption); (case jC2 => with_reducible assumption); (case jN => k_asm); (case jG => wtm_at "r0"); (case jl => (intro _; k_mem)); (case jT => k_asm); (case jk => exact rfl); (case jd => ((try dsimp only [ktrTop]); omega)); (case ju => ((try dsimp only [ktrTop]); omega)); (case p0 => first | with_reducible assumption | exact ints_append (.cons _ _ .nil) (by with_reducible assumption) | exact ints_append (by with_reducible assumption) (.cons _ _ .nil) | exact ints_append (ints_append (.cons _ _ .nil) (by with_reducible assumption)) (.cons _ _ .nil)); (case p1 => first | with_reducible assumption | exact Hid.out (by with_reducible assumption) | omega); (case p2 => first | with_reducible assumption | exact Hid.out (by with_reducible assumption) | omega); (case p3 => first | with_reducible assumption | exact Hid.out (by with_reducible assumption) | omega); (case p4 => first | with_reducible assumption | exact Hid.out (by with_reducible assumption)); k_whole); intro _ _ _ _ _ _ _; (try dsimp only); (try k_fold))) | (k_here; (with_reducible show wpAny _ _ (callWith _ (Value.ref _) [] _ _) _ _ _); k_dflt (first | (refine' callWith_K ?k1 ?k2 ?_; (case k1 => k_asm); (case k2 => k_is); k_whole) | (refine' callWith_K0 ?k1 ?k2 ?_; (case k1 => k_in); (case k2 => k_is); k_whole))) | walk1) | (leave1; (try dsimp only)) | fail "no step"))
  k_here
  (rename Fr _ _ _ _ => lF'; with_unfolding_all refine' For_turns lF' ?_)
  k_whole
  (repeat' ((fail_if_success (with_reducible show wpAny _ _ (pyIter _) _ _ _)); first | (k_unfold; (try dsimp only)) | (k_end; wrow_close) | with_reducible (first | (k_here; (with_reducible show wpAny _ _ (call (Value.ref 141) _) _ _ _); k_dflt (refine' ends_spec ?jB ?jF ?jX ?jN ?jT ?jk ?jd ?ju ?_; (case jB => k_asm); (case jF => k_asm); (case jX => k_asm); (case jN => k_asm); (case jT => k_asm); (case jk => exact rfl); (case jd => ((try dsimp only [ktrTop]); omega)); (case ju => ((try dsimp only [ktrTop]); omega)); k_whole); wtm_at "t10") | (k_here; (with_reducible show wpAny _ _ (callWith _ (Value.ref _) [] _ _) _ _ _); k_dflt (first | (refine' callWith_K ?k1 ?k2 ?_; (case k1 => k_asm); (case k2 => k_is); k_whole) | (refine' callWith_K0 ?k1 ?k2 ?_; (case k1 => k_in); (case k2 => k_is); k_whole)))) | (k_here; (with_reducible show wpAny _ _ (call (Value.ref 141) _) _ _ _); k_dflt (refine' ends_spec ?jB ?jF ?jX ?jN ?jT ?jk ?jd ?ju ?_; (case jB => k_asm); (case jF => k_asm); (case jX => k_asm); (case jN => k_asm); (case jT => k_asm); (case jk => exact rfl); (case jd => ((try dsimp only [ktrTop]); omega)); (case ju => ((try dsimp only [ktrTop]); omega)); k_whole); wtm_at "t10") | (k_here; (with_reducible show wpAny _ _ (callWith _ (Value.ref _) [] _ _) _ _ _); k_dflt (first | (refine' callWith_K ?k1 ?k2 ?_; (case k1 => k_asm); (case k2 => k_is); k_whole) | (refine' callWith_K0 ?k1 ?k2 ?_; (case k1 => k_in); (case k2 => k_is); k_whole))) | walk1 | (dsimp only; first | with_reducible (first | (k_here; (with_reducible show wpAny _ _ (call (Value.ref 141) _) _ _ _); k_dflt (refine' ends_spec ?jB ?jF ?jX ?jN ?jT ?jk ?jd ?ju ?_; (case jB => k_asm); (case jF => k_asm); (case jX => k_asm); (case jN => k_asm); (case jT => k_asm); (case jk => exact rfl); (case jd => ((try dsimp only [ktrTop]); omega)); (case ju => ((try dsimp only [ktrTop]); omega)); k_whole); wtm_at "t10") | (k_here; (with_reducible show wpAny _ _ (callWith _ (Value.ref _) [] _ _) _ _ _); k_dflt (first | (refine' callWith_K ?k1 ?k2 ?_; (case k1 => k_asm); (case k2 => k_is); k_whole) | (refine' callWith_K0 ?k1 ?k2 ?_; (case k1 => k_in); (case k2 => k_is); k_whole)))) | (k_here; (with_reducible show wpAny _ _ (call (Value.ref 141) _) _ _ _); k_dflt (refine' ends_spec ?jB ?jF ?jX ?jN ?jT ?jk ?jd ?ju ?_; (case jB => k_asm); (case jF => k_asm); (case jX => k_asm); (case jN => k_asm); (case jT => k_asm); (case jk => exact rfl); (case jd => ((try dsimp only [ktrTop]); omega)); (case ju => ((try dsimp only [ktrTop]); omega)); k_whole); wtm_at "t10") | (k_here; (with_reducible show wpAny _ _ (callWith _ (Value.ref _) [] _ _) _ _ _); k_dflt (first | (refine' callWith_K ?k1 ?k2 ?_; (case k1 => k_asm); (case k2 => k_is); k_whole) | (refine' callWith_K0 ?k1 ?k2 ?_; (case k1 => k_in); (case k2 => k_is); k_whole))) | walk1) | (leave1; (try dsimp only)) | fail "no step"))
  rename_i R9 hR9 _ _ tD _ ltD _ NN DE x1 x2 x3 x4 x5 t1 t2 t3 t4 t5 t6 h9 tk9 o9 F9 N9 l9
  have hx37 : (37 : Nat) < x1 := Nat.lt_trans (Nat.lt_succ_of_lt (Nat.lt_succ_of_lt hc37)) (show @LT.lt Nat _ (L' + 1 + 1) x1 by wtm_at "lt")
  obtain ⟨N0, hN0⟩ : ∃ N0, dval wd.toNat ([1] ++ ws ++ [1]) = N0 := ⟨_, rfl⟩
  rw [hN0] at F9
  have hT37 : (37 : Nat) < tD ∧ @LT.lt Nat _ (L' + 1 + 1) tD :=
    have q : @LT.lt Nat _ (L' + 1 + 1) tD := by wtm_at "lt"
    ⟨Nat.lt_trans (Nat.lt_succ_of_lt (Nat.lt_succ_of_lt hc37)) q, q⟩
  refine' iter_listT (vs := [.ref x1, .ref x2, .ref x3, .ref x4, .ref x5]) (nn := 0) (news := (tD, listOf #[] 0) :: (L' + 1 + 1, o1) :: (L' + 1, o2) :: (DE, listOf #[.ref x1, .ref x2, .ref x3, .ref x4, .ref x5] 0) :: (x5, listOf #[.int 1 t5, .int 1 t6] 0) :: (x4, listOf #[.int 0 t3, .int 0 t4] 0) :: (x3, listOf #[.int 1 t2] 0) :: (x2, listOf #[.int 0 t1] 0) :: (x1, listOf #[] 0) :: g R9) (fun _ _ => rfl) rfl F9 (cb_drop N9 ?sub) ?hm (fun j m₁ led => ∃ G mF, FoldSt ax g sg wd tw N0 (textOf sg ws) (L' + 1) (L' + 1 + 1) tD mF ((ENDS.take j).flatMap (foldsAt ws)) G m₁ led ∧ (∀ r, (DE, listOf #[.ref x1, .ref x2, .ref x3, .ref x4, .ref x5] 0) ∈ G r) ∧ Paired (EndItem G) [.ref x1, .ref x2, .ref x3, .ref x4, .ref x5] ENDS) ?hJ0 ?hJm ?turn ?done
  case sub =>
    refine List.forall_mem_cons.mpr ⟨?_, List.forall_mem_cons.mpr ⟨?_, List.forall_mem_cons.mpr ⟨?_, List.forall_mem_cons.mpr ⟨?_, List.forall_mem_cons.mpr ⟨?_, List.forall_mem_cons.mpr ⟨?_, List.forall_mem_cons.mpr ⟨?_, List.forall_mem_cons.mpr ⟨?_, List.forall_mem_cons.mpr ⟨?_, fun p hp => by repeat (first | exact hp | apply List.Mem.tail)⟩⟩⟩⟩⟩⟩⟩⟩⟩
    all_goals (repeat (first | exact List.Mem.head _ | apply List.Mem.tail))
  case hm => exact .tail _ (.tail _ (.tail _ (.head _)))
  case hJ0 =>
    refine ⟨fun r => (DE, listOf #[.ref x1, .ref x2, .ref x3, .ref x4, .ref x5] 0) :: (x5, listOf #[.int 1 t5, .int 1 t6] 0) :: (x4, listOf #[.int 0 t3, .int 0 t4] 0) :: (x3, listOf #[.int 1 t2] 0) :: (x2, listOf #[.int 0 t1] 0) :: (x1, listOf #[] 0) :: g r, none, ⟨⟨R9, [], 0, o1, o2, _, _, _, rfl, hR9, d2, d1, .nil, rfl, rfl, rfl, rfl, rfl⟩, ?_, fun r p hp => .tail _ (.tail _ (.tail _ (.tail _ (.tail _ (.tail _ hp))))), ?_⟩, fun r => .head _, ?_⟩
    · have q := ad5 hx37 o9
      exact .cons (Mine.d1 q.2.2.2) (.cons (Mine.d1 q.2.2.1) (.cons (Mine.d1 q.2.1) (.cons (Mine.d1 q.1.2) (.cons (Mine.d1 q.1.1) (.cons (Mine.d1 hx37) hG)))))
    · have hg1 := hg0.out
      have q := ad5 l9.1 o9
      exact List.forall_mem_cons.mpr ⟨ad_off hT37.2 q.2.2.2, List.forall_mem_cons.mpr ⟨ad_off hT37.2 q.2.2.1, List.forall_mem_cons.mpr ⟨ad_off hT37.2 q.2.1, List.forall_mem_cons.mpr ⟨ad_off hT37.2 q.1.2, List.forall_mem_cons.mpr ⟨ad_off hT37.2 q.1.1, List.forall_mem_cons.mpr ⟨ad_off hT37.2 l9.1, fun p hp => ad_low (hg1 p hp) hT37.2⟩⟩⟩⟩⟩⟩
    · refine .cons ⟨x1, rfl, [], 0, .nil, fun r => ?_⟩ (.cons ⟨x2, rfl, [.int 0 t1], 0, .cons _ _ .nil, fun r => ?_⟩ (.cons ⟨x3, rfl, [.int 1 t2], 0, .cons _ _ .nil, fun r => ?_⟩ (.cons ⟨x4, rfl, [.int 0 t3, .int 0 t4], 0, .cons _ _ (.cons _ _ .nil), fun r => ?_⟩ (.cons ⟨x5, rfl, [.int 1 t5, .int 1 t6], 0, .cons _ _ (.cons _ _ .nil), fun r => ?_⟩ .nil))))
      all_goals (repeat (first | exact List.Mem.head _ | apply List.Mem.tail))
  case hJm =>
    rintro j m₁ led ⟨G, mF, ⟨⟨rest', items, k, oF, oW, t1, t2, t3, rfl, _⟩, _, _, _⟩, hDE, _⟩
    exact .tail _ (.tail _ (.tail _ (hDE _)))
  case done =>
    rintro m₁ led h tk ⟨G, mF, ⟨⟨rest', items, k, oF, oW, u1, u2, u3, rfl, hR', hoW, hoF, hP, n1, n2, n3, n4, n5⟩, hG', hsb, hoff⟩, hDE, hE⟩ Ft Nt
    rw [pin5 n1 n2 n3 n4 n5] at Ft
    change Fr g' L' h _ at Ft
    change News g' L' h _ at Nt
    clear N9 F9 hDE hE hoff NN
    dsimp only
    k_steps
    rename Fr h₀ L _ _ => kF
    rename News h₀ L _ _ => kN
    refine hret tD items k G _ _ rest' hG' hsb hP hR' kF (cb_drop kN ?_) hT37.1
    refine List.forall_mem_cons.mpr ⟨.head _, fun p hp => .tail _ (.tail _ (.tail _ hp))⟩
  case turn =>
    rintro I j v m₁ led h tk it hit hlt hj hv hJ9 hne Ft Nt
    k_fold
    obtain ⟨G, mF, ⟨⟨rest', items, k, oF, oW, u1, u2, u3, rfl, hR', hoW, hoF, hP, n1, n2, n3, n4, n5⟩, hG', hsb, hoff⟩, hDE, hE⟩ := hJ9
    have ha0 := ha
    replace ha := fun r => hsb r _ (ha0 r)
    rw [pin5 n1 n2 n3 n4 n5] at Ft
    change Fr g' L' h _ at Ft
    change News g' L' h _ at Nt
    obtain ⟨f, hf, fe, rfl, vf, kf, hvf, hm1⟩ := paired_get hE hv
    have hI : @LT.lt Nat _ tD I := hlt (tD, _) (.head _)
    have hfE : f ∈ ENDS := List.mem_of_getElem? hf
    obtain ⟨hfl, hfb⟩ : f.length ≤ 2 ∧ ∀ x ∈ f, x = 0 ∨ x = 1 := ends_facts hfE
    have hF1 : ∀ p ∈ G rest', p.1 ≠ L' + 1 + 1 := led_off hG' hR' Nt (fun p hp => .tail _ (.tail _ (.tail _ (.tail _ hp)))) (.tail _ (.tail _ (.head _))) (cell_off hc37) (noCode_of (by rw [hoF]; intro _ q; cases q)) (fun p hp => (hoff p hp).2)
    clear hlt hv hj n1 n2 n3 n4 n5 F9 N9 NN ltD l9 o9
    have g1 : f.length ≤ 50 := Nat.le_trans hfl (by decide)
    have hfw : f.length ≤ ws.length := Nat.le_trans hfl (Nat.le_trans (by decide) hz1)
    have hI37 : (37 : Nat) < I := Nat.lt_trans hT37.1 hI
    have g2 : Figs wd.toNat f := figs_bits hW hfb
    have g3 : 0 ≤ dval wd.toNat f := (dval_bounds g2).1
    have g4 : LtPow (dval wd.toNat f).toNat (wd.toNat * 50) := by
      have q := (dval_bounds g2).2
      exact Nat.lt_of_lt_of_le (ltPow_int g3 q) (Nat.pow_le_pow_right (by decide) (Nat.mul_le_mul_left _ g1))
    have hfv : vf.length ≤ 2 := by rw [hvf.length]; exact hfl
    have g5 : digs wd.toNat (ndig wd.toNat (dval wd.toNat f).toNat) (dval wd.toNat f).toNat = if f.contains 1 then f else [] := digs_front hW hfE
    dsimp only
    (repeat' ((fail_if_success (with_reducible show LCg.CompSrc _ _ _ _ _ _ _ _ _ _ _ _ _ _)); (fail_if_success (with_reducible show LCt.CompSrcT _ _ _ _ _ _ _ _ _ _ _ _ _ _ _)); first | (k_unfold; (try dsimp only)) | (k_end; wrow_close) | with_reducible (first | (k_here; (with_reducible show wpAny _ _ (callWith _ (Value.ref _) [] _ _) _ _ _); k_dflt (first | (refine' callWith_K ?k1 ?k2 ?_; (case k1 => k_asm); (case k2 => k_is); k_whole) | (refine' callWith_K0 ?k1 ?k2 ?_; (case k1 => k_in); (case k2 => k_is); k_whole))) | (k_here; (with_reducible show wpAny _ _ (eval (PySem.Expr.ListComp _ [PySem.Comprehension.mk _ _ [_] _] _ _) _) _ _ _); k_dflt (refine LCt.ListComp_T (F₀ := by k_asm) (by with_unfolding_all rfl) (by decide) (by rfl) (by decide) (by rfl) ?_)) | ((with_reducible show wpAny _ _ (call _ _) _ _ _); first | (k_here; (with_reducible show wpAny _ _ (call (Value.ref 42) _) _ _ _); k_dflt (refine' d2i_use ?jR ?jB ?jF ?jX ?jC1 ?jC2 ?jN ?jG ?jl ?jT ?jk ?jd ?ju ?p0 ?p1 ?p2 ?p3 ?p4 ?_; (case jR => with_reducible assumption); (case jB => k_asm); (case jF => k_asm); (case jX => k_asm); (case jC1 => with_reducible assumption); (case jC2 => with_reducible assumption); (case jN => k_asm); (case jG => wtm_at "r0"); (case jl => (intro _; k_mem)); (case jT => k_asm); (case jk => exact rfl); (case jd => ((try dsimp only [ktrTop]); omega)); (case ju => ((try dsimp only [ktrTop]); omega)); (case p0 => first | with_reducible assumption | exact ints_append (.cons _ _ .nil) (by with_reducible assumption) | exact ints_append (by with_reducible assumption) (.cons _ _ .nil) | exact ints_append (ints_append (.cons _ _ .nil) (by with_reducible assumption)) (.cons _ _ .nil)); (case p1 => first | with_reducible assumption | exact Hid.out (by with_reducible assumption) | omega); (case p2 => first | with_reducible assumption | exact Hid.out (by with_reducible assumption) | omega); (case p3 => first | with_reducible assumption | exact Hid.out (by with_reducible assumption) | omega); (case p4 => first | with_reducible assumption | exact Hid.out (by with_reducible assumption)); k_whole); intro _ _ _ _ _ _ _; (try dsimp only); (try k_fold)) | (k_here; (with_reducible show wpAny _ _ (call (Value.ref 35) _) _ _ _); k_dflt (refine' i2d_use ?jR ?jB ?jF ?jX ?jC1 ?jC2 ?jN ?jG ?jT ?jk ?jd ?ju ?p1 ?p2 ?p3 ?p4 ?_; (case jR => with_reducible assumption); (case jB => k_asm); (case jF => k_asm); (case jX => k_asm); (case jC1 => with_reducible assumption); (case jC2 => with_reducible assumption); (case jN => k_asm); (case jG => wtm_at "r0"); (case jT => k_asm); (case jk => exact rfl); (case jd => ((try dsimp only [ktrTop]); omega)); (case ju => ((try dsimp only [ktrTop]); omega)); (case p1 => first | with_reducible assumption | exact Hid.out (by with_reducible assumption) | omega); (case p2 => first | with_reducible assumption | exact Hid.out (by with_reducible assumption) | omega); (case p3 => first | with_reducible assumption | exact Hid.out (by with_reducible assumption) | omega); (case p4 => first | with_reducible assumption | exact Hid.out (by with_reducible assumption)); k_whole); intro _ _ _ _ _ _ _ _ _ _ _; (try dsimp only); (try k_fold)))) | (k_here; (with_reducible show wpAny _ _ (callWith _ (Value.ref _) [] _ _) _ _ _); k_dflt (first | (refine' callWith_K ?k1 ?k2 ?_; (case k1 => k_asm); (case k2 => k_is); k_whole) | (refine' callWith_K0 ?k1 ?k2 ?_; (case k1 => k_in); (case k2 => k_is); k_whole))) | (k_here; (with_reducible show wpAny _ _ (eval (PySem.Expr.ListComp _ [PySem.Comprehension.mk _ _ [_] _] _ _) _) _ _ _); k_dflt (refine LCt.ListComp_T (F₀ := by k_asm) (by with_unfolding_all rfl) (by decide) (by rfl) (by decide) (by rfl) ?_)) | ((with_reducible show wpAny _ _ (call _ _) _ _ _); first | (k_here; (with_reducible show wpAny _ _ (call (Value.ref 42) _) _ _ _); k_dflt (refine' d2i_use ?jR ?jB ?jF ?jX ?jC1 ?jC2 ?jN ?jG ?jl ?jT ?jk ?jd ?ju ?p0 ?p1 ?p2 ?p3 ?p4 ?_; (case jR => with_reducible assumption); (case jB => k_asm); (case jF => k_asm); (case jX => k_asm); (case jC1 => with_reducible assumption); (case jC2 => with_reducible assumption); (case jN => k_asm); (case jG => wtm_at "r0"); (case jl => (intro _; k_mem)); (case jT => k_asm); (case jk => exact rfl); (case jd => ((try dsimp only [ktrTop]); omega)); (case ju => ((try dsimp only [ktrTop]); omega)); (case p0 => first | with_reducible assumption | exact ints_append (.cons _ _ .nil) (by with_reducible assumption) | exact ints_append (by with_reducible assumption) (.cons _ _ .nil) | exact ints_append (ints_append (.cons _ _ .nil) (by with_reducible assumption)) (.cons _ _ .nil)); (case p1 => first | with_reducible assumption | exact Hid.out (by with_reducible assumption) | omega); (case p2 => first | with_reducible assumption | exact Hid.out (by with_reducible assumption) | omega); (case p3 => first | with_reducible assumption | exact Hid.out (by with_reducible assumption) | omega); (case p4 => first | with_reducible assumption | exact Hid.out (by with_reducible assumption)); k_whole); intro _ _ _ _ _ _ _; (try dsimp only); (try k_fold)) | (k_here; (with_reducible show wpAny _ _ (call (Value.ref 35) _) _ _ _); k_dflt (refine' i2d_use ?jR ?jB ?jF ?jX ?jC1 ?jC2 ?jN ?jG ?jT ?jk ?jd ?ju ?p1 ?p2 ?p3 ?p4 ?_; (case jR => with_reducible assumption); (case jB => k_asm); (case jF => k_asm); (case jX => k_asm); (case jC1 => with_reducible assumption); (case jC2 => with_reducible assumption); (case jN => k_asm); (case jG => wtm_at "r0"); (case jT => k_asm); (case jk => exact rfl); (case jd => ((try dsimp only [ktrTop]); omega)); (case ju => ((try dsimp only [ktrTop]); omega)); (case p1 => first | with_reducible assumption | exact Hid.out (by with_reducible assumption) | omega); (case p2 => first | with_reducible assumption | exact Hid.out (by with_reducible assumption) | omega); (case p3 => first | with_reducible assumption | exact Hid.out (by with_reducible assumption) | omega); (case p4 => first | with_reducible assumption | exact Hid.out (by with_reducible assumption)); k_whole); intro _ _ _ _ _ _ _ _ _ _ _; (try dsimp only); (try k_fold))) | walk1 | (dsimp only; first | with_reducible (first | (k_here; (with_reducible show wpAny _ _ (callWith _ (Value.ref _) [] _ _) _ _ _); k_dflt (first | (refine' callWith_K ?k1 ?k2 ?_; (case k1 => k_asm); (case k2 => k_is); k_whole) | (refine' callWith_K0 ?k1 ?k2 ?_; (case k1 => k_in); (case k2 => k_is); k_whole))) | (k_here; (with_reducible show wpAny _ _ (eval (PySem.Expr.ListComp _ [PySem.Comprehension.mk _ _ [_] _] _ _) _) _ _ _); k_dflt (refine LCt.ListComp_T (F₀ := by k_asm) (by with_unfolding_all rfl) (by decide) (by rfl) (by decide) (by rfl) ?_)) | ((with_reducible show wpAny _ _ (call _ _) _ _ _); first | (k_here; (with_reducible show wpAny _ _ (call (Value.ref 42) _) _ _ _); k_dflt (refine' d2i_use ?jR ?jB ?jF ?jX ?jC1 ?jC2 ?jN ?jG ?jl ?jT ?jk ?jd ?ju ?p0 ?p1 ?p2 ?p3 ?p4 ?_; (case jR => with_reducible assumption); (case jB => k_asm); (case jF => k_asm); (case jX => k_asm); (case jC1 => with_reducible assumption); (case jC2 => with_reducible assumption); (case jN => k_asm); (case jG => wtm_at "r0"); (case jl => (intro _; k_mem)); (case jT => k_asm); (case jk => exact rfl); (case jd => ((try dsimp only [ktrTop]); omega)); (case ju => ((try dsimp only [ktrTop]); omega)); (case p0 => first | with_reducible assumption | exact ints_append (.cons _ _ .nil) (by with_reducible assumption) | exact ints_append (by with_reducible assumption) (.cons _ _ .nil) | exact ints_append (ints_append (.cons _ _ .nil) (by with_reducible assumption)) (.cons _ _ .nil)); (case p1 => first | with_reducible assumption | exact Hid.out (by with_reducible assumption) | omega); (case p2 => first | with_reducible assumption | exact Hid.out (by with_reducible assumption) | omega); (case p3 => first | with_reducible assumption | exact Hid.out (by with_reducible assumption) | omega); (case p4 => first | with_reducible assumption | exact Hid.out (by with_reducible assumption)); k_whole); intro _ _ _ _ _ _ _; (try dsimp only); (try k_fold)) | (k_here; (with_reducible show wpAny _ _ (call (Value.ref 35) _) _ _ _); k_dflt (refine' i2d_use ?jR ?jB ?jF ?jX ?jC1 ?jC2 ?jN ?jG ?jT ?jk ?jd ?ju ?p1 ?p2 ?p3 ?p4 ?_; (case jR => with_reducible assumption); (case jB => k_asm); (case jF => k_asm); (case jX => k_asm); (case jC1 => with_reducible assumption); (case jC2 => with_reducible assumption); (case jN => k_asm); (case jG => wtm_at "r0"); (case jT => k_asm); (case jk => exact rfl); (case jd => ((try dsimp only [ktrTop]); omega)); (case ju => ((try dsimp only [ktrTop]); omega)); (case p1 => first | with_reducible assumption | exact Hid.out (by with_reducible assumption) | omega); (case p2 => first | with_reducible assumption | exact Hid.out (by with_reducible assumption) | omega); (case p3 => first | with_reducible assumption | exact Hid.out (by with_reducible assumption) | omega); (case p4 => first | with_reducible assumption | exact Hid.out (by with_reducible assumption)); k_whole); intro _ _ _ _ _ _ _ _ _ _ _; (try dsimp only); (try k_fold)))) | (k_here; (with_reducible show wpAny _ _ (callWith _ (Value.ref _) [] _ _) _ _ _); k_dflt (first | (refine' callWith_K ?k1 ?k2 ?_; (case k1 => k_asm); (case k2 => k_is); k_whole) | (refine' callWith_K0 ?k1 ?k2 ?_; (case k1 => k_in); (case k2 => k_is); k_whole))) | (k_here; (with_reducible show wpAny _ _ (eval (PySem.Expr.ListComp _ [PySem.Comprehension.mk _ _ [_] _] _ _) _) _ _ _); k_dflt (refine LCt.ListComp_T (F₀ := by k_asm) (by with_unfolding_all rfl) (by decide) (by rfl) (by decide) (by rfl) ?_)) | ((with_reducible show wpAny _ _ (call _ _) _ _ _); first | (k_here; (with_reducible show wpAny _ _ (call (Value.ref 42) _) _ _ _); k_dflt (refine' d2i_use ?jR ?jB ?jF ?jX ?jC1 ?jC2 ?jN ?jG ?jl ?jT ?jk ?jd ?ju ?p0 ?p1 ?p2 ?p3 ?p4 ?_; (case jR => with_reducible assumption); (case jB => k_asm); (case jF => k_asm); (case jX => k_asm); (case jC1 => with_reducible assumption); (case jC2 => with_reducible assumption); (case jN => k_asm); (case jG => wtm_at "r0"); (case jl => (intro _; k_mem)); (case jT => k_asm); (case jk => exact rfl); (case jd => ((try dsimp only [ktrTop]); omega)); (case ju => ((try dsimp only [ktrTop]); omega)); (case p0 => first | with_reducible assumption | exact ints_append (.cons _ _ .nil) (by with_reducible assumption) | exact ints_append (by with_reducible assumption) (.cons _ _ .nil) | exact ints_append (ints_append (.cons _ _ .nil) (by with_reducible assumption)) (.cons _ _ .nil)); (case p1 => first | with_reducible assumption | exact Hid.out (by with_reducible assumption) | omega); (case p2 => first | with_reducible assumption | exact Hid.out (by with_reducible assumption) | omega); (case p3 => first | with_reducible assumption | exact Hid.out (by with_reducible assumption) | omega); (case p4 => first | with_reducible assumption | exact Hid.out (by with_reducible assumption)); k_whole); intro _ _ _ _ _ _ _; (try dsimp only); (try k_fold)) | (k_here; (with_reducible show wpAny _ _ (call (Value.ref 35) _) _ _ _); k_dflt (refine' i2d_use ?jR ?jB ?jF ?jX ?jC1 ?jC2 ?jN ?jG ?jT ?jk ?jd ?ju ?p1 ?p2 ?p3 ?p4 ?_; (case jR => with_reducible assumption); (case jB => k_asm); (case jF => k_asm); (case jX => k_asm); (case jC1 => with_reducible assumption); (case jC2 => with_reducible assumption); (case jN => k_asm); (case jG => wtm_at "r0"); (case jT => k_asm); (case jk => exact rfl); (case jd => ((try dsimp only [ktrTop]); omega)); (case ju => ((try dsimp only [ktrTop]); omega)); (case p1 => first | with_reducible assumption | exact Hid.out (by with_reducible assumption) | omega); (case p2 => first | with_reducible assumption | exact Hid.out (by with_reducible assumption) | omega); (case p3 => first | with_reducible assumption | exact Hid.out (by with_reducible assumption) | omega); (case p4 => first | with_reducible assumption | exact Hid.out (by with_reducible assumption)); k_whole); intro _ _ _ _ _ _ _ _ _ _ _; (try dsimp only); (try k_fold))) | walk1) | (leave1; (try dsimp only)) | fail "no step"))
    rename Obj => oN
    rename Obj.data oN = _ => dN
    rename IntsAre _ (digs _ _ _) => hi9
    rename (37 : Nat) < _ => hD37
    rw [g5] at hi9
    clear g5
    refine' srcT_list (its := vf.toArray) rfl ?z0 ?z1 ?z2 ?z3 rfl rfl (by decide) (fun q ys => IntsAre ys (if f.contains 1 then f.take q else [])) ?z4 ?st ?fi
    case z0 => k_asm
    case z1 => k_asm
    case z2 => k_mem
    case z3 => rw [List.size_toArray]; omega
    case z4 => (cases f.contains 1 <;> exact .nil)
    case st =>
      intro g8 q v ys I8 oI8 C8 oC8 D8 m8 h8 tk8 E8 hq hv hys hoC hb Ft8 Nt8
      (repeat' ((fail_if_success (with_reducible show wpAny _ _ (call (Value.ref 112) _) _ _ _)); first | (k_unfold; (try dsimp only)) | (k_end; wrow_close) | with_reducible (first | (k_here; (with_reducible show wpAny _ _ (callWith _ (Value.ref _) [] _ _) _ _ _); k_dflt (first | (refine' callWith_K ?k1 ?k2 ?_; (case k1 => k_asm); (case k2 => k_is); k_whole) | (refine' callWith_K0 ?k1 ?k2 ?_; (case k1 => k_in); (case k2 => k_is); k_whole)))) | (k_here; (with_reducible show wpAny _ _ (callWith _ (Value.ref _) [] _ _) _ _ _); k_dflt (first | (refine' callWith_K ?k1 ?k2 ?_; (case k1 => k_asm); (case k2 => k_is); k_whole) | (refine' callWith_K0 ?k1 ?k2 ?_; (case k1 => k_in); (case k2 => k_is); k_whole))) | walk1 | (dsimp only; first | with_reducible (first | (k_here; (with_reducible show wpAny _ _ (callWith _ (Value.ref _) [] _ _) _ _ _); k_dflt (first | (refine' callWith_K ?k1 ?k2 ?_; (case k1 => k_asm); (case k2 => k_is); k_whole) | (refine' callWith_K0 ?k1 ?k2 ?_; (case k1 => k_in); (case k2 => k_is); k_whole)))) | (k_here; (with_reducible show wpAny _ _ (callWith _ (Value.ref _) [] _ _) _ _ _); k_dflt (first | (refine' callWith_K ?k1 ?k2 ?_; (case k1 => k_asm); (case k2 => k_is); k_whole) | (refine' callWith_K0 ?k1 ?k2 ?_; (case k1 => k_in); (case k2 => k_is); k_whole))) | walk1) | (leave1; (try dsimp only)) | fail "no step"))
      refine contains_R (xs := f.map PyData.int) (d := .int 1) (by k_asm) (by k_asm) (by k_asm) (by k_asm) (by k_asm) rfl (by dsimp only [ktrTop, Around.deeper]; omega) (by dsimp only [ktrTop, Around.deeper]; omega) ?_ ?_ rfl ?_ ?_
      · intro h9 hm9
        exact ⟨⟨_, .list (hm9 (fe, listOf vf.toArray kf) (by k_mem)) rfl rfl (reads_ints h9 hvf)⟩, ⟨_, .int 1 _⟩⟩
      · exact ints_lay f
      · decide
      · intro h9 tk9 Fe Ne
        rw [any_ints]
        k_steps
        refine TestEnd.intro (by with_reducible assumption) (by with_reducible assumption) (fun p hp => hp) ?_
        obtain ⟨kk, tb, rfl, hkk, htk⟩ := ints_at hvf hv
        cases hc : f.contains 1 with
        | true =>
          rw [hc] at hys
          simp only [if_true] at hys ⊢
          rw [htk]
          exact ints_snoc hys
        | false =>
          rw [hc] at hys
          simpa using hys
    case fi =>
      intro g8 ys hys
      (walk1; try dsimp only)
      rename_i D1 h1 tk1 F1 N1 off1
      have hD1 := off_tabs off1.2.2.2.2.2 hG' (by with_reducible assumption)
      rw [List.size_toArray, hvf.length, List.take_length] at hys
      have e27 : (2 : Int) ^ 27 = 134217728 := by decide
      have b1 : (Builtin.Int.intBits 1 : Int) = 1 := by decide
      have eA : (wd * (1 + ((vf.toArray.size : Nat) : Int))).toNat = wd.toNat * (1 + f.length) := by
        rw [List.size_toArray, hvf.length]
        have : wd * (1 + ((f.length : Nat) : Int)) = ((wd.toNat * (1 + f.length) : Nat) : Int) := by
          push_cast; rw [Int.toNat_of_nonneg hw0]
        rw [this, Int.toNat_natCast]
      have hA3 : wd.toNat * (1 + f.length) ≤ 400 * 3 := Nat.mul_le_mul hW4 (Nat.add_le_add_left hfl 1)
      have hA1 : wd.toNat * 1 ≤ wd.toNat * (1 + f.length) := Nat.mul_le_mul_left _ (Nat.le_add_right _ _)
      have q0 : 0 ≤ wd * (1 + ((vf.toArray.size : Nat) : Int)) := Int.mul_nonneg hw0 (Int.add_nonneg (by decide) (Int.natCast_nonneg _))
      have q1 : (Builtin.Int.intBits 1 : Int) + wd * (1 + ((vf.toArray.size : Nat) : Int)) ≤ 2 ^ 27 := by rw [b1, e27]; exact one_le27 eA (Nat.le_trans hA3 (by decide))
      have q2 : 0 ≤ N0 := by rw [← hN0]; exact (dval_bounds f2).1
      have q3 : 0 < (1 : Int) * 2 ^ (wd * (1 + ((vf.toArray.size : Nat) : Int))).toNat := by rw [Int.one_mul]; exact pow2_pos _
      have q4 : Builtin.Int.intBits ((1 : Int) * 2 ^ (wd * (1 + ((vf.toArray.size : Nat) : Int))).toNat) ≤ 8000 := by rw [bits_pow, eA]; exact Nat.succ_le_succ (Nat.le_trans hA3 (by decide))
      have q5 : LtPow N0.toNat (Builtin.Int.intBits ((1 : Int) * 2 ^ (wd * (1 + ((vf.toArray.size : Nat) : Int))).toNat) * 50) := by
        rw [bits_pow, eA]
        refine Nat.lt_of_lt_of_le (ltPow_int q2 (hN0 ▸ (dval_bounds f2).2)) (Nat.pow_le_pow_right (by decide) ?_)
        refine Nat.le_trans (Nat.mul_le_mul_left _ f1) (Nat.mul_le_mul_right _ ?_)
        exact Nat.le_succ_of_le (by rw [Nat.mul_one] at hA1; exact hA1)
      have q6 : LtPow ((1 : Int) * 2 ^ (wd * (1 + ((vf.toArray.size : Nat) : Int))).toNat).toNat 4000 ∨ LtPow N0.toNat (Builtin.Int.intBits ((1 : Int) * 2 ^ (wd * (1 + ((vf.toArray.size : Nat) : Int))).toNat) + 4000) := .inl (ltPow_top (by rw [eA]; exact Nat.lt_of_le_of_lt hA3 (by decide)))
      have q7 : ([(1 : Int)] ++ f).length ≤ 50 := by
        simp only [List.length_append, List.length_cons, List.length_nil]
        exact Nat.le_trans (Nat.add_le_add_left hfl _) (by decide)
      have q8 : Figs wd.toNat ([(1 : Int)] ++ f) := figs_bits hW fun x hx => by
        rcases List.mem_append.mp hx with hx | hx
        · exact .inr (List.mem_singleton.mp hx)
        · exact hfb x hx
      obtain ⟨RV, hRV⟩ : ∃ RV, N0 / ((1 : Int) * 2 ^ (wd * (1 + ((vf.toArray.size : Nat) : Int))).toNat) = RV := ⟨_, rfl⟩
      obtain ⟨bg, hbg⟩ : ∃ bg : Bool, (N0 % ((1 : Int) * 2 ^ (wd * (1 + ((vf.toArray.size : Nat) : Int))).toNat) == dval wd.toNat ([1] ++ f)) = bg := ⟨_, rfl⟩
      (repeat' ((fail_if_success (with_reducible show wpAny _ _ (exec (PySem.Stmt.For _ _ _ _ _) _) _ _ _)); first | (k_unfold; (try dsimp only)) | (k_end; wrow_close) | with_reducible (first | (k_here; (with_reducible show wpAny _ _ (callWith _ (Value.ref _) [] _ _) _ _ _); k_dflt (first | (refine' callWith_K ?k1 ?k2 ?_; (case k1 => k_asm); (case k2 => k_is); k_whole) | (refine' callWith_K0 ?k1 ?k2 ?_; (case k1 => k_in); (case k2 => k_is); k_whole))) | ((with_reducible show wpAny _ _ (call _ _) _ _ _); first | (k_here; (with_reducible show wpAny _ _ (call (Value.ref 56) _) _ _ _); k_dflt (refine' int_divmod_spec ?jR ?jB ?jF ?jX ?jC1 ?jC2 ?jN ?jG ?jT ?jk ?jd ?ju ?p0 ?p1 ?p2 ?p3 ?p4 ?_; (case jR => with_reducible assumption); (case jB => k_asm); (case jF => k_asm); (case jX => k_asm); (case jC1 => with_reducible assumption); (case jC2 => with_reducible assumption); (case jN => k_asm); (case jG => wtm_at "r0"); (case jT => k_asm); (case jk => exact rfl); (case jd => ((try dsimp only [ktrTop]); omega)); (case ju => ((try dsimp only [ktrTop]); omega)); (case p0 => first | with_reducible assumption | exact Hid.out (by with_reducible assumption)); (case p1 => first | with_reducible assumption | exact Hid.out (by with_reducible assumption)); (case p2 => first | with_reducible assumption | exact Hid.out (by with_reducible assumption)); (case p3 => first | with_reducible assumption | exact Hid.out (by with_reducible assumption)); (case p4 => first | with_reducible assumption | exact Hid.out (by with_reducible assumption)); k_whole); wtm_at "t9") | (k_here; (with_reducible show wpAny _ _ (call (Value.ref 70) [Value.int _ _, Value.int _ _]) _ _ _); k_dflt (refine' op_lshift ?jB ?jF ?jX ?jN ?jT ?jk ?jd ?ju ?p1 ?p2 ?_; (case jB => k_asm); (case jF => k_asm); (case jX => k_asm); (case jN => k_asm); (case jT => k_asm); (case jk => exact rfl); (case jd => ((try dsimp only [ktrTop]); omega)); (case ju => ((try dsimp only [ktrTop]); omega)); (case p1 => first | exact Hid.out (by with_reducible assumption) | with_reducible assumption | omega); (case p2 => first | with_reducible assumption | exact Hid.out (by with_reducible assumption)); k_whole); intro _ _ _ _ _; (try dsimp only); (try k_fold)) | (k_here; (with_reducible show wpAny _ _ (call (Value.ref 105) [Value.ref _, Value.ref _]) _ _ _); k_dflt (refine' concat_list ?jB ?jF ?jX ?jN ?jT ?jk ?jd ?ju ?p1 ?p2 ?p3 ?_; (case jB => k_asm); (case jF => k_asm); (case jX => k_asm); (case jN => k_asm); (case jT => k_asm); (case jk => exact rfl); (case jd => ((try dsimp only [ktrTop]); omega)); (case ju => ((try dsimp only [ktrTop]); omega)); (case p1 => k_mem); (case p2 => k_mem); (case p3 => first | with_reducible assumption | exact size_okC (Nat.le_of_ble_eq_true rfl) | exact size_okC (by simp only [List.length_append, List.length_cons, List.length_nil]; omega)); k_whole); wtm_at "t7") | (k_here; (with_reducible show wpAny _ _ (call (Value.ref 42) _) _ _ _); k_dflt (refine' d2i_use ?jR ?jB ?jF ?jX ?jC1 ?jC2 ?jN ?jG ?jl ?jT ?jk ?jd ?ju ?p0 ?p1 ?p2 ?p3 ?p4 ?_; (case jR => with_reducible assumption); (case jB => k_asm); (case jF => k_asm); (case jX => k_asm); (case jC1 => with_reducible assumption); (case jC2 => with_reducible assumption); (case jN => k_asm); (case jG => wtm_at "r0"); (case jl => (intro _; k_mem)); (case jT => k_asm); (case jk => exact rfl); (case jd => ((try dsimp only [ktrTop]); omega)); (case ju => ((try dsimp only [ktrTop]); omega)); (case p0 => first | with_reducible assumption | exact ints_append (.cons _ _ .nil) (by with_reducible assumption) | exact ints_append (by with_reducible assumption) (.cons _ _ .nil) | exact ints_append (ints_append (.cons _ _ .nil) (by with_reducible assumption)) (.cons _ _ .nil)); (case p1 => first | with_reducible assumption | exact Hid.out (by with_reducible assumption) | omega); (case p2 => first | with_reducible assumption | exact Hid.out (by with_reducible assumption) | omega); (case p3 => first | with_reducible assumption | exact Hid.out (by with_reducible assumption) | omega); (case p4 => first | with_reducible assumption | exact Hid.out (by with_reducible assumption)); k_whole); intro _ _ _ _ _ _ _; (try dsimp only); (try k_fold)) | (k_here; (with_reducible show wpAny _ _ (call (Value.builtin "len") [Value.ref _]) _ _ _); k_dflt (refine' len_L ?j1 ?j2 ?j3 ?_; (case j1 => k_asm); (case j2 => k_mem); (case j3 => first | with_reducible assumption | omega | (simp only [List.size_toArray]; omega)))))) | (k_here; (with_reducible show wpAny _ _ (callWith _ (Value.ref _) [] _ _) _ _ _); k_dflt (first | (refine' callWith_K ?k1 ?k2 ?_; (case k1 => k_asm); (case k2 => k_is); k_whole) | (refine' callWith_K0 ?k1 ?k2 ?_; (case k1 => k_in); (case k2 => k_is); k_whole))) | ((with_reducible show wpAny _ _ (call _ _) _ _ _); first | (k_here; (with_reducible show wpAny _ _ (call (Value.ref 56) _) _ _ _); k_dflt (refine' int_divmod_spec ?jR ?jB ?jF ?jX ?jC1 ?jC2 ?jN ?jG ?jT ?jk ?jd ?ju ?p0 ?p1 ?p2 ?p3 ?p4 ?_; (case jR => with_reducible assumption); (case jB => k_asm); (case jF => k_asm); (case jX => k_asm); (case jC1 => with_reducible assumption); (case jC2 => with_reducible assumption); (case jN => k_asm); (case jG => wtm_at "r0"); (case jT => k_asm); (case jk => exact rfl); (case jd => ((try dsimp only [ktrTop]); omega)); (case ju => ((try dsimp only [ktrTop]); omega)); (case p0 => first | with_reducible assumption | exact Hid.out (by with_reducible assumption)); (case p1 => first | with_reducible assumption | exact Hid.out (by with_reducible assumption)); (case p2 => first | with_reducible assumption | exact Hid.out (by with_reducible assumption)); (case p3 => first | with_reducible assumption | exact Hid.out (by with_reducible assumption)); (case p4 => first | with_reducible assumption | exact Hid.out (by with_reducible assumption)); k_whole); wtm_at "t9") | (k_here; (with_reducible show wpAny _ _ (call (Value.ref 70) [Value.int _ _, Value.int _ _]) _ _ _); k_dflt (refine' op_lshift ?jB ?jF ?jX ?jN ?jT ?jk ?jd ?ju ?p1 ?p2 ?_; (case jB => k_asm); (case jF => k_asm); (case jX => k_asm); (case jN => k_asm); (case jT => k_asm); (case jk => exact rfl); (case jd => ((try dsimp only [ktrTop]); omega)); (case ju => ((try dsimp only [ktrTop]); omega)); (case p1 => first | exact Hid.out (by with_reducible assumption) | with_reducible assumption | omega); (case p2 => first | with_reducible assumption | exact Hid.out (by with_reducible assumption)); k_whole); intro _ _ _ _ _; (try dsimp only); (try k_fold)) | (k_here; (with_reducible show wpAny _ _ (call (Value.ref 105) [Value.ref _, Value.ref _]) _ _ _); k_dflt (refine' concat_list ?jB ?jF ?jX ?jN ?jT ?jk ?jd ?ju ?p1 ?p2 ?p3 ?_; (case jB => k_asm); (case jF => k_asm); (case jX => k_asm); (case jN => k_asm); (case jT => k_asm); (case jk => exact rfl); (case jd => ((try dsimp only [ktrTop]); omega)); (case ju => ((try dsimp only [ktrTop]); omega)); (case p1 => k_mem); (case p2 => k_mem); (case p3 => first | with_reducible assumption | exact size_okC (Nat.le_of_ble_eq_true rfl) | exact size_okC (by simp only [List.length_append, List.length_cons, List.length_nil]; omega)); k_whole); wtm_at "t7") | (k_here; (with_reducible show wpAny _ _ (call (Value.ref 42) _) _ _ _); k_dflt (refine' d2i_use ?jR ?jB ?jF ?jX ?jC1 ?jC2 ?jN ?jG ?jl ?jT ?jk ?jd ?ju ?p0 ?p1 ?p2 ?p3 ?p4 ?_; (case jR => with_reducible assumption); (case jB => k_asm); (case jF => k_asm); (case jX => k_asm); (case jC1 => with_reducible assumption); (case jC2 => with_reducible assumption); (case jN => k_asm); (case jG => wtm_at "r0"); (case jl => (intro _; k_mem)); (case jT => k_asm); (case jk => exact rfl); (case jd => ((try dsimp only [ktrTop]); omega)); (case ju => ((try dsimp only [ktrTop]); omega)); (case p0 => first | with_reducible assumption | exact ints_append (.cons _ _ .nil) (by with_reducible assumption) | exact ints_append (by with_reducible assumption) (.cons _ _ .nil) | exact ints_append (ints_append (.cons _ _ .nil) (by with_reducible assumption)) (.cons _ _ .nil)); (case p1 => first | with_reducible assumption | exact Hid.out (by with_reducible assumption) | omega); (case p2 => first | with_reducible assumption | exact Hid.out (by with_reducible assumption) | omega); (case p3 => first | with_reducible assumption | exact Hid.out (by with_reducible assumption) | omega); (case p4 => first | with_reducible assumption | exact Hid.out (by with_reducible assumption)); k_whole); intro _ _ _ _ _ _ _; (try dsimp only); (try k_fold)) | (k_here; (with_reducible show wpAny _ _ (call (Value.builtin "len") [Value.ref _]) _ _ _); k_dflt (refine' len_L ?j1 ?j2 ?j3 ?_; (case j1 => k_asm); (case j2 => k_mem); (case j3 => first | with_reducible assumption | omega | (simp only [List.size_toArray]; omega))))) | walk1 | (dsimp only; first | with_reducible (first | (k_here; (with_reducible show wpAny _ _ (callWith _ (Value.ref _) [] _ _) _ _ _); k_dflt (first | (refine' callWith_K ?k1 ?k2 ?_; (case k1 => k_asm); (case k2 => k_is); k_whole) | (refine' callWith_K0 ?k1 ?k2 ?_; (case k1 => k_in); (case k2 => k_is); k_whole))) | ((with_reducible show wpAny _ _ (call _ _) _ _ _); first | (k_here; (with_reducible show wpAny _ _ (call (Value.ref 56) _) _ _ _); k_dflt (refine' int_divmod_spec ?jR ?jB ?jF ?jX ?jC1 ?jC2 ?jN ?jG ?jT ?jk ?jd ?ju ?p0 ?p1 ?p2 ?p3 ?p4 ?_; (case jR => with_reducible assumption); (case jB => k_asm); (case jF => k_asm); (case jX => k_asm); (case jC1 => with_reducible assumption); (case jC2 => with_reducible assumption); (case jN => k_asm); (case jG => wtm_at "r0"); (case jT => k_asm); (case jk => exact rfl); (case jd => ((try dsimp only [ktrTop]); omega)); (case ju => ((try dsimp only [ktrTop]); omega)); (case p0 => first | with_reducible assumption | exact Hid.out (by with_reducible assumption)); (case p1 => first | with_reducible assumption | exact Hid.out (by with_reducible assumption)); (case p2 => first | with_reducible assumption | exact Hid.out (by with_reducible assumption)); (case p3 => first | with_reducible assumption | exact Hid.out (by with_reducible assumption)); (case p4 => first | with_reducible assumption | exact Hid.out (by with_reducible assumption)); k_whole); wtm_at "t9") | (k_here; (with_reducible show wpAny _ _ (call (Value.ref 70) [Value.int _ _, Value.int _ _]) _ _ _); k_dflt (refine' op_lshift ?jB ?jF ?jX ?jN ?jT ?jk ?jd ?ju ?p1 ?p2 ?_; (case jB => k_asm); (case jF => k_asm); (case jX => k_asm); (case jN => k_asm); (case jT => k_asm); (case jk => exact rfl); (case jd => ((try dsimp only [ktrTop]); omega)); (case ju => ((try dsimp only [ktrTop]); omega)); (case p1 => first | exact Hid.out (by with_reducible assumption) | with_reducible assumption | omega); (case p2 => first | with_reducible assumption | exact Hid.out (by with_reducible assumption)); k_whole); intro _ _ _ _ _; (try dsimp only); (try k_fold)) | (k_here; (with_reducible show wpAny _ _ (call (Value.ref 105) [Value.ref _, Value.ref _]) _ _ _); k_dflt (refine' concat_list ?jB ?jF ?jX ?jN ?jT ?jk ?jd ?ju ?p1 ?p2 ?p3 ?_; (case jB => k_asm); (case jF => k_asm); (case jX => k_asm); (case jN => k_asm); (case jT => k_asm); (case jk => exact rfl); (case jd => ((try dsimp only [ktrTop]); omega)); (case ju => ((try dsimp only [ktrTop]); omega)); (case p1 => k_mem); (case p2 => k_mem); (case p3 => first | with_reducible assumption | exact size_okC (Nat.le_of_ble_eq_true rfl) | exact size_okC (by simp only [List.length_append, List.length_cons, List.length_nil]; omega)); k_whole); wtm_at "t7") | (k_here; (with_reducible show wpAny _ _ (call (Value.ref 42) _) _ _ _); k_dflt (refine' d2i_use ?jR ?jB ?jF ?jX ?jC1 ?jC2 ?jN ?jG ?jl ?jT ?jk ?jd ?ju ?p0 ?p1 ?p2 ?p3 ?p4 ?_; (case jR => with_reducible assumption); (case jB => k_asm); (case jF => k_asm); (case jX => k_asm); (case jC1 => with_reducible assumption); (case jC2 => with_reducible assumption); (case jN => k_asm); (case jG => wtm_at "r0"); (case jl => (intro _; k_mem)); (case jT => k_asm); (case jk => exact rfl); (case jd => ((try dsimp only [ktrTop]); omega)); (case ju => ((try dsimp only [ktrTop]); omega)); (case p0 => first | with_reducible assumption | exact ints_append (.cons _ _ .nil) (by with_reducible assumption) | exact ints_append (by with_reducible assumption) (.cons _ _ .nil) | exact ints_append (ints_append (.cons _ _ .nil) (by with_reducible assumption)) (.cons _ _ .nil)); (case p1 => first | with_reducible assumption | exact Hid.out (by with_reducible assumption) | omega); (case p2 => first | with_reducible assumption | exact Hid.out (by with_reducible assumption) | omega); (case p3 => first | with_reducible assumption | exact Hid.out (by with_reducible assumption) | omega); (case p4 => first | with_reducible assumption | exact Hid.out (by with_reducible assumption)); k_whole); intro _ _ _ _ _ _ _; (try dsimp only); (try k_fold)) | (k_here; (with_reducible show wpAny _ _ (call (Value.builtin "len") [Value.ref _]) _ _ _); k_dflt (refine' len_L ?j1 ?j2 ?j3 ?_; (case j1 => k_asm); (case j2 => k_mem); (case j3 => first | with_reducible assumption | omega | (simp only [List.size_toArray]; omega)))))) | (k_here; (with_reducible show wpAny _ _ (callWith _ (Value.ref _) [] _ _) _ _ _); k_dflt (first | (refine' callWith_K ?k1 ?k2 ?_; (case k1 => k_asm); (case k2 => k_is); k_whole) | (refine' callWith_K0 ?k1 ?k2 ?_; (case k1 => k_in); (case k2 => k_is); k_whole))) | ((with_reducible show wpAny _ _ (call _ _) _ _ _); first | (k_here; (with_reducible show wpAny _ _ (call (Value.ref 56) _) _ _ _); k_dflt (refine' int_divmod_spec ?jR ?jB ?jF ?jX ?jC1 ?jC2 ?jN ?jG ?jT ?jk ?jd ?ju ?p0 ?p1 ?p2 ?p3 ?p4 ?_; (case jR => with_reducible assumption); (case jB => k_asm); (case jF => k_asm); (case jX => k_asm); (case jC1 => with_reducible assumption); (case jC2 => with_reducible assumption); (case jN => k_asm); (case jG => wtm_at "r0"); (case jT => k_asm); (case jk => exact rfl); (case jd => ((try dsimp only [ktrTop]); omega)); (case ju => ((try dsimp only [ktrTop]); omega)); (case p0 => first | with_reducible assumption | exact Hid.out (by with_reducible assumption)); (case p1 => first | with_reducible assumption | exact Hid.out (by with_reducible assumption)); (case p2 => first | with_reducible assumption | exact Hid.out (by with_reducible assumption)); (case p3 => first | with_reducible assumption | exact Hid.out (by with_reducible assumption)); (case p4 => first | with_reducible assumption | exact Hid.out (by with_reducible assumption)); k_whole); wtm_at "t9") | (k_here; (with_reducible show wpAny _ _ (call (Value.ref 70) [Value.int _ _, Value.int _ _]) _ _ _); k_dflt (refine' op_lshift ?jB ?jF ?jX ?jN ?jT ?jk ?jd ?ju ?p1 ?p2 ?_; (case jB => k_asm); (case jF => k_asm); (case jX => k_asm); (case jN => k_asm); (case jT => k_asm); (case jk => exact rfl); (case jd => ((try dsimp only [ktrTop]); omega)); (case ju => ((try dsimp only [ktrTop]); omega)); (case p1 => first | exact Hid.out (by with_reducible assumption) | with_reducible assumption | omega); (case p2 => first | with_reducible assumption | exact Hid.out (by with_reducible assumption)); k_whole); intro _ _ _ _ _; (try dsimp only); (try k_fold)) | (k_here; (with_reducible show wpAny _ _ (call (Value.ref 105) [Value.ref _, Value.ref _]) _ _ _); k_dflt (refine' concat_list ?jB ?jF ?jX ?jN ?jT ?jk ?jd ?ju ?p1 ?p2 ?p3 ?_; (case jB => k_asm); (case jF => k_asm); (case jX => k_asm); (case jN => k_asm); (case jT => k_asm); (case jk => exact rfl); (case jd => ((try dsimp only [ktrTop]); omega)); (case ju => ((try dsimp only [ktrTop]); omega)); (case p1 => k_mem); (case p2 => k_mem); (case p3 => first | with_reducible assumption | exact size_okC (Nat.le_of_ble_eq_true rfl) | exact size_okC (by simp only [List.length_append, List.length_cons, List.length_nil]; omega)); k_whole); wtm_at "t7") | (k_here; (with_reducible show wpAny _ _ (call (Value.ref 42) _) _ _ _); k_dflt (refine' d2i_use ?jR ?jB ?jF ?jX ?jC1 ?jC2 ?jN ?jG ?jl ?jT ?jk ?jd ?ju ?p0 ?p1 ?p2 ?p3 ?p4 ?_; (case jR => with_reducible assumption); (case jB => k_asm); (case jF => k_asm); (case jX => k_asm); (case jC1 => with_reducible assumption); (case jC2 => with_reducible assumption); (case jN => k_asm); (case jG => wtm_at "r0"); (case jl => (intro _; k_mem)); (case jT => k_asm); (case jk => exact rfl); (case jd => ((try dsimp only [ktrTop]); omega)); (case ju => ((try dsimp only [ktrTop]); omega)); (case p0 => first | with_reducible assumption | exact ints_append (.cons _ _ .nil) (by with_reducible assumption) | exact ints_append (by with_reducible assumption) (.cons _ _ .nil) | exact ints_append (ints_append (.cons _ _ .nil) (by with_reducible assumption)) (.cons _ _ .nil)); (case p1 => first | with_reducible assumption | exact Hid.out (by with_reducible assumption) | omega); (case p2 => first | with_reducible assumption | exact Hid.out (by with_reducible assumption) | omega); (case p3 => first | with_reducible assumption | exact Hid.out (by with_reducible assumption) | omega); (case p4 => first | with_reducible assumption | exact Hid.out (by with_reducible assumption)); k_whole); intro _ _ _ _ _ _ _; (try dsimp only); (try k_fold)) | (k_here; (with_reducible show wpAny _ _ (call (Value.builtin "len") [Value.ref _]) _ _ _); k_dflt (refine' len_L ?j1 ?j2 ?j3 ?_; (case j1 => k_asm); (case j2 => k_mem); (case j3 => first | with_reducible assumption | omega | (simp only [List.size_toArray]; omega))))) | walk1) | (leave1; (try dsimp only)) | fail "no step"))
      k_here
      (rename Fr _ _ _ _ => lF; with_unfolding_all refine' For_turns lF ?_)
      k_whole
      clear q1 q2 q3 q4 q5 q6 q7 q8
      (repeat' ((fail_if_success (with_reducible show wpAny _ _ (pyIter _) _ _ _)); first | (k_unfold; (try dsimp only)) | (k_end; wrow_close) | with_reducible (first | (k_here; (with_reducible show wpAny _ _ (call (Value.ref 141) _) _ _ _); k_dflt (refine' ends_spec ?jB ?jF ?jX ?jN ?jT ?jk ?jd ?ju ?_; (case jB => k_asm); (case jF => k_asm); (case jX => k_asm); (case jN => k_asm); (case jT => k_asm); (case jk => exact rfl); (case jd => ((try dsimp only [ktrTop]); omega)); (case ju => ((try dsimp only [ktrTop]); omega)); k_whole); wtm_at "t10") | (k_here; (with_reducible show wpAny _ _ (callWith _ (Value.ref _) [] _ _) _ _ _); k_dflt (first | (refine' callWith_K ?k1 ?k2 ?_; (case k1 => k_asm); (case k2 => k_is); k_whole) | (refine' callWith_K0 ?k1 ?k2 ?_; (case k1 => k_in); (case k2 => k_is); k_whole)))) | (k_here; (with_reducible show wpAny _ _ (call (Value.ref 141) _) _ _ _); k_dflt (refine' ends_spec ?jB ?jF ?jX ?jN ?jT ?jk ?jd ?ju ?_; (case jB => k_asm); (case jF => k_asm); (case jX => k_asm); (case jN => k_asm); (case jT => k_asm); (case jk => exact rfl); (case jd => ((try dsimp only [ktrTop]); omega)); (case ju => ((try dsimp only [ktrTop]); omega)); k_whole); wtm_at "t10") | (k_here; (with_reducible show wpAny _ _ (callWith _ (Value.ref _) [] _ _) _ _ _); k_dflt (first | (refine' callWith_K ?k1 ?k2 ?_; (case k1 => k_asm); (case k2 => k_is); k_whole) | (refine' callWith_K0 ?k1 ?k2 ?_; (case k1 => k_in); (case k2 => k_is); k_whole))) | walk1 | (dsimp only; first | with_reducible (first | (k_here; (with_reducible show wpAny _ _ (call (Value.ref 141) _) _ _ _); k_dflt (refine' ends_spec ?jB ?jF ?jX ?jN ?jT ?jk ?jd ?ju ?_; (case jB => k_asm); (case jF => k_asm); (case jX => k_asm); (case jN => k_asm); (case jT => k_asm); (case jk => exact rfl); (case jd => ((try dsimp only [ktrTop]); omega)); (case ju => ((try dsimp only [ktrTop]); omega)); k_whole); wtm_at "t10") | (k_here; (with_reducible show wpAny _ _ (callWith _ (Value.ref _) [] _ _) _ _ _); k_dflt (first | (refine' callWith_K ?k1 ?k2 ?_; (case k1 => k_asm); (case k2 => k_is); k_whole) | (refine' callWith_K0 ?k1 ?k2 ?_; (case k1 => k_in); (case k2 => k_is); k_whole)))) | (k_here; (with_reducible show wpAny _ _ (call (Value.ref 141) _) _ _ _); k_dflt (refine' ends_spec ?jB ?jF ?jX ?jN ?jT ?jk ?jd ?ju ?_; (case jB => k_asm); (case jF => k_asm); (case jX => k_asm); (case jN => k_asm); (case jT => k_asm); (case jk => exact rfl); (case jd => ((try dsimp only [ktrTop]); omega)); (case ju => ((try dsimp only [ktrTop]); omega)); k_whole); wtm_at "t10") | (k_here; (with_reducible show wpAny _ _ (callWith _ (Value.ref _) [] _ _) _ _ _); k_dflt (first | (refine' callWith_K ?k1 ?k2 ?_; (case k1 => k_asm); (case k2 => k_is); k_whole) | (refine' callWith_K0 ?k1 ?k2 ?_; (case k1 => k_in); (case k2 => k_is); k_whole))) | walk1) | (leave1; (try dsimp only)) | fail "no step"))
      have hRVf : Figs wd.toNat (ws.drop f.length ++ [(1 : Int)]) := figs_snoc_one hW (figs_bits hW fun x hx => hn x (List.mem_of_mem_drop hx))
      have hspl : f.length + 1 ≤ ([(1 : Int)] ++ ws ++ [(1 : Int)]).length := by
        simp only [List.length_append, List.length_cons, List.length_nil]
        exact Nat.add_le_add_right (Nat.le_trans hfw (Nat.le_add_left _ _)) 1
      have hRVd : RV = dval wd.toNat (ws.drop f.length ++ [(1 : Int)]) := by
        rw [← hRV, eA, ← hN0, Nat.add_comm 1, (dval_div f2 hspl).1]
        congr 1
        rw [List.append_assoc, List.singleton_append, List.drop_succ_cons, List.drop_append_of_le_length hfw]
      have hbgd : bg = (ws.take f.length == f) := by
        rw [← hbg, eA, ← hN0, Nat.add_comm 1, (dval_div f2 hspl).2, List.append_assoc, List.singleton_append, List.take_succ_cons, List.take_append_of_le_length hfw, List.singleton_append, dval_eq ?_ ?_ ?_]
        · rw [List.cons_beq_cons]; simp
        · exact figs_bits hW fun x hx => by
            rcases List.mem_cons.mp hx with rfl | hx
            · exact .inr rfl
            · exact hn x (List.mem_of_mem_take hx)
        · exact figs_bits hW fun x hx => by
            rcases List.mem_cons.mp hx with rfl | hx
            · exact .inr rfl
            · exact hfb x hx
        · rw [List.length_cons, List.length_cons, List.length_take, Nat.min_eq_left hfw]
      rename_i R8 hR8 _ N8 D2 y1 y2 y3 y4 y5 v1 v2 v3 v4 v5 v6 h9 tk9 o9 F9 N9 l9
      rw [hRV, hbg] at F9
      have hy37 : @LT.lt Nat _ I y1 := by wtm_at "lt"
      have hIt : (37 : Nat) < I ∧ @LT.lt Nat _ (L' + 1 + 1) I := ⟨hI37, Nat.lt_trans hT37.2 hI⟩
      refine' iter_listT (vs := [.ref y1, .ref y2, .ref y3, .ref y4, .ref y5]) (nn := 0) (news := (I, it) :: (tD, listOf items.toArray k) :: (L' + 1 + 1, oN) :: (L' + 1, oW) :: (D2, listOf #[.ref y1, .ref y2, .ref y3, .ref y4, .ref y5] 0) :: (y5, listOf #[.int 1 v5, .int 1 v6] 0) :: (y4, listOf #[.int 0 v3, .int 0 v4] 0) :: (y3, listOf #[.int 1 v2] 0) :: (y2, listOf #[.int 0 v1] 0) :: (y1, listOf #[] 0) :: G R8) (fun _ _ => rfl) rfl F9 (cb_drop N9 ?sub) ?hm
        (fun jj m₂ led₂ => FoldIn ax g sg wd tw N0 (textOf sg ws) (L' + 1) (L' + 1 + 1) tD fe vf kf I it DE [.ref x1, .ref x2, .ref x3, .ref x4, .ref x5] D2 [.ref y1, .ref y2, .ref y3, .ref y4, .ref y5] RV bg ((ENDS.take j).flatMap (foldsAt ws) ++ (ENDS.take jj).flatMap (foldOne ws f)) m₂ led₂) ?hJ0 ?hJm ?turn ?done
      case sub =>
        refine List.forall_mem_cons.mpr ⟨?_, List.forall_mem_cons.mpr ⟨?_, List.forall_mem_cons.mpr ⟨?_, List.forall_mem_cons.mpr ⟨?_, List.forall_mem_cons.mpr ⟨?_, List.forall_mem_cons.mpr ⟨?_, List.forall_mem_cons.mpr ⟨?_, List.forall_mem_cons.mpr ⟨?_, List.forall_mem_cons.mpr ⟨?_, List.forall_mem_cons.mpr ⟨?_, fun p hp => by repeat (first | exact hp | apply List.Mem.tail)⟩⟩⟩⟩⟩⟩⟩⟩⟩⟩
        all_goals (repeat (first | exact List.Mem.head _ | apply List.Mem.tail))
      case hm => exact .tail _ (.tail _ (.tail _ (.tail _ (.head _))))
      case hJ0 =>
        refine ⟨fun r => (D2, listOf #[.ref y1, .ref y2, .ref y3, .ref y4, .ref y5] 0) :: (y5, listOf #[.int 1 v5, .int 1 v6] 0) :: (y4, listOf #[.int 0 v3, .int 0 v4] 0) :: (y3, listOf #[.int 1 v2] 0) :: (y2, listOf #[.int 0 v1] 0) :: (y1, listOf #[] 0) :: G r, _, rfl, ⟨⟨R8, items, k, oN, oW, _, _, _, rfl, hR8, hoW, dN, ?_, rfl, rfl, rfl, rfl, rfl⟩, ?_, fun r p hp => .tail _ (.tail _ (.tail _ (.tail _ (.tail _ (.tail _ (hsb r p hp)))))), ?_⟩, ⟨_, rfl⟩, rfl, fun r => .tail _ (.tail _ (.tail _ (.tail _ (.tail _ (.tail _ (hDE r)))))), ?_, fun r => .head _, ?_, fun r => .tail _ (.tail _ (.tail _ (.tail _ (.tail _ (.tail _ (hm1 r)))))), ?_⟩
        · have q := paired_mono (fun _ _ => ToldItem.mono (G' := fun r => (D2, listOf #[.ref y1, .ref y2, .ref y3, .ref y4, .ref y5] 0) :: (y5, listOf #[.int 1 v5, .int 1 v6] 0) :: (y4, listOf #[.int 0 v3, .int 0 v4] 0) :: (y3, listOf #[.int 1 v2] 0) :: (y2, listOf #[.int 0 v1] 0) :: (y1, listOf #[] 0) :: G r) fun r p hp => .tail _ (.tail _ (.tail _ (.tail _ (.tail _ (.tail _ hp)))))) hP
          rw [List.take_zero, List.flatMap_nil, List.append_nil]
          exact q
        · have q := ad5 (Nat.lt_trans hIt.1 hy37) o9
          exact .cons (Mine.d1 q.2.2.2) (.cons (Mine.d1 q.2.2.1) (.cons (Mine.d1 q.2.1) (.cons (Mine.d1 q.1.2) (.cons (Mine.d1 q.1.1) (.cons (Mine.d1 (Nat.lt_trans hIt.1 hy37)) hG')))))
        · have q := ad5 (Nat.lt_trans hI hy37) o9
          exact List.forall_mem_cons.mpr ⟨ad_off hT37.2 q.2.2.2, List.forall_mem_cons.mpr ⟨ad_off hT37.2 q.2.2.1, List.forall_mem_cons.mpr ⟨ad_off hT37.2 q.2.1, List.forall_mem_cons.mpr ⟨ad_off hT37.2 q.1.2, List.forall_mem_cons.mpr ⟨ad_off hT37.2 q.1.1, List.forall_mem_cons.mpr ⟨ad_off hT37.2 (Nat.lt_trans hI hy37), hoff⟩⟩⟩⟩⟩⟩
        · exact paired_mono (fun _ _ => EndItem.mono fun r p hp => .tail _ (.tail _ (.tail _ (.tail _ (.tail _ (.tail _ hp)))))) hE
        · refine .cons ⟨y1, rfl, [], 0, .nil, fun r => ?_⟩ (.cons ⟨y2, rfl, [.int 0 v1], 0, .cons _ _ .nil, fun r => ?_⟩ (.cons ⟨y3, rfl, [.int 1 v2], 0, .cons _ _ .nil, fun r => ?_⟩ (.cons ⟨y4, rfl, [.int 0 v3, .int 0 v4], 0, .cons _ _ (.cons _ _ .nil), fun r => ?_⟩ (.cons ⟨y5, rfl, [.int 1 v5, .int 1 v6], 0, .cons _ _ (.cons _ _ .nil), fun r => ?_⟩ .nil))))
          all_goals (repeat (first | exact List.Mem.head _ | apply List.Mem.tail))
        · have q := ad5 hy37 o9
          exact List.forall_mem_cons.mpr ⟨Nat.ne_of_gt q.2.2.2, List.forall_mem_cons.mpr ⟨Nat.ne_of_gt q.2.2.1, List.forall_mem_cons.mpr ⟨Nat.ne_of_gt q.2.1, List.forall_mem_cons.mpr ⟨Nat.ne_of_gt q.1.2, List.forall_mem_cons.mpr ⟨Nat.ne_of_gt q.1.1, List.forall_mem_cons.mpr ⟨Nat.ne_of_gt hy37, fun p hp => hne p (.tail _ (.tail _ (.tail _ (led_nil hG' p hp))))⟩⟩⟩⟩⟩⟩
      case hJm =>
        rintro jj m₂ led₂ ⟨G₂, led', rfl, ⟨⟨rest', items, k, oF, oW, t1, t2, t3, rfl, _⟩, _, _, _⟩, _, _, _, _, hD2, _⟩
        exact .tail _ (.tail _ (.tail _ (.tail _ (hD2 _))))
      case done =>
        rintro m₂ led₂ h2 tk2 ⟨G₂, led', rfl, ⟨⟨rest2, items2, k2, oF2, oW2, s1, s2, s3, rfl, hR2, hoW2, hoF2, hP2, n1, n2, n3, n4, n5⟩, hG2, hsb2, hoff2⟩, ⟨s4, n6⟩, n7, hDE2, hE2, hD2m, _, _, hI0⟩ Ft2 Nt2
        rw [pin7 n1 n2 n3 n4 n5 n6 n7] at Ft2
        change Fr g' L' h2 _ at Ft2
        change News g' L' h2 _ at Nt2
        have hg2 : ∀ p ∈ G₂ rest2, p.1 ≠ I := led_off hG2 hR2 Nt2 (fun p hp => .tail _ (.tail _ (.tail _ (.tail _ hp)))) (.head _) (Mine.d1 hI37) (noCode_iter hit) hI0
        replace hg2 := Hid.mk hg2
        have hP3 : Paired (ToldItem G₂) items2 ((ENDS.take (j + 1)).flatMap (foldsAt ws)) := by
          rw [List.take_add_one, hf, List.flatMap_append, Option.toList_some, List.flatMap_cons, List.flatMap_nil, List.append_nil]
          exact hP2
        replace hI0 := Hid.mk hI0
        replace hoff2 := Hid.mk hoff2
        clear hP hP2 hE hDE hm1 ha hoff hF1 hne hD1 N9 F9 N8 lF
        dsimp only
        k_steps
        refine TurnEnd.intro Ft2 Nt2 ?_ ⟨G₂, _, ⟨⟨rest2, items2, k2, oF2, oW2, _, _, _, rfl, hR2, hoW2, hoF2, hP3, rfl, rfl, rfl, rfl, rfl⟩, hG2, hsb2, hoff2.out⟩, hDE2, hE2⟩
        refine List.forall_mem_cons.mpr ⟨?_, List.forall_mem_cons.mpr ⟨?_, List.forall_mem_cons.mpr ⟨?_, hg2.out⟩⟩⟩
        all_goals (show @Ne Nat _ _; (try dsimp only); clear hDE2 hE2 hD2m hP3; omega)
      case turn =>
        (try clear N9); (try clear F9); (try clear l9); (try clear o9); (try clear N8); (try clear lF); (try clear dN); (try clear hDE); (try clear hE); (try clear hm1); clear ha hsb; (try clear hoff); (try clear hF1); (try clear hne); (try clear hP); (try clear hD1); (try clear off1); (try clear F1); (try clear N1)
        rintro I2 jj v2 m₂ led₂ h2 tk2 it2 hit2 hlt2 hjj hv2 hJ9 hne2 Ft2 Nt2
        k_fold
        obtain ⟨G₂, led', rfl, ⟨⟨rest2, items2, k2, oF2, oW2, s1, s2, s3, rfl, hR2, hoW2, hoF2, hP2, n1, n2, n3, n4, n5⟩, hG2, hsb2, hoff2⟩, ⟨s4, n6⟩, n7, hDE, hE, hD2m, hE2, hm1, hI0⟩ := hJ9
        have ha := fun r => hsb2 r _ (ha0 r)
        rw [pin7 n1 n2 n3 n4 n5 n6 n7] at Ft2
        change Fr g' L' h2 _ at Ft2
        change News g' L' h2 _ at Nt2
        obtain ⟨e, he, ee, rfl, ve, ke, hve, hm2⟩ := paired_get hE2 hv2
        have hI2 : @LT.lt Nat _ I I2 := hlt2 (I, it) (.head _)
        have heE : e ∈ ENDS := List.mem_of_getElem? he
        obtain ⟨hel, heb⟩ : e.length ≤ 2 ∧ ∀ x ∈ e, x = 0 ∨ x = 1 := ends_facts heE
        have hev : ve.length ≤ 2 := by rw [hve.length]; exact hel
        clear hlt2 hv2 hjj n1 n2 n3 n4 n5 n6 n7
        obtain ⟨w1, w2, w3, w4, w5, w6, w7, w8⟩ := hM f hfE e heE
        replace w1 := Hid.mk w1
        replace w2 := Hid.mk w2
        replace w3 := Hid.mk w3
        replace w4 := Hid.mk w4
        replace w5 := Hid.mk w5
        replace w6 := Hid.mk w6
        replace w7 := Hid.mk w7
        have w9 : Hid ((Str.ofString "...").length ≤ 1000) := ⟨by decide +kernel⟩
        obtain ⟨sm, hsm⟩ : ∃ sm, sameOf ws f e = sm := ⟨_, rfl⟩
        rw [hsm] at w8
        replace w8 := Hid.mk w8
        clear hM
        have sA : f.length + e.length ≤ ws.length := Nat.le_trans (Nat.add_le_add hfl hel) (Nat.le_trans (by decide) hz1)
        have sB : f.length ≤ ws.length := Nat.le_trans (Nat.le_add_right _ _) sA
        have sC : e.length ≤ ws.length - f.length := Nat.le_sub_of_add_le (by rw [Nat.add_comm]; exact sA)
        have sD : ws.length - f.length - e.length ≤ 16 := Nat.le_trans (Nat.sub_le _ _) (Nat.le_trans (Nat.sub_le _ _) hz)
        have eS : (wd * (((vs.toArray.size : Nat) : Int) - ((vf.toArray.size : Nat) : Int) - ((ve.toArray.size : Nat) : Int))).toNat = wd.toNat * (ws.length - f.length - e.length) := by
          rw [List.size_toArray, List.size_toArray, List.size_toArray, hi.length, hvf.length, hve.length]
          have : wd * (((ws.length : Nat) : Int) - ((f.length : Nat) : Int) - ((e.length : Nat) : Int)) = ((wd.toNat * (ws.length - f.length - e.length) : Nat) : Int) := by
            rw [two_sub sA, Int.natCast_mul, Int.toNat_of_nonneg hw0]
          rw [this, Int.toNat_natCast]
        have hS16 : wd.toNat * (ws.length - f.length - e.length) ≤ 400 * 16 := Nat.mul_le_mul hW4 sD
        have hS2 : wd.toNat * 2 ≤ wd.toNat * (ws.length - f.length - e.length) := Nat.mul_le_mul_left _ (sg_ge hz1 hfl hel)
        have r0 : 0 ≤ wd * (((vs.toArray.size : Nat) : Int) - ((vf.toArray.size : Nat) : Int) - ((ve.toArray.size : Nat) : Int)) := Int.mul_nonneg hw0 (by rw [List.size_toArray, List.size_toArray, List.size_toArray, hi.length, hvf.length, hve.length, two_sub sA]; exact Int.natCast_nonneg _)
        have r1 : (Builtin.Int.intBits 1 : Int) + wd * (((vs.toArray.size : Nat) : Int) - ((vf.toArray.size : Nat) : Int) - ((ve.toArray.size : Nat) : Int)) ≤ 2 ^ 27 := by rw [b1, e27]; exact one_le27 eS hS16
        have r2 : 0 ≤ RV := by rw [hRVd]; exact (dval_bounds hRVf).1
        have r3 : 0 < (1 : Int) * 2 ^ (wd * (((vs.toArray.size : Nat) : Int) - ((vf.toArray.size : Nat) : Int) - ((ve.toArray.size : Nat) : Int))).toNat := by rw [Int.one_mul]; exact pow2_pos _
        have r4 : Builtin.Int.intBits ((1 : Int) * 2 ^ (wd * (((vs.toArray.size : Nat) : Int) - ((vf.toArray.size : Nat) : Int) - ((ve.toArray.size : Nat) : Int))).toNat) ≤ 8000 := by rw [bits_pow, eS]; exact Nat.succ_le_succ (Nat.le_trans hS16 (by decide))
        have hRVl : LtPow RV.toNat (wd.toNat * (ws.length - f.length + 1)) := by
          have q := (dval_bounds hRVf).2
          rw [List.length_append, List.length_drop, List.length_singleton] at q
          exact ltPow_int r2 (hRVd ▸ q)
        have hSe : wd.toNat * (ws.length - f.length + 1) ≤ wd.toNat * (ws.length - f.length - e.length) + 400 * 3 := by
          have h1 : wd.toNat * (ws.length - f.length + 1) = wd.toNat * (ws.length - f.length - e.length) + wd.toNat * (e.length + 1) := by rw [← Nat.mul_add]; congr 1; exact sg_sum sA
          have h2 : wd.toNat * (e.length + 1) ≤ 400 * 3 := Nat.mul_le_mul hW4 (Nat.succ_le_succ hel)
          rw [h1]; exact Nat.add_le_add_left h2 _
        have r5 : LtPow RV.toNat (Builtin.Int.intBits ((1 : Int) * 2 ^ (wd * (((vs.toArray.size : Nat) : Int) - ((vf.toArray.size : Nat) : Int) - ((ve.toArray.size : Nat) : Int))).toNat) * 50) := by
          rw [bits_pow, eS]
          refine Nat.lt_of_lt_of_le hRVl (Nat.pow_le_pow_right (by decide) ?_)
          refine Nat.le_trans (Nat.mul_le_mul_left _ (show ws.length - f.length + 1 ≤ 50 from Nat.add_le_add_right (Nat.le_trans (Nat.sub_le _ _) (Nat.le_trans hz (by decide) : ws.length ≤ 49)) 1)) (Nat.mul_le_mul_right _ ?_)
          exact Nat.le_succ_of_le (Nat.le_trans (Nat.le_mul_of_pos_right _ (by decide)) hS2)
        have r6 : LtPow ((1 : Int) * 2 ^ (wd * (((vs.toArray.size : Nat) : Int) - ((vf.toArray.size : Nat) : Int) - ((ve.toArray.size : Nat) : Int))).toNat).toNat 4000 ∨ LtPow RV.toNat (Builtin.Int.intBits ((1 : Int) * 2 ^ (wd * (((vs.toArray.size : Nat) : Int) - ((vf.toArray.size : Nat) : Int) - ((ve.toArray.size : Nat) : Int))).toNat) + 4000) := by
          right
          rw [bits_pow, eS]
          exact Nat.lt_of_lt_of_le hRVl (Nat.pow_le_pow_right (by decide) (Nat.le_trans hSe (Nat.add_le_add (Nat.le_succ _) (by decide))))
        have r7 : (e ++ [(1 : Int)]).length ≤ 50 := by
          simp only [List.length_append, List.length_cons, List.length_nil]
          exact Nat.le_trans (Nat.add_le_add_right hel _) (by decide)
        have hI237 : (37 : Nat) < I2 := Nat.lt_trans hI37 hI2
        have r8 : Figs wd.toNat (e ++ [(1 : Int)]) := figs_snoc_one hW (figs_bits hW heb)
        clear hS16 hS2 hRVl hSe
        have fin_e : (ENDS.take j).flatMap (foldsAt ws) ++ (ENDS.take (jj + 1)).flatMap (foldOne ws f) = ((ENDS.take j).flatMap (foldsAt ws) ++ (ENDS.take jj).flatMap (foldOne ws f)) ++ foldOne ws f e := by
          rw [List.take_add_one, he, List.flatMap_append, List.append_assoc]
          simp
        have fin_hn : ∀ h' led rest'', News g' L' h' led → (∀ p ∈ G₂ rest'', p ∈ led) → (I2, it2) ∈ led → TabsL rest'' → ∀ p ∈ (I, it) :: (tD, listOf items2.toArray k2) :: (L' + 1 + 1, oF2) :: (L' + 1, oW2) :: G₂ rest'', p.1 ≠ I2 := by
          intro h' led rest'' hN hs hm hT p hp
          have hg := led_off hG2 hT hN hs hm (Mine.d1 hI237) (noCode_iter hit2) (fun q hq => hne2 q (.tail _ (.tail _ (.tail _ (.tail _ (led_nil hG2 q hq))))))
          simp only [List.mem_cons] at hp
          rcases hp with rfl | rfl | rfl | rfl | hp
          · exact hne2 _ (.head _)
          · exact hne2 _ (.tail _ (.head _))
          · exact hne2 _ (.tail _ (.tail _ (.head _)))
          · exact hne2 _ (.tail _ (.tail _ (.tail _ (.head _))))
          · exact hg p hp
        have fin_hj : foldOne ws f e = [] → ∀ (m' : Str → Option Value) rest'' (t1 t2 t3 t4 : Tok), TabsL rest'' → m' (Str.ofString "word") = some (.ref ax) → m' (Str.ofString "signs") = some (.str sg t1) → m' (Str.ofString "text") = some (.str (textOf sg ws) t2) → m' (Str.ofString "number") = some (.int N0 t3) → m' (Str.ofString "told") = some (.ref tD) → m' (Str.ofString "rest") = some (.int RV t4) → m' (Str.ofString "begun") = some (.bool bg) →
            FoldIn ax g sg wd tw N0 (textOf sg ws) (L' + 1) (L' + 1 + 1) tD fe vf kf I it DE [.ref x1, .ref x2, .ref x3, .ref x4, .ref x5] D2 [.ref y1, .ref y2, .ref y3, .ref y4, .ref y5] RV bg ((ENDS.take j).flatMap (foldsAt ws) ++ (ENDS.take (jj + 1)).flatMap (foldOne ws f)) m' ((I, it) :: (tD, listOf items2.toArray k2) :: (L' + 1 + 1, oF2) :: (L' + 1, oW2) :: G₂ rest'') := by
          intro h0 m' rest'' t1 t2 t3 t4 hT a1 a2 a3 a4 a5 a6 a7
          refine ⟨G₂, _, rfl, ⟨⟨rest'', items2, k2, oF2, oW2, t1, t2, t3, rfl, hT, hoW2, hoF2, ?_, a1, a2, a3, a4, a5⟩, hG2, hsb2, hoff2⟩, ⟨t4, a6⟩, a7, hDE, hE, hD2m, hE2, hm1, hI0⟩
          rw [fin_e, h0, List.append_nil]
          exact hP2
        have fin_s : sm = (bg && (ws.drop (ws.length - e.length) == e)) := by rw [← hsm, hbgd]; rfl
        have fin_r : (RV / (1 * 2 ^ (wd * (((vs.toArray.size : Nat) : Int) - ((vf.toArray.size : Nat) : Int) - ((ve.toArray.size : Nat) : Int))).toNat) == dval wd.toNat (e ++ [(1 : Int)])) = (ws.drop (ws.length - e.length) == e) := by
          rw [hRVd, eS, (dval_div hRVf (by rw [List.length_append, List.length_drop, List.length_singleton]; exact sg_le)).1, List.drop_append_of_le_length (by rw [List.length_drop]; exact Nat.sub_le _ _), List.drop_drop, dval_eq ?_ r8 ?_]
          · rw [show f.length + (ws.length - f.length - e.length) = ws.length - e.length from sg_add sA, Bool.eq_iff_iff, beq_iff_eq, beq_iff_eq, List.append_left_inj]
          · exact figs_snoc_one hW (figs_bits hW fun x hx => hn x (List.mem_of_mem_drop hx))
          · rw [List.length_append, List.length_append, List.length_drop]; simp only [List.length_singleton]; exact sg_len sA
        have fin_0 : sm = false → foldOne ws f e = [] := fun q => by unfold foldOne; rw [hsm, q]; rfl
        have hT3 : @LT.lt Nat _ (L' + 1 + 1) tD := hT37.2
        have hL3 := Hid.mk (show @LT.lt Nat _ 37 L' from hc37)
        have hI3 : @LT.lt Nat _ 37 I := hIt.1
        clear hT37 hIt hc37 hx37 hy37
        repeat (rename @LT.lt Nat _ _ _ ∧ _ => q9; clear q9)
        replace hDE := Hid.mk hDE
        replace hE := Hid.mk hE
        replace hD2m := Hid.mk hD2m
        replace hE2 := Hid.mk hE2
        replace hoff2 := Hid.mk hoff2
        replace hI0 := Hid.mk hI0
        replace hne2 := Hid.mk hne2
        replace hsb2 := Hid.mk hsb2
        replace hP2 := Hid.mk hP2
        replace hn := Hid.mk hn
        replace hret := Hid.mk hret
        replace fin_hn := Hid.mk fin_hn
        replace fin_hj := Hid.mk fin_hj
        replace fin_e := Hid.mk fin_e
        replace fin_s := Hid.mk fin_s
        replace fin_r := Hid.mk fin_r
        replace fin_0 := Hid.mk fin_0
        replace hR2 := Hid.mk hR2
        repeat (rename TabsL _ => q9; clear q9)
        replace hR2 := hR2.out
        repeat (rename ∀ p : Addr × Obj, p ∈ (_ : List (Addr × Obj)) → p.1 ≠ _ => q9; clear q9)
        replace r0 := Hid.mk r0
        replace r1 := Hid.mk r1
        replace r2 := Hid.mk r2
        replace r3 := Hid.mk r3
        replace r4 := Hid.mk r4
        replace r5 := Hid.mk r5
        replace r6 := Hid.mk r6
        replace r8 := Hid.mk r8
        replace eS := Hid.mk eS
        replace hRV := Hid.mk hRV
        replace hbg := Hid.mk hbg
        replace hRVd := Hid.mk hRVd
        replace hbgd := Hid.mk hbgd
        replace hRVf := Hid.mk hRVf
        replace e27 := Hid.mk e27
        replace b1 := Hid.mk b1
        replace eA := Hid.mk eA
        replace q0 := Hid.mk q0
        replace hN0 := Hid.mk hN0
        replace g4 := Hid.mk g4
        replace f2 := Hid.mk f2
        repeat (rename _ ≠ 37 ∧ _ => q9; clear q9)
        repeat (rename (37 : Nat) < (_ : Addr) => q9; clear q9)
        replace hL3 := hL3.out
        dsimp only
        rcases (show bg = false ∨ bg = true by cases bg <;> simp) with hb | hb
        · (repeat' (first | (k_unfold; (try dsimp only)) | (k_end; wrow_close) | with_reducible (first | ((with_reducible show wpAny _ _ (call _ _) _ _ _); first | (k_here; (with_reducible show wpAny _ _ (call (Value.ref 117) _) _ _ _); k_dflt (refine' text_spec ?jB ?jF ?jX ?jN ?jT ?jk ?jd ?ju ?p1 ?p2 ?p3 ?p4 ?p5 ?_; (case jB => k_asm); (case jF => k_asm); (case jX => k_asm); (case jN => k_asm); (case jT => k_asm); (case jk => exact rfl); (case jd => ((try dsimp only [ktrTop]); omega)); (case ju => ((try dsimp only [ktrTop]); omega)); (case p1 => k_mem); (case p2 => with_reducible assumption); (case p3 => with_reducible assumption); (case p4 => with_reducible assumption); (case p5 => omega); k_whole); intro _ _ _ _ _; (try dsimp only); (try k_fold)) | (k_here; (with_reducible show wpAny _ _ (call (Value.ref 63) [Value.str _ _, Value.str _ _]) _ _ _); k_dflt (refine' ellipsis_2 ?jB ?jF ?jX ?jN ?jT ?jk ?jd ?ju ?p1 ?p2 ?p3 ?p4 ?p5 ?p6 ?p7 ?_; (case jB => k_asm); (case jF => k_asm); (case jX => k_asm); (case jN => k_asm); (case jT => k_asm); (case jk => exact rfl); (case jd => ((try dsimp only [ktrTop]); omega)); (case ju => ((try dsimp only [ktrTop]); omega)); (case p1 => first | exact Hid.out (by with_reducible assumption) | with_reducible assumption | omega | (simp only [sapp_len]; omega)); (case p2 => first | exact Hid.out (by with_reducible assumption) | with_reducible assumption | omega | (simp only [sapp_len]; omega)); (case p3 => first | exact Hid.out (by with_reducible assumption) | with_reducible assumption); (case p4 => first | exact Hid.out (by with_reducible assumption) | with_reducible assumption); (case p5 => first | exact Hid.out (by with_reducible assumption) | with_reducible assumption); (case p6 => first | exact Hid.out (by with_reducible assumption) | with_reducible assumption); (case p7 => first | exact Hid.out (by with_reducible assumption) | with_reducible assumption); k_whole); intro _ _ _ _; (try dsimp only); (try k_fold)) | (k_here; (with_reducible show wpAny _ _ (call (Value.ref 105) [Value.str _ _, Value.str _ _]) _ _ _); k_dflt (refine' concat_str ?jB ?jF ?jX ?jN ?jT ?jk ?jd ?ju ?p1 ?p2 ?_; (case jB => k_asm); (case jF => k_asm); (case jX => k_asm); (case jN => k_asm); (case jT => k_asm); (case jk => exact rfl); (case jd => ((try dsimp only [ktrTop]); omega)); (case ju => ((try dsimp only [ktrTop]); omega)); (case p1 => first | exact Hid.out (by with_reducible assumption) | with_reducible assumption | omega | (simp only [sapp_len]; omega)); (case p2 => first | exact Hid.out (by with_reducible assumption) | with_reducible assumption | omega | (simp only [sapp_len]; omega)); k_whole); intro _ _ _ _ _; (try dsimp only); (try k_fold)) | (k_here; (with_reducible show wpAny _ _ (call (Value.builtin "len") [Value.ref _]) _ _ _); k_dflt (refine' len_L ?j1 ?j2 ?j3 ?_; (case j1 => k_asm); (case j2 => k_mem); (case j3 => first | with_reducible assumption | omega | (simp only [List.size_toArray]; omega))))) | (k_here; (with_reducible show wpAny _ _ (callWith _ (Value.ref _) [] _ _) _ _ _); k_dflt (first | (refine' callWith_K ?k1 ?k2 ?_; (case k1 => k_asm); (case k2 => k_is); k_whole) | (refine' callWith_K0 ?k1 ?k2 ?_; (case k1 => k_in); (case k2 => k_is); k_whole)))) | ((with_reducible show wpAny _ _ (call _ _) _ _ _); first | (k_here; (with_reducible show wpAny _ _ (call (Value.ref 117) _) _ _ _); k_dflt (refine' text_spec ?jB ?jF ?jX ?jN ?jT ?jk ?jd ?ju ?p1 ?p2 ?p3 ?p4 ?p5 ?_; (case jB => k_asm); (case jF => k_asm); (case jX => k_asm); (case jN => k_asm); (case jT => k_asm); (case jk => exact rfl); (case jd => ((try dsimp only [ktrTop]); omega)); (case ju => ((try dsimp only [ktrTop]); omega)); (case p1 => k_mem); (case p2 => with_reducible assumption); (case p3 => with_reducible assumption); (case p4 => with_reducible assumption); (case p5 => omega); k_whole); intro _ _ _ _ _; (try dsimp only); (try k_fold)) | (k_here; (with_reducible show wpAny _ _ (call (Value.ref 63) [Value.str _ _, Value.str _ _]) _ _ _); k_dflt (refine' ellipsis_2 ?jB ?jF ?jX ?jN ?jT ?jk ?jd ?ju ?p1 ?p2 ?p3 ?p4 ?p5 ?p6 ?p7 ?_; (case jB => k_asm); (case jF => k_asm); (case jX => k_asm); (case jN => k_asm); (case jT => k_asm); (case jk => exact rfl); (case jd => ((try dsimp only [ktrTop]); omega)); (case ju => ((try dsimp only [ktrTop]); omega)); (case p1 => first | exact Hid.out (by with_reducible assumption) | with_reducible assumption | omega | (simp only [sapp_len]; omega)); (case p2 => first | exact Hid.out (by with_reducible assumption) | with_reducible assumption | omega | (simp only [sapp_len]; omega)); (case p3 => first | exact Hid.out (by with_reducible assumption) | with_reducible assumption); (case p4 => first | exact Hid.out (by with_reducible assumption) | with_reducible assumption); (case p5 => first | exact Hid.out (by with_reducible assumption) | with_reducible assumption); (case p6 => first | exact Hid.out (by with_reducible assumption) | with_reducible assumption); (case p7 => first | exact Hid.out (by with_reducible assumption) | with_reducible assumption); k_whole); intro _ _ _ _; (try dsimp only); (try k_fold)) | (k_here; (with_reducible show wpAny _ _ (call (Value.ref 105) [Value.str _ _, Value.str _ _]) _ _ _); k_dflt (refine' concat_str ?jB ?jF ?jX ?jN ?jT ?jk ?jd ?ju ?p1 ?p2 ?_; (case jB => k_asm); (case jF => k_asm); (case jX => k_asm); (case jN => k_asm); (case jT => k_asm); (case jk => exact rfl); (case jd => ((try dsimp only [ktrTop]); omega)); (case ju => ((try dsimp only [ktrTop]); omega)); (case p1 => first | exact Hid.out (by with_reducible assumption) | with_reducible assumption | omega | (simp only [sapp_len]; omega)); (case p2 => first | exact Hid.out (by with_reducible assumption) | with_reducible assumption | omega | (simp only [sapp_len]; omega)); k_whole); intro _ _ _ _ _; (try dsimp only); (try k_fold)) | (k_here; (with_reducible show wpAny _ _ (call (Value.builtin "len") [Value.ref _]) _ _ _); k_dflt (refine' len_L ?j1 ?j2 ?j3 ?_; (case j1 => k_asm); (case j2 => k_mem); (case j3 => first | with_reducible assumption | omega | (simp only [List.size_toArray]; omega))))) | (k_here; (with_reducible show wpAny _ _ (callWith _ (Value.ref _) [] _ _) _ _ _); k_dflt (first | (refine' callWith_K ?k1 ?k2 ?_; (case k1 => k_asm); (case k2 => k_is); k_whole) | (refine' callWith_K0 ?k1 ?k2 ?_; (case k1 => k_in); (case k2 => k_is); k_whole))) | walk1 | (dsimp only; first | with_reducible (first | ((with_reducible show wpAny _ _ (call _ _) _ _ _); first | (k_here; (with_reducible show wpAny _ _ (call (Value.ref 117) _) _ _ _); k_dflt (refine' text_spec ?jB ?jF ?jX ?jN ?jT ?jk ?jd ?ju ?p1 ?p2 ?p3 ?p4 ?p5 ?_; (case jB => k_asm); (case jF => k_asm); (case jX => k_asm); (case jN => k_asm); (case jT => k_asm); (case jk => exact rfl); (case jd => ((try dsimp only [ktrTop]); omega)); (case ju => ((try dsimp only [ktrTop]); omega)); (case p1 => k_mem); (case p2 => with_reducible assumption); (case p3 => with_reducible assumption); (case p4 => with_reducible assumption); (case p5 => omega); k_whole); intro _ _ _ _ _; (try dsimp only); (try k_fold)) | (k_here; (with_reducible show wpAny _ _ (call (Value.ref 63) [Value.str _ _, Value.str _ _]) _ _ _); k_dflt (refine' ellipsis_2 ?jB ?jF ?jX ?jN ?jT ?jk ?jd ?ju ?p1 ?p2 ?p3 ?p4 ?p5 ?p6 ?p7 ?_; (case jB => k_asm); (case jF => k_asm); (case jX => k_asm); (case jN => k_asm); (case jT => k_asm); (case jk => exact rfl); (case jd => ((try dsimp only [ktrTop]); omega)); (case ju => ((try dsimp only [ktrTop]); omega)); (case p1 => first | exact Hid.out (by with_reducible assumption) | with_reducible assumption | omega | (simp only [sapp_len]; omega)); (case p2 => first | exact Hid.out (by with_reducible assumption) | with_reducible assumption | omega | (simp only [sapp_len]; omega)); (case p3 => first | exact Hid.out (by with_reducible assumption) | with_reducible assumption); (case p4 => first | exact Hid.out (by with_reducible assumption) | with_reducible assumption); (case p5 => first | exact Hid.out (by with_reducible assumption) | with_reducible assumption); (case p6 => first | exact Hid.out (by with_reducible assumption) | with_reducible assumption); (case p7 => first | exact Hid.out (by with_reducible assumption) | with_reducible assumption); k_whole); intro _ _ _ _; (try dsimp only); (try k_fold)) | (k_here; (with_reducible show wpAny _ _ (call (Value.ref 105) [Value.str _ _, Value.str _ _]) _ _ _); k_dflt (refine' concat_str ?jB ?jF ?jX ?jN ?jT ?jk ?jd ?ju ?p1 ?p2 ?_; (case jB => k_asm); (case jF => k_asm); (case jX => k_asm); (case jN => k_asm); (case jT => k_asm); (case jk => exact rfl); (case jd => ((try dsimp only [ktrTop]); omega)); (case ju => ((try dsimp only [ktrTop]); omega)); (case p1 => first | exact Hid.out (by with_reducible assumption) | with_reducible assumption | omega | (simp only [sapp_len]; omega)); (case p2 => first | exact Hid.out (by with_reducible assumption) | with_reducible assumption | omega | (simp only [sapp_len]; omega)); k_whole); intro _ _ _ _ _; (try dsimp only); (try k_fold)) | (k_here; (with_reducible show wpAny _ _ (call (Value.builtin "len") [Value.ref _]) _ _ _); k_dflt (refine' len_L ?j1 ?j2 ?j3 ?_; (case j1 => k_asm); (case j2 => k_mem); (case j3 => first | with_reducible assumption | omega | (simp only [List.size_toArray]; omega))))) | (k_here; (with_reducible show wpAny _ _ (callWith _ (Value.ref _) [] _ _) _ _ _); k_dflt (first | (refine' callWith_K ?k1 ?k2 ?_; (case k1 => k_asm); (case k2 => k_is); k_whole) | (refine' callWith_K0 ?k1 ?k2 ?_; (case k1 => k_in); (case k2 => k_is); k_whole)))) | ((with_reducible show wpAny _ _ (call _ _) _ _ _); first | (k_here; (with_reducible show wpAny _ _ (call (Value.ref 117) _) _ _ _); k_dflt (refine' text_spec ?jB ?jF ?jX ?jN ?jT ?jk ?jd ?ju ?p1 ?p2 ?p3 ?p4 ?p5 ?_; (case jB => k_asm); (case jF => k_asm); (case jX => k_asm); (case jN => k_asm); (case jT => k_asm); (case jk => exact rfl); (case jd => ((try dsimp only [ktrTop]); omega)); (case ju => ((try dsimp only [ktrTop]); omega)); (case p1 => k_mem); (case p2 => with_reducible assumption); (case p3 => with_reducible assumption); (case p4 => with_reducible assumption); (case p5 => omega); k_whole); intro _ _ _ _ _; (try dsimp only); (try k_fold)) | (k_here; (with_reducible show wpAny _ _ (call (Value.ref 63) [Value.str _ _, Value.str _ _]) _ _ _); k_dflt (refine' ellipsis_2 ?jB ?jF ?jX ?jN ?jT ?jk ?jd ?ju ?p1 ?p2 ?p3 ?p4 ?p5 ?p6 ?p7 ?_; (case jB => k_asm); (case jF => k_asm); (case jX => k_asm); (case jN => k_asm); (case jT => k_asm); (case jk => exact rfl); (case jd => ((try dsimp only [ktrTop]); omega)); (case ju => ((try dsimp only [ktrTop]); omega)); (case p1 => first | exact Hid.out (by with_reducible assumption) | with_reducible assumption | omega | (simp only [sapp_len]; omega)); (case p2 => first | exact Hid.out (by with_reducible assumption) | with_reducible assumption | omega | (simp only [sapp_len]; omega)); (case p3 => first | exact Hid.out (by with_reducible assumption) | with_reducible assumption); (case p4 => first | exact Hid.out (by with_reducible assumption) | with_reducible assumption); (case p5 => first | exact Hid.out (by with_reducible assumption) | with_reducible assumption); (case p6 => first | exact Hid.out (by with_reducible assumption) | with_reducible assumption); (case p7 => first | exact Hid.out (by with_reducible assumption) | with_reducible assumption); k_whole); intro _ _ _ _; (try dsimp only); (try k_fold)) | (k_here; (with_reducible show wpAny _ _ (call (Value.ref 105) [Value.str _ _, Value.str _ _]) _ _ _); k_dflt (refine' concat_str ?jB ?jF ?jX ?jN ?jT ?jk ?jd ?ju ?p1 ?p2 ?_; (case jB => k_asm); (case jF => k_asm); (case jX => k_asm); (case jN => k_asm); (case jT => k_asm); (case jk => exact rfl); (case jd => ((try dsimp only [ktrTop]); omega)); (case ju => ((try dsimp only [ktrTop]); omega)); (case p1 => first | exact Hid.out (by with_reducible assumption) | with_reducible assumption | omega | (simp only [sapp_len]; omega)); (case p2 => first | exact Hid.out (by with_reducible assumption) | with_reducible assumption | omega | (simp only [sapp_len]; omega)); k_whole); intro _ _ _ _ _; (try dsimp only); (try k_fold)) | (k_here; (with_reducible show wpAny _ _ (call (Value.builtin "len") [Value.ref _]) _ _ _); k_dflt (refine' len_L ?j1 ?j2 ?j3 ?_; (case j1 => k_asm); (case j2 => k_mem); (case j3 => first | with_reducible assumption | omega | (simp only [List.size_toArray]; omega))))) | (k_here; (with_reducible show wpAny _ _ (callWith _ (Value.ref _) [] _ _) _ _ _); k_dflt (first | (refine' callWith_K ?k1 ?k2 ?_; (case k1 => k_asm); (case k2 => k_is); k_whole) | (refine' callWith_K0 ?k1 ?k2 ?_; (case k1 => k_in); (case k2 => k_is); k_whole))) | walk1) | (leave1; (try dsimp only)) | fail "no step"))
          · exfalso
            rename (_ != _) = true => hq
            rw [fin_s.out, hb] at hq
            simp at hq
          · rename Fr _ _ _ _ => Fe
            rename News _ _ _ _ => Ne
            refine TurnEnd.intro Fe (cb_drop Ne (fun p hp => .tail _ hp)) (fin_hn.out _ _ _ Ne (fun p hp => .tail _ (.tail _ (.tail _ (.tail _ (.tail _ (.tail _ hp)))))) (.tail _ (.head _)) (by with_reducible assumption)) (fin_hj.out (fin_0.out (by rw [fin_s.out, hb]; rfl)) _ _ _ _ _ _ (by with_reducible assumption) rfl rfl rfl rfl rfl rfl rfl)
        · (repeat' ((fail_if_success (with_reducible show wpAny _ _ (call (Value.ref 35) _) _ _ _)); first | (k_unfold; (try dsimp only)) | (k_end; wrow_close) | with_reducible (first | ((with_reducible show wpAny _ _ (call _ _) _ _ _); first | (k_here; (with_reducible show wpAny _ _ (call (Value.ref 117) _) _ _ _); k_dflt (refine' text_spec ?jB ?jF ?jX ?jN ?jT ?jk ?jd ?ju ?p1 ?p2 ?p3 ?p4 ?p5 ?_; (case jB => k_asm); (case jF => k_asm); (case jX => k_asm); (case jN => k_asm); (case jT => k_asm); (case jk => exact rfl); (case jd => ((try dsimp only [ktrTop]); omega)); (case ju => ((try dsimp only [ktrTop]); omega)); (case p1 => k_mem); (case p2 => with_reducible assumption); (case p3 => with_reducible assumption); (case p4 => with_reducible assumption); (case p5 => omega); k_whole); intro _ _ _ _ _; (try dsimp only); (try k_fold)) | (k_here; (with_reducible show wpAny _ _ (call (Value.ref 56) _) _ _ _); k_dflt (refine' int_divmod_spec ?jR ?jB ?jF ?jX ?jC1 ?jC2 ?jN ?jG ?jT ?jk ?jd ?ju ?p0 ?p1 ?p2 ?p3 ?p4 ?_; (case jR => with_reducible assumption); (case jB => k_asm); (case jF => k_asm); (case jX => k_asm); (case jC1 => with_reducible assumption); (case jC2 => with_reducible assumption); (case jN => k_asm); (case jG => wtm_at "r0"); (case jT => k_asm); (case jk => exact rfl); (case jd => ((try dsimp only [ktrTop]); omega)); (case ju => ((try dsimp only [ktrTop]); omega)); (case p0 => first | with_reducible assumption | exact Hid.out (by with_reducible assumption)); (case p1 => first | with_reducible assumption | exact Hid.out (by with_reducible assumption)); (case p2 => first | with_reducible assumption | exact Hid.out (by with_reducible assumption)); (case p3 => first | with_reducible assumption | exact Hid.out (by with_reducible assumption)); (case p4 => first | with_reducible assumption | exact Hid.out (by with_reducible assumption)); k_whole); wtm_at "t9") | (k_here; (with_reducible show wpAny _ _ (call (Value.ref 63) [Value.str _ _, Value.str _ _]) _ _ _); k_dflt (refine' ellipsis_2 ?jB ?jF ?jX ?jN ?jT ?jk ?jd ?ju ?p1 ?p2 ?p3 ?p4 ?p5 ?p6 ?p7 ?_; (case jB => k_asm); (case jF => k_asm); (case jX => k_asm); (case jN => k_asm); (case jT => k_asm); (case jk => exact rfl); (case jd => ((try dsimp only [ktrTop]); omega)); (case ju => ((try dsimp only [ktrTop]); omega)); (case p1 => first | exact Hid.out (by with_reducible assumption) | with_reducible assumption | omega | (simp only [sapp_len]; omega)); (case p2 => first | exact Hid.out (by with_reducible assumption) | with_reducible assumption | omega | (simp only [sapp_len]; omega)); (case p3 => first | exact Hid.out (by with_reducible assumption) | with_reducible assumption); (case p4 => first | exact Hid.out (by with_reducible assumption) | with_reducible assumption); (case p5 => first | exact Hid.out (by with_reducible assumption) | with_reducible assumption); (case p6 => first | exact Hid.out (by with_reducible assumption) | with_reducible assumption); (case p7 => first | exact Hid.out (by with_reducible assumption) | with_reducible assumption); k_whole); intro _ _ _ _; (try dsimp only); (try k_fold)) | (k_here; (with_reducible show wpAny _ _ (call (Value.ref 84) [Value.int _ _, Value.int _ _]) _ _ _); k_dflt (refine' op_or ?jB ?jF ?jX ?jN ?jT ?jk ?jd ?ju  ?_; (case jB => k_asm); (case jF => k_asm); (case jX => k_asm); (case jN => k_asm); (case jT => k_asm); (case jk => exact rfl); (case jd => ((try dsimp only [ktrTop]); omega)); (case ju => ((try dsimp only [ktrTop]); omega)); k_whole); intro _ _ _ _ _; (try dsimp only); (try k_fold)) | (k_here; (with_reducible show wpAny _ _ (call (Value.ref 70) [Value.int _ _, Value.int _ _]) _ _ _); k_dflt (refine' op_lshift ?jB ?jF ?jX ?jN ?jT ?jk ?jd ?ju ?p1 ?p2 ?_; (case jB => k_asm); (case jF => k_asm); (case jX => k_asm); (case jN => k_asm); (case jT => k_asm); (case jk => exact rfl); (case jd => ((try dsimp only [ktrTop]); omega)); (case ju => ((try dsimp only [ktrTop]); omega)); (case p1 => first | exact Hid.out (by with_reducible assumption) | with_reducible assumption | omega); (case p2 => first | with_reducible assumption | exact Hid.out (by with_reducible assumption)); k_whole); intro _ _ _ _ _; (try dsimp only); (try k_fold)) | (k_here; (with_reducible show wpAny _ _ (call (Value.ref 105) [Value.ref _, Value.ref _]) _ _ _); k_dflt (refine' concat_list ?jB ?jF ?jX ?jN ?jT ?jk ?jd ?ju ?p1 ?p2 ?p3 ?_; (case jB => k_asm); (case jF => k_asm); (case jX => k_asm); (case jN => k_asm); (case jT => k_asm); (case jk => exact rfl); (case jd => ((try dsimp only [ktrTop]); omega)); (case ju => ((try dsimp only [ktrTop]); omega)); (case p1 => k_mem); (case p2 => k_mem); (case p3 => first | with_reducible assumption | exact size_okC (Nat.le_of_ble_eq_true rfl) | exact size_okC (by simp only [List.length_append, List.length_cons, List.length_nil]; omega)); k_whole); wtm_at "t7") | (k_here; (with_reducible show wpAny _ _ (call (Value.ref 105) [Value.str _ _, Value.str _ _]) _ _ _); k_dflt (refine' concat_str ?jB ?jF ?jX ?jN ?jT ?jk ?jd ?ju ?p1 ?p2 ?_; (case jB => k_asm); (case jF => k_asm); (case jX => k_asm); (case jN => k_asm); (case jT => k_asm); (case jk => exact rfl); (case jd => ((try dsimp only [ktrTop]); omega)); (case ju => ((try dsimp only [ktrTop]); omega)); (case p1 => first | exact Hid.out (by with_reducible assumption) | with_reducible assumption | omega | (simp only [sapp_len]; omega)); (case p2 => first | exact Hid.out (by with_reducible assumption) | with_reducible assumption | omega | (simp only [sapp_len]; omega)); k_whole); intro _ _ _ _ _; (try dsimp only); (try k_fold)) | (k_here; (with_reducible show wpAny _ _ (call (Value.ref 42) _) _ _ _); k_dflt (refine' d2i_use ?jR ?jB ?jF ?jX ?jC1 ?jC2 ?jN ?jG ?jl ?jT ?jk ?jd ?ju ?p0 ?p1 ?p2 ?p3 ?p4 ?_; (case jR => with_reducible assumption); (case jB => k_asm); (case jF => k_asm); (case jX => k_asm); (case jC1 => with_reducible assumption); (case jC2 => with_reducible assumption); (case jN => k_asm); (case jG => wtm_at "r0"); (case jl => (intro _; k_mem)); (case jT => k_asm); (case jk => exact rfl); (case jd => ((try dsimp only [ktrTop]); omega)); (case ju => ((try dsimp only [ktrTop]); omega)); (case p0 => first | with_reducible assumption | exact ints_append (.cons _ _ .nil) (by with_reducible assumption) | exact ints_append (by with_reducible assumption) (.cons _ _ .nil) | exact ints_append (ints_append (.cons _ _ .nil) (by with_reducible assumption)) (.cons _ _ .nil)); (case p1 => first | with_reducible assumption | exact Hid.out (by with_reducible assumption) | omega); (case p2 => first | with_reducible assumption | exact Hid.out (by with_reducible assumption) | omega); (case p3 => first | with_reducible assumption | exact Hid.out (by with_reducible assumption) | omega); (case p4 => first | with_reducible assumption | exact Hid.out (by with_reducible assumption)); k_whole); intro _ _ _ _ _ _ _; (try dsimp only); (try k_fold)) | (k_here; (with_reducible show wpAny _ _ (call (Value.builtin "len") [Value.ref _]) _ _ _); k_dflt (refine' len_L ?j1 ?j2 ?j3 ?_; (case j1 => k_asm); (case j2 => k_mem); (case j3 => first | with_reducible assumption | omega | (simp only [List.size_toArray]; omega))))) | (k_here; (with_reducible show wpAny _ _ (callWith _ (Value.ref _) [] _ _) _ _ _); k_dflt (first | (refine' callWith_K ?k1 ?k2 ?_; (case k1 => k_asm); (case k2 => k_is); k_whole) | (refine' callWith_K0 ?k1 ?k2 ?_; (case k1 => k_in); (case k2 => k_is); k_whole)))) | ((with_reducible show wpAny _ _ (call _ _) _ _ _); first | (k_here; (with_reducible show wpAny _ _ (call (Value.ref 117) _) _ _ _); k_dflt (refine' text_spec ?jB ?jF ?jX ?jN ?jT ?jk ?jd ?ju ?p1 ?p2 ?p3 ?p4 ?p5 ?_; (case jB => k_asm); (case jF => k_asm); (case jX => k_asm); (case jN => k_asm); (case jT => k_asm); (case jk => exact rfl); (case jd => ((try dsimp only [ktrTop]); omega)); (case ju => ((try dsimp only [ktrTop]); omega)); (case p1 => k_mem); (case p2 => with_reducible assumption); (case p3 => with_reducible assumption); (case p4 => with_reducible assumption); (case p5 => omega); k_whole); intro _ _ _ _ _; (try dsimp only); (try k_fold)) | (k_here; (with_reducible show wpAny _ _ (call (Value.ref 56) _) _ _ _); k_dflt (refine' int_divmod_spec ?jR ?jB ?jF ?jX ?jC1 ?jC2 ?jN ?jG ?jT ?jk ?jd ?ju ?p0 ?p1 ?p2 ?p3 ?p4 ?_; (case jR => with_reducible assumption); (case jB => k_asm); (case jF => k_asm); (case jX => k_asm); (case jC1 => with_reducible assumption); (case jC2 => with_reducible assumption); (case jN => k_asm); (case jG => wtm_at "r0"); (case jT => k_asm); (case jk => exact rfl); (case jd => ((try dsimp only [ktrTop]); omega)); (case ju => ((try dsimp only [ktrTop]); omega)); (case p0 => first | with_reducible assumption | exact Hid.out (by with_reducible assumption)); (case p1 => first | with_reducible assumption | exact Hid.out (by with_reducible assumption)); (case p2 => first | with_reducible assumption | exact Hid.out (by with_reducible assumption)); (case p3 => first | with_reducible assumption | exact Hid.out (by with_reducible assumption)); (case p4 => first | with_reducible assumption | exact Hid.out (by with_reducible assumption)); k_whole); wtm_at "t9") | (k_here; (with_reducible show wpAny _ _ (call (Value.ref 63) [Value.str _ _, Value.str _ _]) _ _ _); k_dflt (refine' ellipsis_2 ?jB ?jF ?jX ?jN ?jT ?jk ?jd ?ju ?p1 ?p2 ?p3 ?p4 ?p5 ?p6 ?p7 ?_; (case jB => k_asm); (case jF => k_asm); (case jX => k_asm); (case jN => k_asm); (case jT => k_asm); (case jk => exact rfl); (case jd => ((try dsimp only [ktrTop]); omega)); (case ju => ((try dsimp only [ktrTop]); omega)); (case p1 => first | exact Hid.out (by with_reducible assumption) | with_reducible assumption | omega | (simp only [sapp_len]; omega)); (case p2 => first | exact Hid.out (by with_reducible assumption) | with_reducible assumption | omega | (simp only [sapp_len]; omega)); (case p3 => first | exact Hid.out (by with_reducible assumption) | with_reducible assumption); (case p4 => first | exact Hid.out (by with_reducible assumption) | with_reducible assumption); (case p5 => first | exact Hid.out (by with_reducible assumption) | with_reducible assumption); (case p6 => first | exact Hid.out (by with_reducible assumption) | with_reducible assumption); (case p7 => first | exact Hid.out (by with_reducible assumption) | with_reducible assumption); k_whole); intro _ _ _ _; (try dsimp only); (try k_fold)) | (k_here; (with_reducible show wpAny _ _ (call (Value.ref 84) [Value.int _ _, Value.int _ _]) _ _ _); k_dflt (refine' op_or ?jB ?jF ?jX ?jN ?jT ?jk ?jd ?ju  ?_; (case jB => k_asm); (case jF => k_asm); (case jX => k_asm); (case jN => k_asm); (case jT => k_asm); (case jk => exact rfl); (case jd => ((try dsimp only [ktrTop]); omega)); (case ju => ((try dsimp only [ktrTop]); omega)); k_whole); intro _ _ _ _ _; (try dsimp only); (try k_fold)) | (k_here; (with_reducible show wpAny _ _ (call (Value.ref 70) [Value.int _ _, Value.int _ _]) _ _ _); k_dflt (refine' op_lshift ?jB ?jF ?jX ?jN ?jT ?jk ?jd ?ju ?p1 ?p2 ?_; (case jB => k_asm); (case jF => k_asm); (case jX => k_asm); (case jN => k_asm); (case jT => k_asm); (case jk => exact rfl); (case jd => ((try dsimp only [ktrTop]); omega)); (case ju => ((try dsimp only [ktrTop]); omega)); (case p1 => first | exact Hid.out (by with_reducible assumption) | with_reducible assumption | omega); (case p2 => first | with_reducible assumption | exact Hid.out (by with_reducible assumption)); k_whole); intro _ _ _ _ _; (try dsimp only); (try k_fold)) | (k_here; (with_reducible show wpAny _ _ (call (Value.ref 105) [Value.ref _, Value.ref _]) _ _ _); k_dflt (refine' concat_list ?jB ?jF ?jX ?jN ?jT ?jk ?jd ?ju ?p1 ?p2 ?p3 ?_; (case jB => k_asm); (case jF => k_asm); (case jX => k_asm); (case jN => k_asm); (case jT => k_asm); (case jk => exact rfl); (case jd => ((try dsimp only [ktrTop]); omega)); (case ju => ((try dsimp only [ktrTop]); omega)); (case p1 => k_mem); (case p2 => k_mem); (case p3 => first | with_reducible assumption | exact size_okC (Nat.le_of_ble_eq_true rfl) | exact size_okC (by simp only [List.length_append, List.length_cons, List.length_nil]; omega)); k_whole); wtm_at "t7") | (k_here; (with_reducible show wpAny _ _ (call (Value.ref 105) [Value.str _ _, Value.str _ _]) _ _ _); k_dflt (refine' concat_str ?jB ?jF ?jX ?jN ?jT ?jk ?jd ?ju ?p1 ?p2 ?_; (case jB => k_asm); (case jF => k_asm); (case jX => k_asm); (case jN => k_asm); (case jT => k_asm); (case jk => exact rfl); (case jd => ((try dsimp only [ktrTop]); omega)); (case ju => ((try dsimp only [ktrTop]); omega)); (case p1 => first | exact Hid.out (by with_reducible assumption) | with_reducible assumption | omega | (simp only [sapp_len]; omega)); (case p2 => first | exact Hid.out (by with_reducible assumption) | with_reducible assumption | omega | (simp only [sapp_len]; omega)); k_whole); intro _ _ _ _ _; (try dsimp only); (try k_fold)) | (k_here; (with_reducible show wpAny _ _ (call (Value.ref 42) _) _ _ _); k_dflt (refine' d2i_use ?jR ?jB ?jF ?jX ?jC1 ?jC2 ?jN ?jG ?jl ?jT ?jk ?jd ?ju ?p0 ?p1 ?p2 ?p3 ?p4 ?_; (case jR => with_reducible assumption); (case jB => k_asm); (case jF => k_asm); (case jX => k_asm); (case jC1 => with_reducible assumption); (case jC2 => with_reducible assumption); (case jN => k_asm); (case jG => wtm_at "r0"); (case jl => (intro _; k_mem)); (case jT => k_asm); (case jk => exact rfl); (case jd => ((try dsimp only [ktrTop]); omega)); (case ju => ((try dsimp only [ktrTop]); omega)); (case p0 => first | with_reducible assumption | exact ints_append (.cons _ _ .nil) (by with_reducible assumption) | exact ints_append (by with_reducible assumption) (.cons _ _ .nil) | exact ints_append (ints_append (.cons _ _ .nil) (by with_reducible assumption)) (.cons _ _ .nil)); (case p1 => first | with_reducible assumption | exact Hid.out (by with_reducible assumption) | omega); (case p2 => first | with_reducible assumption | exact Hid.out (by with_reducible assumption) | omega); (case p3 => first | with_reducible assumption | exact Hid.out (by with_reducible assumption) | omega); (case p4 => first | with_reducible assumption | exact Hid.out (by with_reducible assumption)); k_whole); intro _ _ _ _ _ _ _; (try dsimp only); (try k_fold)) | (k_here; (with_reducible show wpAny _ _ (call (Value.builtin "len") [Value.ref _]) _ _ _); k_dflt (refine' len_L ?j1 ?j2 ?j3 ?_; (case j1 => k_asm); (case j2 => k_mem); (case j3 => first | with_reducible assumption | omega | (simp only [List.size_toArray]; omega))))) | (k_here; (with_reducible show wpAny _ _ (callWith _ (Value.ref _) [] _ _) _ _ _); k_dflt (first | (refine' callWith_K ?k1 ?k2 ?_; (case k1 => k_asm); (case k2 => k_is); k_whole) | (refine' callWith_K0 ?k1 ?k2 ?_; (case k1 => k_in); (case k2 => k_is); k_whole))) | walk1 | (dsimp only; first | with_reducible (first | ((with_reducible show wpAny _ _ (call _ _) _ _ _); first | (k_here; (with_reducible show wpAny _ _ (call (Value.ref 117) _) _ _ _); k_dflt (refine' text_spec ?jB ?jF ?jX ?jN ?jT ?jk ?jd ?ju ?p1 ?p2 ?p3 ?p4 ?p5 ?_; (case jB => k_asm); (case jF => k_asm); (case jX => k_asm); (case jN => k_asm); (case jT => k_asm); (case jk => exact rfl); (case jd => ((try dsimp only [ktrTop]); omega)); (case ju => ((try dsimp only [ktrTop]); omega)); (case p1 => k_mem); (case p2 => with_reducible assumption); (case p3 => with_reducible assumption); (case p4 => with_reducible assumption); (case p5 => omega); k_whole); intro _ _ _ _ _; (try dsimp only); (try k_fold)) | (k_here; (with_reducible show wpAny _ _ (call (Value.ref 56) _) _ _ _); k_dflt (refine' int_divmod_spec ?jR ?jB ?jF ?jX ?jC1 ?jC2 ?jN ?jG ?jT ?jk ?jd ?ju ?p0 ?p1 ?p2 ?p3 ?p4 ?_; (case jR => with_reducible assumption); (case jB => k_asm); (case jF => k_asm); (case jX => k_asm); (case jC1 => with_reducible assumption); (case jC2 => with_reducible assumption); (case jN => k_asm); (case jG => wtm_at "r0"); (case jT => k_asm); (case jk => exact rfl); (case jd => ((try dsimp only [ktrTop]); omega)); (case ju => ((try dsimp only [ktrTop]); omega)); (case p0 => first | with_reducible assumption | exact Hid.out (by with_reducible assumption)); (case p1 => first | with_reducible assumption | exact Hid.out (by with_reducible assumption)); (case p2 => first | with_reducible assumption | exact Hid.out (by with_reducible assumption)); (case p3 => first | with_reducible assumption | exact Hid.out (by with_reducible assumption)); (case p4 => first | with_reducible assumption | exact Hid.out (by with_reducible assumption)); k_whole); wtm_at "t9") | (k_here; (with_reducible show wpAny _ _ (call (Value.ref 63) [Value.str _ _, Value.str _ _]) _ _ _); k_dflt (refine' ellipsis_2 ?jB ?jF ?jX ?jN ?jT ?jk ?jd ?ju ?p1 ?p2 ?p3 ?p4 ?p5 ?p6 ?p7 ?_; (case jB => k_asm); (case jF => k_asm); (case jX => k_asm); (case jN => k_asm); (case jT => k_asm); (case jk => exact rfl); (case jd => ((try dsimp only [ktrTop]); omega)); (case ju => ((try dsimp only [ktrTop]); omega)); (case p1 => first | exact Hid.out (by with_reducible assumption) | with_reducible assumption | omega | (simp only [sapp_len]; omega)); (case p2 => first | exact Hid.out (by with_reducible assumption) | with_reducible assumption | omega | (simp only [sapp_len]; omega)); (case p3 => first | exact Hid.out (by with_reducible assumption) | with_reducible assumption); (case p4 => first | exact Hid.out (by with_reducible assumption) | with_reducible assumption); (case p5 => first | exact Hid.out (by with_reducible assumption) | with_reducible assumption); (case p6 => first | exact Hid.out (by with_reducible assumption) | with_reducible assumption); (case p7 => first | exact Hid.out (by with_reducible assumption) | with_reducible assumption); k_whole); intro _ _ _ _; (try dsimp only); (try k_fold)) | (k_here; (with_reducible show wpAny _ _ (call (Value.ref 84) [Value.int _ _, Value.int _ _]) _ _ _); k_dflt (refine' op_or ?jB ?jF ?jX ?jN ?jT ?jk ?jd ?ju  ?_; (case jB => k_asm); (case jF => k_asm); (case jX => k_asm); (case jN => k_asm); (case jT => k_asm); (case jk => exact rfl); (case jd => ((try dsimp only [ktrTop]); omega)); (case ju => ((try dsimp only [ktrTop]); omega)); k_whole); intro _ _ _ _ _; (try dsimp only); (try k_fold)) | (k_here; (with_reducible show wpAny _ _ (call (Value.ref 70) [Value.int _ _, Value.int _ _]) _ _ _); k_dflt (refine' op_lshift ?jB ?jF ?jX ?jN ?jT ?jk ?jd ?ju ?p1 ?p2 ?_; (case jB => k_asm); (case jF => k_asm); (case jX => k_asm); (case jN => k_asm); (case jT => k_asm); (case jk => exact rfl); (case jd => ((try dsimp only [ktrTop]); omega)); (case ju => ((try dsimp only [ktrTop]); omega)); (case p1 => first | exact Hid.out (by with_reducible assumption) | with_reducible assumption | omega); (case p2 => first | with_reducible assumption | exact Hid.out (by with_reducible assumption)); k_whole); intro _ _ _ _ _; (try dsimp only); (try k_fold)) | (k_here; (with_reducible show wpAny _ _ (call (Value.ref 105) [Value.ref _, Value.ref _]) _ _ _); k_dflt (refine' concat_list ?jB ?jF ?jX ?jN ?jT ?jk ?jd ?ju ?p1 ?p2 ?p3 ?_; (case jB => k_asm); (case jF => k_asm); (case jX => k_asm); (case jN => k_asm); (case jT => k_asm); (case jk => exact rfl); (case jd => ((try dsimp only [ktrTop]); omega)); (case ju => ((try dsimp only [ktrTop]); omega)); (case p1 => k_mem); (case p2 => k_mem); (case p3 => first | with_reducible assumption | exact size_okC (Nat.le_of_ble_eq_true rfl) | exact size_okC (by simp only [List.length_append, List.length_cons, List.length_nil]; omega)); k_whole); wtm_at "t7") | (k_here; (with_reducible show wpAny _ _ (call (Value.ref 105) [Value.str _ _, Value.str _ _]) _ _ _); k_dflt (refine' concat_str ?jB ?jF ?jX ?jN ?jT ?jk ?jd ?ju ?p1 ?p2 ?_; (case jB => k_asm); (case jF => k_asm); (case jX => k_asm); (case jN => k_asm); (case jT => k_asm); (case jk => exact rfl); (case jd => ((try dsimp only [ktrTop]); omega)); (case ju => ((try dsimp only [ktrTop]); omega)); (case p1 => first | exact Hid.out (by with_reducible assumption) | with_reducible assumption | omega | (simp only [sapp_len]; omega)); (case p2 => first | exact Hid.out (by with_reducible assumption) | with_reducible assumption | omega | (simp only [sapp_len]; omega)); k_whole); intro _ _ _ _ _; (try dsimp only); (try k_fold)) | (k_here; (with_reducible show wpAny _ _ (call (Value.ref 42) _) _ _ _); k_dflt (refine' d2i_use ?jR ?jB ?jF ?jX ?jC1 ?jC2 ?jN ?jG ?jl ?jT ?jk ?jd ?ju ?p0 ?p1 ?p2 ?p3 ?p4 ?_; (case jR => with_reducible assumption); (case jB => k_asm); (case jF => k_asm); (case jX => k_asm); (case jC1 => with_reducible assumption); (case jC2 => with_reducible assumption); (case jN => k_asm); (case jG => wtm_at "r0"); (case jl => (intro _; k_mem)); (case jT => k_asm); (case jk => exact rfl); (case jd => ((try dsimp only [ktrTop]); omega)); (case ju => ((try dsimp only [ktrTop]); omega)); (case p0 => first | with_reducible assumption | exact ints_append (.cons _ _ .nil) (by with_reducible assumption) | exact ints_append (by with_reducible assumption) (.cons _ _ .nil) | exact ints_append (ints_append (.cons _ _ .nil) (by with_reducible assumption)) (.cons _ _ .nil)); (case p1 => first | with_reducible assumption | exact Hid.out (by with_reducible assumption) | omega); (case p2 => first | with_reducible assumption | exact Hid.out (by with_reducible assumption) | omega); (case p3 => first | with_reducible assumption | exact Hid.out (by with_reducible assumption) | omega); (case p4 => first | with_reducible assumption | exact Hid.out (by with_reducible assumption)); k_whole); intro _ _ _ _ _ _ _; (try dsimp only); (try k_fold)) | (k_here; (with_reducible show wpAny _ _ (call (Value.builtin "len") [Value.ref _]) _ _ _); k_dflt (refine' len_L ?j1 ?j2 ?j3 ?_; (case j1 => k_asm); (case j2 => k_mem); (case j3 => first | with_reducible assumption | omega | (simp only [List.size_toArray]; omega))))) | (k_here; (with_reducible show wpAny _ _ (callWith _ (Value.ref _) [] _ _) _ _ _); k_dflt (first | (refine' callWith_K ?k1 ?k2 ?_; (case k1 => k_asm); (case k2 => k_is); k_whole) | (refine' callWith_K0 ?k1 ?k2 ?_; (case k1 => k_in); (case k2 => k_is); k_whole)))) | ((with_reducible show wpAny _ _ (call _ _) _ _ _); first | (k_here; (with_reducible show wpAny _ _ (call (Value.ref 117) _) _ _ _); k_dflt (refine' text_spec ?jB ?jF ?jX ?jN ?jT ?jk ?jd ?ju ?p1 ?p2 ?p3 ?p4 ?p5 ?_; (case jB => k_asm); (case jF => k_asm); (case jX => k_asm); (case jN => k_asm); (case jT => k_asm); (case jk => exact rfl); (case jd => ((try dsimp only [ktrTop]); omega)); (case ju => ((try dsimp only [ktrTop]); omega)); (case p1 => k_mem); (case p2 => with_reducible assumption); (case p3 => with_reducible assumption); (case p4 => with_reducible assumption); (case p5 => omega); k_whole); intro _ _ _ _ _; (try dsimp only); (try k_fold)) | (k_here; (with_reducible show wpAny _ _ (call (Value.ref 56) _) _ _ _); k_dflt (refine' int_divmod_spec ?jR ?jB ?jF ?jX ?jC1 ?jC2 ?jN ?jG ?jT ?jk ?jd ?ju ?p0 ?p1 ?p2 ?p3 ?p4 ?_; (case jR => with_reducible assumption); (case jB => k_asm); (case jF => k_asm); (case jX => k_asm); (case jC1 => with_reducible assumption); (case jC2 => with_reducible assumption); (case jN => k_asm); (case jG => wtm_at "r0"); (case jT => k_asm); (case jk => exact rfl); (case jd => ((try dsimp only [ktrTop]); omega)); (case ju => ((try dsimp only [ktrTop]); omega)); (case p0 => first | with_reducible assumption | exact Hid.out (by with_reducible assumption)); (case p1 => first | with_reducible assumption | exact Hid.out (by with_reducible assumption)); (case p2 => first | with_reducible assumption | exact Hid.out (by with_reducible assumption)); (case p3 => first | with_reducible assumption | exact Hid.out (by with_reducible assumption)); (case p4 => first | with_reducible assumption | exact Hid.out (by with_reducible assumption)); k_whole); wtm_at "t9") | (k_here; (with_reducible show wpAny _ _ (call (Value.ref 63) [Value.str _ _, Value.str _ _]) _ _ _); k_dflt (refine' ellipsis_2 ?jB ?jF ?jX ?jN ?jT ?jk ?jd ?ju ?p1 ?p2 ?p3 ?p4 ?p5 ?p6 ?p7 ?_; (case jB => k_asm); (case jF => k_asm); (case jX => k_asm); (case jN => k_asm); (case jT => k_asm); (case jk => exact rfl); (case jd => ((try dsimp only [ktrTop]); omega)); (case ju => ((try dsimp only [ktrTop]); omega)); (case p1 => first | exact Hid.out (by with_reducible assumption) | with_reducible assumption | omega | (simp only [sapp_len]; omega)); (case p2 => first | exact Hid.out (by with_reducible assumption) | with_reducible assumption | omega | (simp only [sapp_len]; omega)); (case p3 => first | exact Hid.out (by with_reducible assumption) | with_reducible assumption); (case p4 => first | exact Hid.out (by with_reducible assumption) | with_reducible assumption); (case p5 => first | exact Hid.out (by with_reducible assumption) | with_reducible assumption); (case p6 => first | exact Hid.out (by with_reducible assumption) | with_reducible assumption); (case p7 => first | exact Hid.out (by with_reducible assumption) | with_reducible assumption); k_whole); intro _ _ _ _; (try dsimp only); (try k_fold)) | (k_here; (with_reducible show wpAny _ _ (call (Value.ref 84) [Value.int _ _, Value.int _ _]) _ _ _); k_dflt (refine' op_or ?jB ?jF ?jX ?jN ?jT ?jk ?jd ?ju  ?_; (case jB => k_asm); (case jF => k_asm); (case jX => k_asm); (case jN => k_asm); (case jT => k_asm); (case jk => exact rfl); (case jd => ((try dsimp only [ktrTop]); omega)); (case ju => ((try dsimp only [ktrTop]); omega)); k_whole); intro _ _ _ _ _; (try dsimp only); (try k_fold)) | (k_here; (with_reducible show wpAny _ _ (call (Value.ref 70) [Value.int _ _, Value.int _ _]) _ _ _); k_dflt (refine' op_lshift ?jB ?jF ?jX ?jN ?jT ?jk ?jd ?ju ?p1 ?p2 ?_; (case jB => k_asm); (case jF => k_asm); (case jX => k_asm); (case jN => k_asm); (case jT => k_asm); (case jk => exact rfl); (case jd => ((try dsimp only [ktrTop]); omega)); (case ju => ((try dsimp only [ktrTop]); omega)); (case p1 => first | exact Hid.out (by with_reducible assumption) | with_reducible assumption | omega); (case p2 => first | with_reducible assumption | exact Hid.out (by with_reducible assumption)); k_whole); intro _ _ _ _ _; (try dsimp only); (try k_fold)) | (k_here; (with_reducible show wpAny _ _ (call (Value.ref 105) [Value.ref _, Value.ref _]) _ _ _); k_dflt (refine' concat_list ?jB ?jF ?jX ?jN ?jT ?jk ?jd ?ju ?p1 ?p2 ?p3 ?_; (case jB => k_asm); (case jF => k_asm); (case jX => k_asm); (case jN => k_asm); (case jT => k_asm); (case jk => exact rfl); (case jd => ((try dsimp only [ktrTop]); omega)); (case ju => ((try dsimp only [ktrTop]); omega)); (case p1 => k_mem); (case p2 => k_mem); (case p3 => first | with_reducible assumption | exact size_okC (Nat.le_of_ble_eq_true rfl) | exact size_okC (by simp only [List.length_append, List.length_cons, List.length_nil]; omega)); k_whole); wtm_at "t7") | (k_here; (with_reducible show wpAny _ _ (call (Value.ref 105) [Value.str _ _, Value.str _ _]) _ _ _); k_dflt (refine' concat_str ?jB ?jF ?jX ?jN ?jT ?jk ?jd ?ju ?p1 ?p2 ?_; (case jB => k_asm); (case jF => k_asm); (case jX => k_asm); (case jN => k_asm); (case jT => k_asm); (case jk => exact rfl); (case jd => ((try dsimp only [ktrTop]); omega)); (case ju => ((try dsimp only [ktrTop]); omega)); (case p1 => first | exact Hid.out (by with_reducible assumption) | with_reducible assumption | omega | (simp only [sapp_len]; omega)); (case p2 => first | exact Hid.out (by with_reducible assumption) | with_reducible assumption | omega | (simp only [sapp_len]; omega)); k_whole); intro _ _ _ _ _; (try dsimp only); (try k_fold)) | (k_here; (with_reducible show wpAny _ _ (call (Value.ref 42) _) _ _ _); k_dflt (refine' d2i_use ?jR ?jB ?jF ?jX ?jC1 ?jC2 ?jN ?jG ?jl ?jT ?jk ?jd ?ju ?p0 ?p1 ?p2 ?p3 ?p4 ?_; (case jR => with_reducible assumption); (case jB => k_asm); (case jF => k_asm); (case jX => k_asm); (case jC1 => with_reducible assumption); (case jC2 => with_reducible assumption); (case jN => k_asm); (case jG => wtm_at "r0"); (case jl => (intro _; k_mem)); (case jT => k_asm); (case jk => exact rfl); (case jd => ((try dsimp only [ktrTop]); omega)); (case ju => ((try dsimp only [ktrTop]); omega)); (case p0 => first | with_reducible assumption | exact ints_append (.cons _ _ .nil) (by with_reducible assumption) | exact ints_append (by with_reducible assumption) (.cons _ _ .nil) | exact ints_append (ints_append (.cons _ _ .nil) (by with_reducible assumption)) (.cons _ _ .nil)); (case p1 => first | with_reducible assumption | exact Hid.out (by with_reducible assumption) | omega); (case p2 => first | with_reducible assumption | exact Hid.out (by with_reducible assumption) | omega); (case p3 => first | with_reducible assumption | exact Hid.out (by with_reducible assumption) | omega); (case p4 => first | with_reducible assumption | exact Hid.out (by with_reducible assumption)); k_whole); intro _ _ _ _ _ _ _; (try dsimp only); (try k_fold)) | (k_here; (with_reducible show wpAny _ _ (call (Value.builtin "len") [Value.ref _]) _ _ _); k_dflt (refine' len_L ?j1 ?j2 ?j3 ?_; (case j1 => k_asm); (case j2 => k_mem); (case j3 => first | with_reducible assumption | omega | (simp only [List.size_toArray]; omega))))) | (k_here; (with_reducible show wpAny _ _ (callWith _ (Value.ref _) [] _ _) _ _ _); k_dflt (first | (refine' callWith_K ?k1 ?k2 ?_; (case k1 => k_asm); (case k2 => k_is); k_whole) | (refine' callWith_K0 ?k1 ?k2 ?_; (case k1 => k_in); (case k2 => k_is); k_whole))) | walk1) | (leave1; (try dsimp only)) | fail "no step"))
          · exfalso
            rename (_ != _) = true => hq
            rw [fin_r.out, fin_s.out, hb] at hq
            simp at hq
          · rename Int.fmod _ 2 = 0 => heven
            have heven' : (ws.length - f.length - e.length) % 2 = 0 := by
              rw [List.size_toArray, List.size_toArray, List.size_toArray, hi.length, hvf.length, hve.length, Int.fmod_eq_emod_of_nonneg _ (by decide)] at heven
              exact (mod_two (r := 0) sA).2.mp heven
            obtain ⟨mid, hmid⟩ : ∃ mid, midOf ws f e = mid := ⟨_, rfl⟩
            have hml : mid.length = ws.length - f.length - e.length := by rw [← hmid]; unfold midOf; rw [List.length_take, List.length_drop]; exact Nat.min_eq_left (Nat.sub_le _ _)
            have hm16 : mid.length ≤ 16 := hml ▸ sD
            have hmev : mid.length % 2 = 0 := hml ▸ heven'
            have hmb : ∀ x ∈ mid, x = 0 ∨ x = 1 := fun x hx => by rw [← hmid] at hx; exact hn.out x (List.mem_of_mem_drop (List.mem_of_mem_take hx))
            have hmv : RV % ((1 : Int) * 2 ^ (wd * (((vs.toArray.size : Nat) : Int) - ((vf.toArray.size : Nat) : Int) - ((ve.toArray.size : Nat) : Int))).toNat) = dval wd.toNat mid := by
              rw [hRVd.out, eS.out, (dval_div hRVf.out (by rw [List.length_append, List.length_drop, List.length_singleton]; exact sg_le)).2, List.take_append_of_le_length (by rw [List.length_drop]; exact Nat.sub_le _ _), ← hmid]; rfl
            have hor : Builtin.bitOr (RV % ((1 : Int) * 2 ^ (wd * (((vs.toArray.size : Nat) : Int) - ((vf.toArray.size : Nat) : Int) - ((ve.toArray.size : Nat) : Int))).toNat)) ((1 : Int) * 2 ^ (wd * (((vs.toArray.size : Nat) : Int) - ((vf.toArray.size : Nat) : Int) - ((ve.toArray.size : Nat) : Int))).toNat) = dval wd.toNat (mid ++ [1]) := by
              rw [hmv, eS.out, ← hml, or_top (figs_bits hW hmb)]
            have hmf : Figs wd.toNat (mid ++ [(1 : Int)]) := figs_snoc_one hW (figs_bits hW hmb)
            have e2w : (2 * wd).toNat = 2 * wd.toNat := tn_two wd
            have t0 : 0 ≤ Builtin.bitOr (RV % ((1 : Int) * 2 ^ (wd * (((vs.toArray.size : Nat) : Int) - ((vf.toArray.size : Nat) : Int) - ((ve.toArray.size : Nat) : Int))).toNat)) ((1 : Int) * 2 ^ (wd * (((vs.toArray.size : Nat) : Int) - ((vf.toArray.size : Nat) : Int) - ((ve.toArray.size : Nat) : Int))).toNat) := by rw [hor]; exact (dval_bounds hmf).1
            have t1 : LtPow (Builtin.bitOr (RV % ((1 : Int) * 2 ^ (wd * (((vs.toArray.size : Nat) : Int) - ((vf.toArray.size : Nat) : Int) - ((ve.toArray.size : Nat) : Int))).toNat)) ((1 : Int) * 2 ^ (wd * (((vs.toArray.size : Nat) : Int) - ((vf.toArray.size : Nat) : Int) - ((ve.toArray.size : Nat) : Int))).toNat)).toNat ((2 * wd).toNat * 50) := by
              rw [hor, e2w]
              refine Nat.lt_of_lt_of_le (ltPow_int (dval_bounds hmf).1 (dval_bounds hmf).2) (Nat.pow_le_pow_right (by decide) ?_)
              rw [List.length_append, List.length_singleton, Nat.mul_comm 2, Nat.mul_assoc]
              exact Nat.mul_le_mul_left _ (Nat.le_trans (Nat.succ_le_succ hm16) (by decide))
            have t2 : digs (2 * wd).toNat (ndig (2 * wd).toNat (Builtin.bitOr (RV % ((1 : Int) * 2 ^ (wd * (((vs.toArray.size : Nat) : Int) - ((vf.toArray.size : Nat) : Int) - ((ve.toArray.size : Nat) : Int))).toNat)) ((1 : Int) * 2 ^ (wd * (((vs.toArray.size : Nat) : Int) - ((vf.toArray.size : Nat) : Int) - ((ve.toArray.size : Nat) : Int))).toNat)).toNat) (Builtin.bitOr (RV % ((1 : Int) * 2 ^ (wd * (((vs.toArray.size : Nat) : Int) - ((vf.toArray.size : Nat) : Int) - ((ve.toArray.size : Nat) : Int))).toNat)) ((1 : Int) * 2 ^ (wd * (((vs.toArray.size : Nat) : Int) - ((vf.toArray.size : Nat) : Int) - ((ve.toArray.size : Nat) : Int))).toNat)).toNat = pairUp wd.toNat mid ++ [1] := by
              rw [hor, e2w, ← dval_pairUp hmev, digs_snoc (Nat.le_trans hW (Nat.le_mul_of_pos_left _ (by decide))) (figs_pairUp hW hmb)]
            replace t0 := Hid.mk t0
            replace t1 := Hid.mk t1
            replace t2 := Hid.mk t2
            replace hor := Hid.mk hor
            replace hmv := Hid.mk hmv
            have hpl : (pairUp wd.toNat mid).length ≤ 16 := Nat.le_trans pairUp_length hm16
            (repeat' (first | (k_unfold; (try dsimp only)) | (k_end; wrow_close) | with_reducible (first | (k_here; (with_reducible show wpAny _ _ (call (Value.ref 35) _) _ _ _); k_dflt (refine' i2d_use ?jR ?jB ?jF ?jX ?jC1 ?jC2 ?jN ?jG ?jT ?jk ?jd ?ju ?p1 ?p2 ?p3 ?p4 ?_; (case jR => with_reducible assumption); (case jB => k_asm); (case jF => k_asm); (case jX => k_asm); (case jC1 => with_reducible assumption); (case jC2 => with_reducible assumption); (case jN => k_asm); (case jG => wtm_at "r0"); (case jT => k_asm); (case jk => exact rfl); (case jd => ((try dsimp only [ktrTop]); omega)); (case ju => ((try dsimp only [ktrTop]); omega)); (case p1 => first | with_reducible assumption | exact Hid.out (by with_reducible assumption) | omega); (case p2 => first | with_reducible assumption | exact Hid.out (by with_reducible assumption) | omega); (case p3 => first | with_reducible assumption | exact Hid.out (by with_reducible assumption) | omega); (case p4 => first | with_reducible assumption | exact Hid.out (by with_reducible assumption)); k_whole); intro _ _ _ _ _ _ _ _ _ _ _; (try dsimp only); (try k_fold))) | (k_here; (with_reducible show wpAny _ _ (call (Value.ref 35) _) _ _ _); k_dflt (refine' i2d_use ?jR ?jB ?jF ?jX ?jC1 ?jC2 ?jN ?jG ?jT ?jk ?jd ?ju ?p1 ?p2 ?p3 ?p4 ?_; (case jR => with_reducible assumption); (case jB => k_asm); (case jF => k_asm); (case jX => k_asm); (case jC1 => with_reducible assumption); (case jC2 => with_reducible assumption); (case jN => k_asm); (case jG => wtm_at "r0"); (case jT => k_asm); (case jk => exact rfl); (case jd => ((try dsimp only [ktrTop]); omega)); (case ju => ((try dsimp only [ktrTop]); omega)); (case p1 => first | with_reducible assumption | exact Hid.out (by with_reducible assumption) | omega); (case p2 => first | with_reducible assumption | exact Hid.out (by with_reducible assumption) | omega); (case p3 => first | with_reducible assumption | exact Hid.out (by with_reducible assumption) | omega); (case p4 => first | with_reducible assumption | exact Hid.out (by with_reducible assumption)); k_whole); intro _ _ _ _ _ _ _ _ _ _ _; (try dsimp only); (try k_fold)) | walk1 | (dsimp only; first | with_reducible (first | (k_here; (with_reducible show wpAny _ _ (call (Value.ref 35) _) _ _ _); k_dflt (refine' i2d_use ?jR ?jB ?jF ?jX ?jC1 ?jC2 ?jN ?jG ?jT ?jk ?jd ?ju ?p1 ?p2 ?p3 ?p4 ?_; (case jR => with_reducible assumption); (case jB => k_asm); (case jF => k_asm); (case jX => k_asm); (case jC1 => with_reducible assumption); (case jC2 => with_reducible assumption); (case jN => k_asm); (case jG => wtm_at "r0"); (case jT => k_asm); (case jk => exact rfl); (case jd => ((try dsimp only [ktrTop]); omega)); (case ju => ((try dsimp only [ktrTop]); omega)); (case p1 => first | with_reducible assumption | exact Hid.out (by with_reducible assumption) | omega); (case p2 => first | with_reducible assumption | exact Hid.out (by with_reducible assumption) | omega); (case p3 => first | with_reducible assumption | exact Hid.out (by with_reducible assumption) | omega); (case p4 => first | with_reducible assumption | exact Hid.out (by with_reducible assumption)); k_whole); intro _ _ _ _ _ _ _ _ _ _ _; (try dsimp only); (try k_fold))) | (k_here; (with_reducible show wpAny _ _ (call (Value.ref 35) _) _ _ _); k_dflt (refine' i2d_use ?jR ?jB ?jF ?jX ?jC1 ?jC2 ?jN ?jG ?jT ?jk ?jd ?ju ?p1 ?p2 ?p3 ?p4 ?_; (case jR => with_reducible assumption); (case jB => k_asm); (case jF => k_asm); (case jX => k_asm); (case jC1 => with_reducible assumption); (case jC2 => with_reducible assumption); (case jN => k_asm); (case jG => wtm_at "r0"); (case jT => k_asm); (case jk => exact rfl); (case jd => ((try dsimp only [ktrTop]); omega)); (case ju => ((try dsimp only [ktrTop]); omega)); (case p1 => first | with_reducible assumption | exact Hid.out (by with_reducible assumption) | omega); (case p2 => first | with_reducible assumption | exact Hid.out (by with_reducible assumption) | omega); (case p3 => first | with_reducible assumption | exact Hid.out (by with_reducible assumption) | omega); (case p4 => first | with_reducible assumption | exact Hid.out (by with_reducible assumption)); k_whole); intro _ _ _ _ _ _ _ _ _ _ _; (try dsimp only); (try k_fold)) | walk1) | (leave1; (try dsimp only)) | fail "no step"))
            rename IntsAre _ (digs _ _ _) => hi9
            rename List (Addr × Obj) => R7
            rename TabsL _ => hR7
            rename ∀ p : Addr × Obj, p ∈ (_ : List (Addr × Obj)) → p.1 ≠ _ => hne7
            rw [t2.out] at hi9
            clear t0 t1 t2 hor hmv r0 r1 r2 r3 r4 r5 r6 r8
            have t3 : (pairUp wd.toNat mid ++ [(1 : Int)]).length ≤ 1000 := by rw [List.length_append, List.length_singleton]; exact Nat.le_trans (Nat.succ_le_succ hpl) (by decide)
            (repeat' ((fail_if_success (with_reducible show LCg.CompSrc _ _ _ _ _ _ _ _ _ _ _ _ _ _)); (fail_if_success (with_reducible show LCt.CompSrcT _ _ _ _ _ _ _ _ _ _ _ _ _ _ _)); first | (k_unfold; (try dsimp only)) | (k_end; wrow_close) | with_reducible (first | (k_here; (with_reducible show wpAny _ _ (subscriptTail _ (PySem.Expr.Slice _ _ none _) (Value.ref _) (Value.ref _)) _ _ _); k_dflt (refine' sliceL ?z1 ?z2 ?z3 ?z4 ?z5 ?z9 ?_ ?z6 ?z7 ?z8; (case z1 => k_asm); (case z2 => k_asm); (case z3 => k_mem); (case z4 => kmk_part); (case z5 => kmk_part); (case z9 => with_reducible assumption); (case z6 => with_unfolding_all rfl); (case z7 => (intro _; with_unfolding_all rfl)); (case z8 => with_reducible assumption)); wtm_at "t8") | (k_here; (with_reducible show wpAny _ _ (eval (PySem.Expr.ListComp _ [PySem.Comprehension.mk _ _ [_] _] _ _) _) _ _ _); k_dflt (refine LCt.ListComp_T (F₀ := by k_asm) (by with_unfolding_all rfl) (by decide) (by rfl) (by decide) (by rfl) ?_))) | (k_here; (with_reducible show wpAny _ _ (subscriptTail _ (PySem.Expr.Slice _ _ none _) (Value.ref _) (Value.ref _)) _ _ _); k_dflt (refine' sliceL ?z1 ?z2 ?z3 ?z4 ?z5 ?z9 ?_ ?z6 ?z7 ?z8; (case z1 => k_asm); (case z2 => k_asm); (case z3 => k_mem); (case z4 => kmk_part); (case z5 => kmk_part); (case z9 => with_reducible assumption); (case z6 => with_unfolding_all rfl); (case z7 => (intro _; with_unfolding_all rfl)); (case z8 => with_reducible assumption)); wtm_at "t8") | (k_here; (with_reducible show wpAny _ _ (eval (PySem.Expr.ListComp _ [PySem.Comprehension.mk _ _ [_] _] _ _) _) _ _ _); k_dflt (refine LCt.ListComp_T (F₀ := by k_asm) (by with_unfolding_all rfl) (by decide) (by rfl) (by decide) (by rfl) ?_)) | walk1 | (dsimp only; first | with_reducible (first | (k_here; (with_reducible show wpAny _ _ (subscriptTail _ (PySem.Expr.Slice _ _ none _) (Value.ref _) (Value.ref _)) _ _ _); k_dflt (refine' sliceL ?z1 ?z2 ?z3 ?z4 ?z5 ?z9 ?_ ?z6 ?z7 ?z8; (case z1 => k_asm); (case z2 => k_asm); (case z3 => k_mem); (case z4 => kmk_part); (case z5 => kmk_part); (case z9 => with_reducible assumption); (case z6 => with_unfolding_all rfl); (case z7 => (intro _; with_unfolding_all rfl)); (case z8 => with_reducible assumption)); wtm_at "t8") | (k_here; (with_reducible show wpAny _ _ (eval (PySem.Expr.ListComp _ [PySem.Comprehension.mk _ _ [_] _] _ _) _) _ _ _); k_dflt (refine LCt.ListComp_T (F₀ := by k_asm) (by with_unfolding_all rfl) (by decide) (by rfl) (by decide) (by rfl) ?_))) | (k_here; (with_reducible show wpAny _ _ (subscriptTail _ (PySem.Expr.Slice _ _ none _) (Value.ref _) (Value.ref _)) _ _ _); k_dflt (refine' sliceL ?z1 ?z2 ?z3 ?z4 ?z5 ?z9 ?_ ?z6 ?z7 ?z8; (case z1 => k_asm); (case z2 => k_asm); (case z3 => k_mem); (case z4 => kmk_part); (case z5 => kmk_part); (case z9 => with_reducible assumption); (case z6 => with_unfolding_all rfl); (case z7 => (intro _; with_unfolding_all rfl)); (case z8 => with_reducible assumption)); wtm_at "t8") | (k_here; (with_reducible show wpAny _ _ (eval (PySem.Expr.ListComp _ [PySem.Comprehension.mk _ _ [_] _] _ _) _) _ _ _); k_dflt (refine LCt.ListComp_T (F₀ := by k_asm) (by with_unfolding_all rfl) (by decide) (by rfl) (by decide) (by rfl) ?_)) | walk1) | (leave1; (try dsimp only)) | fail "no step"))
            rw [pickI_last] at *
            rename IntsAre _ (pairUp _ _) => hfg
            have t4 : (Builtin.Int.intBits 1 : Int) + wd ≤ 2 ^ 27 := by rw [b1.out, e27.out]; exact Int.le_trans (Int.add_le_add_left hw2 1) (by decide)
            refine' srcT_list rfl ?z0 ?z1 ?z2 ?z3 rfl rfl (by decide) (fun q ys => IntsAre ys (((pairUp wd.toNat mid).take q).filter fun x => !(1 == x || 1 * 2 ^ wd.toNat == x))) .nil ?st ?fi
            case z0 => k_asm
            case z1 => k_asm
            case z2 => exact .head _
            case z3 => rw [List.size_toArray, hfg.length]; omega
            case st =>
              intro g8 q v ys I8 oI8 C8 oC8 D8 m8 h8 tk8 E8 hq hv hys hoC hb Ft8 Nt8
              obtain ⟨kk, tb, rfl, hkk, htk⟩ := ints_at hfg hv
              rw [htk, List.filter_append]
              (repeat' (first | (k_unfold; (try dsimp only)) | (k_end; wrow_close) | with_reducible (first | (k_here; (with_reducible show wpAny _ _ (compareOp CmpOp.NotIn (Value.int _ _) (Value.ref _)) _ _ _); k_dflt (refine' notin_two ?j1 ?j2 ?_; (case j1 => k_asm); (case j2 => exact .head _))) | (k_here; (with_reducible show wpAny _ _ (callWith _ (Value.ref _) [] _ _) _ _ _); k_dflt (first | (refine' callWith_K ?k1 ?k2 ?_; (case k1 => k_asm); (case k2 => k_is); k_whole) | (refine' callWith_K0 ?k1 ?k2 ?_; (case k1 => k_in); (case k2 => k_is); k_whole))) | (k_here; (with_reducible show wpAny _ _ (call (Value.ref 70) [Value.int _ _, Value.int _ _]) _ _ _); k_dflt (refine' op_lshift ?jB ?jF ?jX ?jN ?jT ?jk ?jd ?ju ?p1 ?p2 ?_; (case jB => k_asm); (case jF => k_asm); (case jX => k_asm); (case jN => k_asm); (case jT => k_asm); (case jk => exact rfl); (case jd => ((try dsimp only [ktrTop]); omega)); (case ju => ((try dsimp only [ktrTop]); omega)); (case p1 => first | exact Hid.out (by with_reducible assumption) | with_reducible assumption | omega); (case p2 => first | with_reducible assumption | exact Hid.out (by with_reducible assumption)); k_whole); intro _ _ _ _ _; (try dsimp only); (try k_fold))) | (k_here; (with_reducible show wpAny _ _ (compareOp CmpOp.NotIn (Value.int _ _) (Value.ref _)) _ _ _); k_dflt (refine' notin_two ?j1 ?j2 ?_; (case j1 => k_asm); (case j2 => exact .head _))) | (k_here; (with_reducible show wpAny _ _ (callWith _ (Value.ref _) [] _ _) _ _ _); k_dflt (first | (refine' callWith_K ?k1 ?k2 ?_; (case k1 => k_asm); (case k2 => k_is); k_whole) | (refine' callWith_K0 ?k1 ?k2 ?_; (case k1 => k_in); (case k2 => k_is); k_whole))) | (k_here; (with_reducible show wpAny _ _ (call (Value.ref 70) [Value.int _ _, Value.int _ _]) _ _ _); k_dflt (refine' op_lshift ?jB ?jF ?jX ?jN ?jT ?jk ?jd ?ju ?p1 ?p2 ?_; (case jB => k_asm); (case jF => k_asm); (case jX => k_asm); (case jN => k_asm); (case jT => k_asm); (case jk => exact rfl); (case jd => ((try dsimp only [ktrTop]); omega)); (case ju => ((try dsimp only [ktrTop]); omega)); (case p1 => first | exact Hid.out (by with_reducible assumption) | with_reducible assumption | omega); (case p2 => first | with_reducible assumption | exact Hid.out (by with_reducible assumption)); k_whole); intro _ _ _ _ _; (try dsimp only); (try k_fold)) | walk1 | (dsimp only; first | with_reducible (first | (k_here; (with_reducible show wpAny _ _ (compareOp CmpOp.NotIn (Value.int _ _) (Value.ref _)) _ _ _); k_dflt (refine' notin_two ?j1 ?j2 ?_; (case j1 => k_asm); (case j2 => exact .head _))) | (k_here; (with_reducible show wpAny _ _ (callWith _ (Value.ref _) [] _ _) _ _ _); k_dflt (first | (refine' callWith_K ?k1 ?k2 ?_; (case k1 => k_asm); (case k2 => k_is); k_whole) | (refine' callWith_K0 ?k1 ?k2 ?_; (case k1 => k_in); (case k2 => k_is); k_whole))) | (k_here; (with_reducible show wpAny _ _ (call (Value.ref 70) [Value.int _ _, Value.int _ _]) _ _ _); k_dflt (refine' op_lshift ?jB ?jF ?jX ?jN ?jT ?jk ?jd ?ju ?p1 ?p2 ?_; (case jB => k_asm); (case jF => k_asm); (case jX => k_asm); (case jN => k_asm); (case jT => k_asm); (case jk => exact rfl); (case jd => ((try dsimp only [ktrTop]); omega)); (case ju => ((try dsimp only [ktrTop]); omega)); (case p1 => first | exact Hid.out (by with_reducible assumption) | with_reducible assumption | omega); (case p2 => first | with_reducible assumption | exact Hid.out (by with_reducible assumption)); k_whole); intro _ _ _ _ _; (try dsimp only); (try k_fold))) | (k_here; (with_reducible show wpAny _ _ (compareOp CmpOp.NotIn (Value.int _ _) (Value.ref _)) _ _ _); k_dflt (refine' notin_two ?j1 ?j2 ?_; (case j1 => k_asm); (case j2 => exact .head _))) | (k_here; (with_reducible show wpAny _ _ (callWith _ (Value.ref _) [] _ _) _ _ _); k_dflt (first | (refine' callWith_K ?k1 ?k2 ?_; (case k1 => k_asm); (case k2 => k_is); k_whole) | (refine' callWith_K0 ?k1 ?k2 ?_; (case k1 => k_in); (case k2 => k_is); k_whole))) | (k_here; (with_reducible show wpAny _ _ (call (Value.ref 70) [Value.int _ _, Value.int _ _]) _ _ _); k_dflt (refine' op_lshift ?jB ?jF ?jX ?jN ?jT ?jk ?jd ?ju ?p1 ?p2 ?_; (case jB => k_asm); (case jF => k_asm); (case jX => k_asm); (case jN => k_asm); (case jT => k_asm); (case jk => exact rfl); (case jd => ((try dsimp only [ktrTop]); omega)); (case ju => ((try dsimp only [ktrTop]); omega)); (case p1 => first | exact Hid.out (by with_reducible assumption) | with_reducible assumption | omega); (case p2 => first | with_reducible assumption | exact Hid.out (by with_reducible assumption)); k_whole); intro _ _ _ _ _; (try dsimp only); (try k_fold)) | walk1) | (leave1; (try dsimp only)) | fail "no step"))
              refine TestEnd.intro (by with_reducible assumption) (by with_reducible assumption) (fun p hp => by repeat (first | exact hp | apply List.Mem.tail)) ?_
              cases hc : (1 == kk || 1 * 2 ^ wd.toNat == kk) with
              | true => rw [List.filter_cons_of_neg (by show ¬ (!(1 == kk || 1 * 2 ^ wd.toNat == kk)) = true; rw [hc]; decide), List.filter_nil, List.append_nil]; exact hys
              | false => rw [List.filter_cons_of_pos (by show (!(1 == kk || 1 * 2 ^ wd.toNat == kk)) = true; rw [hc]; rfl), List.filter_nil]; exact ints_snoc hys
            case fi =>
              intro g8 ys hys
              (walk1; try dsimp only)
              rename_i D3 h3 tk3 F3 N3 off3
              rw [List.size_toArray, hfg.length, List.take_length] at hys
              have o3 : @Ne Nat tD D3 := off3.2.2.2.2.2.2.2.1
              clear off3
              obtain ⟨fl, hfl⟩ : ∃ fl, (pairUp wd.toNat mid).filter (fun x => !(1 == x || 1 * 2 ^ wd.toNat == x)) = fl := ⟨_, rfl⟩
              rw [hfl] at hys
              replace hfl := Hid.mk hfl
              have hupd : ∀ p ∈ (L' + 1 + 1, oF2) :: (L' + 1, oW2) :: G₂ R7, p.1 ≠ tD := by
                have hu := led_off hG2 hR7 N3 (d := tD) (o := listOf items2.toArray k2) (fun p hp => by repeat (first | exact hp | apply List.Mem.tail)) (by repeat (first | exact List.Mem.head _ | apply List.Mem.tail)) ⟨by omega, by omega⟩ (by intro _ q; cases q) (fun p hp => (hoff2.out p hp).1)
                exact List.forall_mem_cons.mpr ⟨Nat.ne_of_lt hT3, List.forall_mem_cons.mpr ⟨Nat.ne_of_lt (Nat.lt_of_succ_lt hT3), hu⟩⟩
              have hz9 : items2.toArray.size ≤ sizeLine := by
                have := folds_len (ws := ws) (f := f) (j := j) (jj := jj)
                rw [← paired_length hP2.out] at this
                rw [List.size_toArray, sizeLine_eq]; omega
              (repeat' (first | (k_unfold; (try dsimp only)) | (k_end; wrow_close) | with_reducible (first | (k_here; (with_reducible show wpAny _ _ (eval (PySem.Expr.ListComp _ [PySem.Comprehension.mk _ _ [] _] _ _) _) _ _ _); k_dflt (refine LCg.ListComp_U (F₀ := by k_asm) (by with_unfolding_all rfl) (by decide) (by rfl) (by decide) (by rfl) ?_))) | (k_here; (with_reducible show wpAny _ _ (eval (PySem.Expr.ListComp _ [PySem.Comprehension.mk _ _ [] _] _ _) _) _ _ _); k_dflt (refine LCg.ListComp_U (F₀ := by k_asm) (by with_unfolding_all rfl) (by decide) (by rfl) (by decide) (by rfl) ?_)) | walk1 | (dsimp only; first | with_reducible (first | (k_here; (with_reducible show wpAny _ _ (eval (PySem.Expr.ListComp _ [PySem.Comprehension.mk _ _ [] _] _ _) _) _ _ _); k_dflt (refine LCg.ListComp_U (F₀ := by k_asm) (by with_unfolding_all rfl) (by decide) (by rfl) (by decide) (by rfl) ?_))) | (k_here; (with_reducible show wpAny _ _ (eval (PySem.Expr.ListComp _ [PySem.Comprehension.mk _ _ [] _] _ _) _) _ _ _); k_dflt (refine LCg.ListComp_U (F₀ := by k_asm) (by with_unfolding_all rfl) (by decide) (by rfl) (by decide) (by rfl) ?_)) | walk1) | (leave1; (try dsimp only)) | fail "no step"))
              · refine' src_map_ints (fun k => k.fmod 2) rfl ?z0 ?z1 ?z2 hfg ?z3 ?st ?fi
                case z0 => k_asm
                case z1 => k_asm
                case z2 => (repeat (first | exact List.Mem.head _ | apply List.Mem.tail))
                case z3 => omega
                case st =>
                  intro g8 kk tb ys I8 oI8 C8 oC8 D8 m8 h8 tk8 E8 hk8 hoC hb Ft8 Nt8
                  k_steps
                  exact IntEnd.intro (by with_reducible assumption) (by with_reducible assumption)
                case fi =>
                  intro g8 y5 hy5
                  (walk1; try dsimp only)
                  rename_i D5 h5 tk5 F5 N5 off5
                  have o5 := off5.2.2.2.2.2.2.2.1
                  have o5a := off5.2.2.2.2.2.2.2.2.1
                  have o5b := off5.2.2.2.2.2.2.2.2.2.1
                  have o5c := off5.2.2.2.2.2.2.2.2.2.2.1
                  have o5d := off_tabs off5.2.2.2.2.2.2.2.2.2.2.2.2 hG2 hR7
                  clear off5
                  replace o5 := Hid.mk o5
                  replace o5a := Hid.mk o5a
                  replace o5c := Hid.mk o5c
                  replace o5d := Hid.mk o5d
                  (repeat' ((fail_if_success (with_reducible show wpAny _ _ (call (Value.builtin "list.append") _) _ _ _)); first | (k_unfold; (try dsimp only)) | (k_end; wrow_close) | walk1 | (dsimp only; walk1) | (leave1; (try dsimp only)) | fail "no step"))
                  rename_i T hT FT NT lT
                  refine' append_K (by with_reducible assumption) (by with_reducible assumption) (Upd.tail ?a1 (Upd.tail ?a2 (Upd.tail ?a3 (Upd.tail ?a4 (Upd.tail ?a5 (Upd.tail ?a6 (Upd.tail ?a7 (Upd.tail ?a8 (Upd.tail ?a9 (Upd.tail ?a10 (Upd.tail ?a11 (Upd.head ?ah)))))))))))) ?_ hz9
                  case a1 => (refine neN ?_; (try dsimp only); omega)
                  case a2 => (refine neN ?_; (try dsimp only); omega)
                  case a3 => (refine neN ?_; (try dsimp only); omega)
                  case a4 => (refine neN ?_; (try dsimp only); omega)
                  case a5 => (refine neN ?_; (try dsimp only); omega)
                  case a6 => exact fun e => hne7 (tD, listOf items2.toArray k2) (by repeat (first | exact List.Mem.head _ | apply List.Mem.tail)) e.symm
                  case a7 => (refine neN ?_; (try dsimp only); omega)
                  case a8 => (refine neN ?_; (try dsimp only); omega)
                  case a9 => exact kind_ne (by with_reducible assumption) (by repeat (first | exact List.Mem.head _ | apply List.Mem.tail)) (by repeat (first | exact List.Mem.head _ | apply List.Mem.tail)) (by intro e; injection e with e; exact absurd e (by decide))
                  case a10 => (refine neN ?_; (try dsimp only); omega)
                  case a11 => (refine neN ?_; (try dsimp only); omega)
                  case ah => exact hupd
                  intro h' F' N'
                  (try k_sweep)
                  k_steps
                  rename decide (fl = []) = true => hfl0
                  rename RV / _ = dval _ _ => hq
                  have hpo : pairsOk mid = true := (pairs_all hW hmev hmb).mp (hfl.out.trans (of_decide_eq_true hfl0))
                  have hsame : sameOf ws f e = true := by rw [hsm, fin_s.out, hb, ← fin_r.out, hq]; simp
                  have hone := fold_good hmid hsame hmev hpo
                  rw [evens_map hW hmev hmb] at hy5
                  rw [show items2.toArray.push (Value.ref T) = (items2 ++ [Value.ref T]).toArray from by simp] at N'
                  have hgo := fin_hn.out _ _ R7 N' (fun p hp => by repeat (first | exact hp | apply List.Mem.tail)) (by repeat (first | exact List.Mem.head _ | apply List.Mem.tail)) hR7
                  refine TurnEnd.intro (news' := (I, it) :: (tD, listOf (items2 ++ [Value.ref T]).toArray (k2 + 1)) :: (L' + 1 + 1, oF2) :: (L' + 1, oW2) :: (T, listOf #[.ref fe, .ref D5, .ref ee] 0) :: (D5, LCg.lst y5) :: G₂ R7) F' (cb_drop N' ?hsub) ?hn ?hj
                  case hsub => exact List.forall_mem_cons.mpr ⟨(by repeat (first | exact List.Mem.head _ | apply List.Mem.tail)), List.forall_mem_cons.mpr ⟨(by repeat (first | exact List.Mem.head _ | apply List.Mem.tail)), List.forall_mem_cons.mpr ⟨(by repeat (first | exact List.Mem.head _ | apply List.Mem.tail)), List.forall_mem_cons.mpr ⟨(by repeat (first | exact List.Mem.head _ | apply List.Mem.tail)), List.forall_mem_cons.mpr ⟨(by repeat (first | exact List.Mem.head _ | apply List.Mem.tail)), List.forall_mem_cons.mpr ⟨(by repeat (first | exact List.Mem.head _ | apply List.Mem.tail)), List.forall_mem_cons.mpr ⟨(by repeat (first | exact List.Mem.head _ | apply List.Mem.tail)), (fun p hp => by repeat (first | exact hp | apply List.Mem.tail))⟩⟩⟩⟩⟩⟩⟩
                  case hn =>
                    refine List.forall_mem_cons.mpr ⟨hgo _ (.head _), List.forall_mem_cons.mpr ⟨hgo (tD, listOf items2.toArray k2) (.tail _ (.head _)), List.forall_mem_cons.mpr ⟨hgo _ (.tail _ (.tail _ (.head _))), List.forall_mem_cons.mpr ⟨hgo _ (.tail _ (.tail _ (.tail _ (.head _)))), List.forall_mem_cons.mpr ⟨?_, List.forall_mem_cons.mpr ⟨fun e => o5.out e.symm, fun p hp => hgo p (.tail _ (.tail _ (.tail _ (.tail _ hp))))⟩⟩⟩⟩⟩⟩
                    show @Ne Nat T I2
                    omega
                  case hj =>
                    refine ⟨fun r => (T, listOf #[.ref fe, .ref D5, .ref ee] 0) :: (D5, LCg.lst y5) :: G₂ r, _, rfl, ⟨⟨R7, items2 ++ [.ref T], k2 + 1, oF2, oW2, _, _, _, rfl, hR7, hoW2, hoF2, ?_, rfl, rfl, rfl, rfl, rfl⟩, ?_, fun r p hp => .tail _ (.tail _ (hsb2.out r p hp)), ?_⟩, ⟨_, rfl⟩, rfl, fun r => .tail _ (.tail _ (hDE.out r)), paired_mono (fun _ _ => EndItem.mono fun r p hp => .tail _ (.tail _ hp)) hE.out, fun r => .tail _ (.tail _ (hD2m.out r)), paired_mono (fun _ _ => EndItem.mono fun r p hp => .tail _ (.tail _ hp)) hE2.out, fun r => .tail _ (.tail _ (hm1 r)), ?_⟩
                    · rw [fin_e.out, hone]
                      exact paired_app (paired_mono (fun _ _ => ToldItem.mono fun r p hp => .tail _ (.tail _ hp)) hP2.out) (.cons ⟨T, fe, D5, ee, 0, rfl, fun r => .head _, ⟨vf, kf, hvf, fun r => .tail _ (.tail _ (hm1 r))⟩, ⟨y5, _, hy5, fun r => .tail _ (.head _)⟩, ⟨ve, ke, hve, fun r => .tail _ (.tail _ (hm2 r))⟩⟩ .nil)
                    · exact .cons ⟨by omega, by omega⟩ (.cons o5d.out hG2)
                    · refine List.forall_mem_cons.mpr ⟨⟨?_, ?_⟩, List.forall_mem_cons.mpr ⟨⟨fun e => o5b e.symm, fun e => o5c.out e.symm⟩, hoff2.out⟩⟩
                      · show @Ne Nat T tD
                        omega
                      · show @Ne Nat T (L' + 1 + 1)
                        omega
                    · refine List.forall_mem_cons.mpr ⟨?_, List.forall_mem_cons.mpr ⟨fun e => o5a.out e.symm, hI0.out⟩⟩
                      show @Ne Nat T I
                      omega
              · rename decide (fl = []) = false => hfl0
                rename Fr _ _ _ _ => Fe
                rename News _ _ _ _ => Ne
                refine TurnEnd.intro Fe (cb_drop Ne ?hsub) (fin_hn.out _ _ _ Ne ?hs2 ?hs3 hR7) (fin_hj.out ?h0 _ _ _ _ _ _ hR7 rfl rfl rfl rfl rfl rfl rfl)
                case hsub => exact (fun p hp => by repeat (first | exact hp | apply List.Mem.tail))
                case hs2 => exact (fun p hp => by repeat (first | exact hp | apply List.Mem.tail))
                case hs3 => exact (by repeat (first | exact List.Mem.head _ | apply List.Mem.tail))
                case h0 =>
                  refine fold_bad hmid fun hp => ?_
                  have hq := (pairs_all hW hmev hmb).mpr hp
                  rw [hfl.out] at hq
                  rw [decide_eq_true hq] at hfl0
                  cases hfl0
          · rename Int.fmod _ 2 ≠ 0 => hodd
            rename Fr _ _ _ _ => Fe
            rename News _ _ _ _ => Ne
            refine TurnEnd.intro Fe (cb_drop Ne ?hsub) (fin_hn.out _ _ _ Ne ?hs2 ?hs3 (by with_reducible assumption)) (fin_hj.out ?h0 _ _ _ _ _ _ (by with_reducible assumption) rfl rfl rfl rfl rfl rfl rfl)
            case hsub => exact fun p hp => by repeat (first | exact hp | apply List.Mem.tail)
            case hs2 => exact fun p hp => by repeat (first | exact hp | apply List.Mem.tail)
            case hs3 => repeat (first | exact List.Mem.head _ | apply List.Mem.tail)
            case h0 => exact fold_odd hsm (by rw [List.size_toArray, List.size_toArray, List.size_toArray, hi.length, hvf.length, hve.length] at hodd; exact hodd) sA
          · rename _ ≠ dval wd.toNat (e ++ [(1 : Int)]) => hdiff
            rename Fr _ _ _ _ => Fe
            rename News _ _ _ _ => Ne
            refine TurnEnd.intro Fe (cb_drop Ne ?hsub) (fin_hn.out _ _ _ Ne ?hs2 ?hs3 (by with_reducible assumption)) (fin_hj.out ?h0 _ _ _ _ _ _ (by with_reducible assumption) rfl rfl rfl rfl rfl rfl rfl)
            case hsub => exact fun p hp => by repeat (first | exact hp | apply List.Mem.tail)
            case hs2 => exact fun p hp => by repeat (first | exact hp | apply List.Mem.tail)
            case hs3 => repeat (first | exact List.Mem.head _ | apply List.Mem.tail)
            case h0 => exact fin_0.out (by rw [fin_s.out, ← fin_r.out, hb]; simpa using hdiff)
end
end X6
theorem set_back_X6_z : True := by first | walk1 | trivial
-- Comp5
section Comp5
set_option maxRecDepth 100000
set_option maxHeartbeats 8000000
section
variable {prog : Program} {w : World} {A : Around} {E : Value → Shared → Prop} {s : Shared} {h₀ : Heap} {L : Addr} {m : Str → Option Value} {env : Env}
theorem fr_but2 {h h' : Heap} {I I2 : Addr} (F : Fr h₀ L h m) (hk : ∀ b o, b ∉ [I, I2] → h.get? b = some o → h'.get? b = some o) (hL : @Ne Nat L I ∧ @Ne Nat L I2) (hI : h₀.get? I = none ∧ h₀.get? I2 = none) : Fr h₀ L h' m :=
  ⟨F.ns.at' fun o e => hk L o (by simp only [List.mem_cons, List.not_mem_nil, or_false, not_or]; exact hL) e, fun b o e => hk b o (fun hm => by
    simp only [List.mem_cons, List.not_mem_nil, or_false] at hm
    rcases hm with rfl | rfl
    · rw [hI.1] at e; cases e
    · rw [hI.2] at e; cases e) (F.keep b o e), F.above⟩
/-- an element has come out; the word holds of the values so far -/
def EnumEnd (h₀ : Heap) (L : Addr) (m : Str → Option Value) (s₁ : Shared) (led : List (Addr × Obj)) (J : Value → Prop) (y : Value) (s₂ : Shared) : Prop :=
  ∃ h' tk, s₂ = { s₁ with heap := h', toks := tk } ∧ Fr h₀ L h' m ∧ News h₀ L h' led ∧ J y
theorem EnumEnd.intro {s₁ : Shared} {led all : List (Addr × Obj)} {J : Value → Prop} {y : Value} {h' : Heap} {tk : Nat} (F : Fr h₀ L h' m) (N : News h₀ L h' all) (hs : ∀ p ∈ led, p ∈ all) (hJ : J y) : EnumEnd h₀ L m s₁ led J y { s₁ with heap := h', toks := tk } := ⟨h', tk, rfl, F, fun p hp => N p (hs p hp), hJ⟩
def SrcE (prog : Program) (w : World) (A : Around) (h₀ : Heap) (L : Addr) (m : Str → Option Value) (env : Env) (elt : Expr) (x x₂ : Str) (scope : Scope) (cl : List (Str × Addr)) (mf : Addr → Str → Option Value) (Q : Addr → Shared → Prop) (xv : Value) (s₁ : Shared) : Prop :=
  ∃ (S l : Addr) (vs : List Value) (k : Nat) (news : List (Addr × Obj)) (J : Nat → List Value → Prop), xv = .ref (S + 1) ∧ A.handled = none ∧ Fr h₀ L s₁.heap m ∧ News h₀ L s₁.heap news ∧ (l, listOf vs.toArray k) ∈ news ∧ vs.length ≤ 1000 ∧
    IsEnum s₁.heap (S + 1) S 0 .none ∧ s₁.heap.IsListIter S l 0 ∧ s₁.heap.objs.size = S + 1 + 1 ∧ (∀ p ∈ news, @LT.lt Nat _ p.1 S) ∧ @LT.lt Nat _ L S ∧ J 0 [] ∧
    (∀ (i : Nat) (v : Value) (ys : List Value) (t : Tok) (oe oi : Obj) (C : Addr) (oC : Obj) (D : Addr) (m₂ : Str → Option Value) (h : Heap) (tk : Nat) (E' : Value → Shared → Prop), vs[i]? = some v → J i ys → LCg.NsObj oC m₂ → m₂ x = some (.int i t) → m₂ x₂ = some v → Fr h₀ L h m → News h₀ L h ((S + 1, oe) :: (S, oi) :: (C, oC) :: (D, LCg.lst ys) :: news) →
      wpAny (model prog w) A (eval elt (compEnvC scope cl C env)) (EnumEnd h₀ L m s₁ ((S + 1, oe) :: (S, oi) :: (C, oC) :: (D, LCg.lst ys) :: news) (fun y => J (i + 1) (ys ++ [y]))) E' { s₁ with heap := h, toks := tk }) ∧
    (∀ D ys h tk, J vs.length ys → Fr h₀ L h (mf D) → News h₀ L h ((D, LCg.lst ys) :: news) → (∀ p ∈ news, @LT.lt Nat _ p.1 D) → Q D { s₁ with heap := h, toks := tk })
theorem block_E {elt iter : Expr} {x x₂ : Str} {px px₂ tp : Pos} {tk} {scope : Scope} {cl : List (Str × Addr)} {pos : Pos} {s₁ : Shared} {S l : Addr} {vs : List Value} {k : Nat} {news : List (Addr × Obj)} {J : Nat → List Value → Prop} {RR : Value → Addr → Result → Shared → Prop}
    (hcell : ∀ y ∈ scope.names, y.2 ≠ .cell) (hkind : scope.kind = .function) (hx : scope.names.lookup x = some .local) (hx₂ : scope.names.lookup x₂ = some .local) (hxx : x ≠ x₂)
    (hh : A.handled = none) (F : Fr h₀ L s₁.heap m) (N : News h₀ L s₁.heap news) (hm : (l, listOf vs.toArray k) ∈ news) (hsz : vs.length ≤ 1000)
    (hen : IsEnum s₁.heap (S + 1) S 0 .none) (hit : s₁.heap.IsListIter S l 0) (hS : s₁.heap.objs.size = S + 1 + 1) (nlt : ∀ p ∈ news, @LT.lt Nat _ p.1 S) (hLS : @LT.lt Nat _ L S) (hJ0 : J 0 [])
    (step : ∀ (i : Nat) (v : Value) (ys : List Value) (t : Tok) (oe oi : Obj) (C : Addr) (oC : Obj) (D : Addr) (m₂ : Str → Option Value) (h : Heap) (tk : Nat) (E' : Value → Shared → Prop), vs[i]? = some v → J i ys → LCg.NsObj oC m₂ → m₂ x = some (.int i t) → m₂ x₂ = some v → Fr h₀ L h m → News h₀ L h ((S + 1, oe) :: (S, oi) :: (C, oC) :: (D, LCg.lst ys) :: news) →
      wpAny (model prog w) A (eval elt (compEnvC scope cl C env)) (EnumEnd h₀ L m s₁ ((S + 1, oe) :: (S, oi) :: (C, oC) :: (D, LCg.lst ys) :: news) (fun y => J (i + 1) (ys ++ [y]))) E' { s₁ with heap := h, toks := tk })
    (post : ∀ (h' : Heap) tk m' ys, J vs.length ys → Fr h₀ L h' m → News h₀ L h' ((S + 1 + 1, LCg.lst ys) :: news) → h'.Ns (S + 1 + 1 + 1) m' → RR (.ref (S + 1 + 1)) (S + 1 + 1 + 1) (.ok .next) { s₁ with heap := h', toks := tk }) :
    wpAny (model prog w) A (newList []) (fun acc s₃ => wpAny (model prog w) A (newFunctionEnv scope env.globals cl [] env.qual none .none (some env)) (fun cenv s₄ =>
      codeAny (model prog w) A (.compStart (.ListComp elt [⟨.Tuple [.Name x px, .Name x₂ px₂] tk tp, iter, [], 0⟩] scope pos) 0 (.ref (S + 1)) acc { cenv with scope := relabel scope env }) (RR acc cenv.locals) s₄) E s₃) E s₁ := by
  refine wpAny_newObj_type (wpAny_newFunctionEnv hcell (by intro y hy; simp at hy) (fun h₁ hns₁ hsb₁ => ?_) hkind)
  dsimp only at hns₁ hsb₁ ⊢
  generalize hH2 : s₁.heap.push { cls := .type "list", dict := none, data := .seq ([] : List Value).toArray } = H2 at hns₁ hsb₁ ⊢
  have hs2 : H2.objs.size = S + 1 + 1 + 1 := by rw [← hH2, Heap.size_push, hS]
  rw [hs2] at hns₁ hsb₁
  rw [hS, hs2]
  have q1 : @Ne Nat S (S + 1) := Nat.ne_of_lt (Nat.lt_succ_self S)
  have kD : H2.get? (S + 1 + 1) = some (LCg.lst []) := by rw [← hH2, ← hS]; exact Heap.get?_push_size _ rfl
  have u2 : ∀ b o, s₁.heap.get? b = some o → H2.get? b = some o := fun b o e => hH2 ▸ Heap.get?_push_of_some _ e
  have below : ∀ b o, H2.get? b = some o → @LT.lt Nat _ b (S + 1 + 1 + 1) := fun b o e => by have := Heap.lt_size e; rw [hs2] at this; exact this
  have u3 : ∀ b o, H2.get? b = some o → h₁.get? b = some o := fun b o e => hsb₁.extBut b o (Nat.ne_of_lt (below b o e)) (Heap.get?_push_of_some _ e)
  have up : ∀ b o, s₁.heap.get? b = some o → h₁.get? b = some o := fun b o e => u3 b o (u2 b o e)
  have keep0 : ∀ a, @LE.le Nat _ S a → h₀.get? a = none := fun a ha => by
    cases e : h₀.get? a with
    | none => rfl
    | some o' =>
      have h1 : @LT.lt Nat _ a L := Nat.lt_of_lt_of_le (Heap.lt_size e) F.above
      exact absurd (Nat.lt_trans h1 hLS) (Nat.not_lt.mpr ha)
  have hlS : @LT.lt Nat _ l S := nlt _ hm
  have c1 : @Ne Nat (S + 1 + 1 + 1) (S + 1) := by omega
  have c2 : @Ne Nat (S + 1 + 1 + 1) S := by omega
  have W := WalksT.enumerate (prog := prog) (w := w) (A := A) hh (S + 1) S l (Ne.symm q1) (Nat.ne_of_lt (Nat.lt_succ_of_lt hlS)) (Nat.ne_of_lt hlS) vs.toArray
  have hLC : @Ne Nat (S + 1 + 1 + 1) L := Nat.ne_of_gt (Nat.lt_succ_of_lt (Nat.lt_succ_of_lt (Nat.lt_succ_of_lt hLS)))
  have hLD : @Ne Nat (S + 1 + 1) L := Nat.ne_of_gt (Nat.lt_succ_of_lt (Nat.lt_succ_of_lt hLS))
  have hLe : @Ne Nat (S + 1) L := Nat.ne_of_gt (Nat.lt_succ_of_lt hLS)
  have hLi : @Ne Nat S L := Nat.ne_of_gt hLS
  have hC₀ := keep0 (S + 1 + 1 + 1) (by omega)
  have hD₀ := keep0 (S + 1 + 1) (by omega)
  have he₀ := keep0 (S + 1) (by omega)
  have hi₀ := keep0 S (Nat.le_refl _)
  have loop : ∀ s₃ : Shared, s₃ = { s₁ with heap := h₁, toks := s₁.toks + ([] : List (Str × Value)).length } →
      codeAny (model prog w) A (.compLoop (.ListComp elt [⟨.Tuple [.Name x px, .Name x₂ px₂] tk tp, iter, [], 0⟩] scope pos) 0 (.ref (S + 1)) (.ref (S + 1 + 1)) (compEnvC scope cl (S + 1 + 1 + 1) env))
        (RR (.ref (S + 1 + 1)) (S + 1 + 1 + 1)) s₃ := by
    rintro s₃ rfl
    refine LCp.codeAny_compLoop_pair (fun k s' => ∃ h' tk i ys m', s' = { s₁ with heap := h', toks := tk } ∧ i ≤ vs.length ∧ k = vs.length + 1 - i ∧ ((∃ old, IsEnum h' (S + 1) S i old) ∧ h'.IsListIter S l i ∧ h'.IsList l vs.toArray) ∧ Fr h₀ L h' m ∧ h'.Ns (S + 1 + 1 + 1) m' ∧ News h₀ L h' ((S + 1 + 1, LCg.lst ys) :: news) ∧ J i ys ∧ ys.length = i) ?_ (vs.length + 1)
      ⟨h₁, _, 0, [], _, rfl, Nat.zero_le _, rfl, ⟨⟨_, up _ _ hen⟩, hit.at fun o e => up _ _ e, ⟨_, up _ _ (N _ hm).1, rfl, _, rfl⟩⟩, F.keeps up, hns₁, fun p hp => ?_, hJ0, rfl⟩
    · rintro k s' ⟨h', tk', i, ys, m', rfl, hi, rfl, hst, F', hn', N', hj, hyl⟩
      by_cases hlt : i < vs.length
      · refine W.item i _ _ _ (by simpa using hlt) hst fun T vals h₂ tk₂ hP hTs hTup hMid hk₂ => ?_
        obtain ⟨t, v, hv, rfl⟩ := hP
        have hTw := W.apart i T h₂ hMid
        refine W.go _ _ _ i T _ _ _ hMid fun h₃ hst₃ hk₃ => ?_
        have ht : IsTup h₃ T #[.int i t, v] := by
          obtain ⟨ot, e1, e2, n1, e3⟩ := hTup
          exact ⟨ot, hk₃ T _ hTw e1, e2, n1, e3⟩
        have k23 : ∀ b o, b ∉ [S + 1, S] → h'.get? b = some o → h₃.get? b = some o := fun b o hb e => hk₃ b o hb (hk₂ b o hb e)
        refine assign_Tuple_tuple hh ht rfl rfl fun h₅ he => ?_
        have he' : ∀ b o, h₃.get? b = some o → h₅.get? b = some o := fun b o e => he b o (Nat.ne_of_lt (Heap.lt_size e)) e
        have hn₅ := (hn'.at' fun o e => k23 _ o (by simp only [List.mem_cons, List.not_mem_nil, or_false, not_or]; exact ⟨c1, c2⟩) e).at' fun o e => he' _ o e
        refine assignInOrder_cons (wpAny_assign_Name (wpAny_storeName_local (lookup_relabel_local hx) hn₅ (fun h₆ hn₆ hs₆ => ?_) (by simp [compEnvC, relabel, hkind])))
        refine assignInOrder_cons (wpAny_assign_Name (wpAny_storeName_local (lookup_relabel_local hx₂) hn₆ (fun h₇ hn₇ hs₇ => ?_) (by simp [compEnvC, relabel, hkind])))
        refine assignInOrder_nil ?_
        have o37 : ∀ b o, @Ne Nat b (S + 1 + 1 + 1) → h₃.get? b = some o → h₇.get? b = some o := fun b o hb e => hs₇.extBut b o hb (hs₆.extBut b o hb (he' b o e))
        have hst₇ := W.frame _ _ h₇ hst₃ fun b hb o e => o37 b o (by
          simp only [List.mem_cons, List.not_mem_nil, or_false] at hb
          rcases hb with rfl | rfl | rfl <;> omega) e
        obtain ⟨oe, hoe⟩ : ∃ o, h₇.get? (S + 1) = some o := ⟨_, hst₇.1.choose_spec⟩
        obtain ⟨oi, hoi⟩ : ∃ o, h₇.get? S = some o := by obtain ⟨o, e, _⟩ := hst₇.2.1; exact ⟨o, e⟩
        obtain ⟨oC, heC, hoC⟩ := LCg.ns_obj hn₇
        have F₇ : Fr h₀ L h₇ m := (((fr_but2 F' k23 ⟨Ne.symm hLe, Ne.symm hLi⟩ ⟨he₀, hi₀⟩).keeps he').change hs₆ hLC hC₀).change hs₇ hLC hC₀
        have N₇ : News h₀ L h₇ ((S + 1, oe) :: (S, oi) :: (S + 1 + 1 + 1, oC) :: (S + 1 + 1, LCg.lst ys) :: news) := fun p hp => by
          rcases List.mem_cons.mp hp with rfl | hp
          · exact ⟨hoe, hLe, he₀⟩
          rcases List.mem_cons.mp hp with rfl | hp
          · exact ⟨hoi, hLi, hi₀⟩
          rcases List.mem_cons.mp hp with rfl | hp
          · exact ⟨heC, hLC, hC₀⟩
          have z := N' p hp
          have hb : @Ne Nat p.1 (S + 1) ∧ @Ne Nat p.1 S ∧ @Ne Nat p.1 (S + 1 + 1 + 1) := by
            rcases List.mem_cons.mp hp with rfl | hp
            · exact ⟨Nat.ne_of_gt (Nat.lt_succ_self _), Nat.ne_of_gt (Nat.lt_succ_of_lt (Nat.lt_succ_self _)), Nat.ne_of_lt (Nat.lt_succ_self _)⟩
            · have := nlt p hp
              exact ⟨by omega, by omega, by omega⟩
          exact ⟨o37 _ _ hb.2.2 (k23 _ _ (by simp only [List.mem_cons, List.not_mem_nil, or_false, not_or]; exact ⟨hb.1, hb.2.1⟩) z.1), z.2⟩
        refine wpAny_mono (step i v ys t oe oi (S + 1 + 1 + 1) oC (S + 1 + 1) _ h₇ _ _ (by simpa using hv) hj hoC (by simp [hxx]) (by simp) F₇ N₇) (fun y s₄ h₄ => ?_) fun _ _ e => e
        obtain ⟨h₄, tk₄, rfl, F₄, N₄, hj'⟩ := h₄
        have ze := (N₄ (S + 1, oe) (.head _)).1
        have zi := (N₄ (S, oi) (.tail _ (.head _))).1
        have zC := (N₄ (S + 1 + 1 + 1, oC) (.tail _ (.tail _ (.head _)))).1
        have zD := (N₄ (S + 1 + 1, LCg.lst ys) (.tail _ (.tail _ (.tail _ (.head _))))).1
        have N₄' : News h₀ L h₄ news := fun p hp => N₄ p (.tail _ (.tail _ (.tail _ (.tail _ hp))))
        refine append_at (hsz := by rw [List.size_toArray, hyl]; exact size_okC (by omega)) zD fun h₅ hs₅ hD₅ => ?_
        have k5 : ∀ b o, @Ne Nat b (S + 1 + 1) → h₄.get? b = some o → h₅.get? b = some o := fun b o hb e => hs₅.extBut b o hb e
        refine ⟨vs.length + 1 - (i + 1), by omega, h₅, _, i + 1, ys ++ [y], _, rfl, hlt, rfl, ⟨?_, ?_, ⟨_, k5 _ _ (by omega) (N₄' _ hm).1, rfl, _, rfl⟩⟩, F₄.change hs₅ hLD hD₀, (hoC.ns zC).at' fun o e => k5 _ o (by omega) e, fun p hp => ?_, hj', by rw [List.length_append, List.length_singleton, hyl]⟩
        · obtain ⟨old, ho⟩ := hst₇.1
          have e1 : oe = _ := Option.some.inj (hoe.symm.trans ho)
          exact ⟨old, k5 _ _ (by omega) (e1 ▸ ze)⟩
        · obtain ⟨o', e, r⟩ := hst₇.2.1
          have e1 : oi = o' := Option.some.inj (hoi.symm.trans e)
          exact ⟨o', k5 _ _ (by omega) (e1 ▸ zi), r⟩
        · rcases List.mem_cons.mp hp with rfl | hp
          · exact ⟨hD₅.trans (congrArg some (LCg.lst_snoc ys y)), hLD, hD₀⟩
          · exact ⟨k5 _ _ (by have := nlt p hp; omega) (N₄' p hp).1, (N₄' p hp).2⟩
      · obtain rfl : i = vs.length := Nat.le_antisymm hi (Nat.not_lt.mp hlt)
        refine W.done _ _ _ (by simpa using hst) fun h₂ tk₂ hk₂ => ?_
        refine post h₂ tk₂ m' ys hj (fr_but2 F' hk₂ ⟨Ne.symm hLe, Ne.symm hLi⟩ ⟨he₀, hi₀⟩) (fun p hp => ?_) (hn'.at' fun o e => hk₂ _ o (by simp only [List.mem_cons, List.not_mem_nil, or_false, not_or]; exact ⟨c1, c2⟩) e)
        refine ⟨hk₂ _ _ ?_ (N' p hp).1, (N' p hp).2⟩
        simp only [List.mem_cons, List.not_mem_nil, or_false, not_or]
        rcases List.mem_cons.mp hp with rfl | hp
        · exact ⟨Nat.ne_of_gt (Nat.lt_succ_self _), Nat.ne_of_gt (Nat.lt_succ_of_lt (Nat.lt_succ_self _))⟩
        · have hq : @LT.lt Nat _ p.1 S := nlt p hp
          exact ⟨Nat.ne_of_lt (Nat.lt_succ_of_lt hq), Nat.ne_of_lt hq⟩
    · rcases List.mem_cons.mp hp with rfl | hp
      · exact ⟨u3 _ _ kD, hLD, hD₀⟩
      · exact ⟨up _ _ (N p hp).1, (N p hp).2⟩
  exact codeAny_compStart_list (loop _ rfl) (wpAny_pyIter_enum (up _ _ hen) (loop _ rfl))
theorem ListComp_E {elt iter : Expr} {x x₂ : Str} {px px₂ tp : Pos} {tk} {scope : Scope} {cl : List (Str × Addr)} {pos : Pos} {Q : Value → Shared → Prop} (_F₀ : Fr h₀ L s.heap m)
    (hclos : closureFor scope env = pure cl) (hcell : ∀ y ∈ scope.names, y.2 ≠ .cell) (hkind : scope.kind = .function)
    (hnames : ∀ y ∈ scope.names, y.2 = .local → scope.names.lookup y.1 = some .local) (hx : scope.names.lookup x = some .local) (hx₂ : scope.names.lookup x₂ = some .local) (hxx : x ≠ x₂)
    (h : wpAny (model prog w) A (eval iter env) (SrcE prog w A h₀ L m env elt x x₂ scope cl (fun _ => m) (fun D => Q (.ref D))) E s)
    (hs : ∀ x, foldedSetIterable iter env x = pure x := by intro _; rfl) :
    wpAny (model prog w) A (eval (.ListComp elt [⟨.Tuple [.Name x px, .Name x₂ px₂] tk tp, iter, [], 0⟩] scope pos) env) Q E s := by
  rw [eval_ListComp]
  refine wpAny_comprehension_free (use := none) rfl hs hclos hkind hnames (wpAny_mono h (fun xv s₁ h₁ => ?_) fun _ _ e => e)
  obtain ⟨S, l, vs, k, news, J, rfl, hh, F, N, hm, hsz, hen, hit, hS, nlt, hLS, hJ0, step, fin⟩ := h₁
  refine wpAny_pyIter_enum hen ?_
  have keep0 : ∀ a, @LE.le Nat _ S a → h₀.get? a = none := fun a ha => by
    cases e : h₀.get? a with
    | none => rfl
    | some o' =>
      have h1 : @LT.lt Nat _ a L := Nat.lt_of_lt_of_le (Heap.lt_size e) F.above
      exact absurd (Nat.lt_trans h1 hLS) (Nat.not_lt.mpr ha)
  have hLC : @Ne Nat (S + 1 + 1 + 1) L := Nat.ne_of_gt (Nat.lt_succ_of_lt (Nat.lt_succ_of_lt (Nat.lt_succ_of_lt hLS)))
  have hC₀ := keep0 (S + 1 + 1 + 1) (by omega)
  refine block_E hcell hkind hx hx₂ hxx hh F N hm hsz hen hit hS nlt hLS hJ0 step ?_
  intro h' tk m' ys hj F' N' hn'
  refine ⟨m', hn', fun h'' hs'' => fin (S + 1 + 1) ys h'' tk hj (F'.change hs'' hLC hC₀) (fun p hp => ?_) (fun p hp => Nat.lt_succ_of_lt (Nat.lt_succ_of_lt (nlt p hp)))⟩
  refine ⟨hs''.extBut _ _ ?_ (N' p hp).1, (N' p hp).2⟩
  rcases List.mem_cons.mp hp with rfl | hp
  · exact Nat.ne_of_lt (Nat.lt_succ_self _)
  · exact Nat.ne_of_lt (Nat.lt_succ_of_lt (Nat.lt_succ_of_lt (Nat.lt_succ_of_lt (nlt p hp))))
theorem Assign_ListComp_E {elt iter : Expr} {x x₂ y : Str} {px px₂ tp py : Pos} {tk} {scope : Scope} {cl : List (Str × Addr)} {pos spos : Pos} {Q : Flow → Shared → Prop} (_F₀ : Fr h₀ L s.heap m) (hLe : env.locals = L)
    (hsw : swapsWith (.ListComp elt [⟨.Tuple [.Name x px, .Name x₂ px₂] tk tp, iter, [], 0⟩] scope pos) (some (.Name y py)) spos.line env = pure true)
    (hclos : closureFor scope env = pure cl) (hcell : ∀ z ∈ scope.names, z.2 ≠ .cell) (hkind : scope.kind = .function)
    (hnames : ∀ z ∈ scope.names, z.2 = .local → scope.names.lookup z.1 = some .local) (hx : scope.names.lookup x = some .local) (hx₂ : scope.names.lookup x₂ = some .local) (hxx : x ≠ x₂)
    (hy : env.kindOf y = some .local) (hp : (env.scope.kind == .class || (env.scope.kind == .module && env.locals != env.globals)) = false)
    (h : wpAny (model prog w) A (eval iter env) (SrcE prog w A h₀ L m env elt x x₂ scope cl (fun D z => if z = y then some (.ref D) else m z) (fun _ => Q .next)) E s)
    (hs : ∀ x, foldedSetIterable iter env x = pure x := by intro _; rfl) :
    wpAny (model prog w) A (exec (.Assign [.Name y py] (.ListComp elt [⟨.Tuple [.Name x px, .Name x₂ px₂] tk tp, iter, [], 0⟩] scope pos) spos) env) Q E s := by
  subst hLe
  rw [exec_Assign_Name_used _ _ _ _ hsw]
  refine wpAny_bind (wpAny_standAt (wpAny_bind ?_))
  show wpAny _ A (do let _ ← comprehension (.ListComp elt [⟨.Tuple [.Name x px, .Name x₂ px₂] tk tp, iter, [], 0⟩] scope pos) scope env _ (newList []) false (eval iter env) (some (assign (.Name y py) env))) _ _ s
  refine wpAny_bind (wpAny_mono (wpAny_comprehension_free (use := some (assign (.Name y py) env)) (Q := fun _ s' => Q .next s') rfl hs hclos hkind hnames
    (wpAny_mono h (fun xv s₁ h₁ => ?_) fun _ _ e => e)) (fun _ s' hq => wpAny_pure (wpAny_pure hq)) fun _ _ e => e)
  obtain ⟨S, l, vs, k, news, J, rfl, hh, F, N, hm, hsz, hen, hit, hS, nlt, hLS, hJ0, step, fin⟩ := h₁
  refine wpAny_pyIter_enum hen ?_
  have keep0 : ∀ a, @LE.le Nat _ S a → h₀.get? a = none := fun a ha => by
    cases e : h₀.get? a with
    | none => rfl
    | some o' =>
      have h1 : @LT.lt Nat _ a env.locals := Nat.lt_of_lt_of_le (Heap.lt_size e) F.above
      exact absurd (Nat.lt_trans h1 hLS) (Nat.not_lt.mpr ha)
  have hLC : @Ne Nat (S + 1 + 1 + 1) env.locals := Nat.ne_of_gt (Nat.lt_succ_of_lt (Nat.lt_succ_of_lt (Nat.lt_succ_of_lt hLS)))
  have hC₀ := keep0 (S + 1 + 1 + 1) (by omega)
  refine block_E hcell hkind hx hx₂ hxx hh F N hm hsz hen hit hS nlt hLS hJ0 step ?_
  intro h' tk m' ys hj F' N' hn
  show wpAny _ A (assign (.Name y py) env (.ref (S + 1 + 1))) _ _ _
  refine wpAny_assign_Name (wpAny_storeName_local hy F'.ns (fun h₂ hn₂ hs₂ => ?_) hp)
  have hL₀ : h₀.get? env.locals = none := Heap.get?_none_of_le F'.above
  have F₂ : Fr h₀ env.locals h₂ (fun z => if z = y then some (.ref (S + 1 + 1)) else m z) := ⟨hn₂, fun b o e => hs₂.extBut b o (fun q => by rw [q, hL₀] at e; cases e) (F'.keep b o e), F'.above⟩
  refine ⟨m', hn.sameBut hs₂ hLC, fun h'' hs'' => fin (S + 1 + 1) ys h'' _ hj (F₂.change hs'' hLC hC₀) (fun p hp => ?_) (fun p hp => Nat.lt_succ_of_lt (Nat.lt_succ_of_lt (nlt p hp)))⟩
  have z : h₂.get? p.1 = some p.2 := hs₂.extBut _ _ (N' p hp).2.1 (N' p hp).1
  refine ⟨hs''.extBut _ _ ?_ z, (N' p hp).2⟩
  rcases List.mem_cons.mp hp with rfl | hp
  · exact Nat.ne_of_lt (Nat.lt_succ_self _)
  · exact Nat.ne_of_lt (Nat.lt_succ_of_lt (Nat.lt_succ_of_lt (Nat.lt_succ_of_lt (nlt p hp))))
/-- enumerate(l), l a list of the ledger's -/
theorem srcE_call {elt : Expr} {x x₂ : Str} {scope : Scope} {cl : List (Str × Addr)} {mf : Addr → Str → Option Value} {Q : Addr → Shared → Prop} {l : Addr} {vs : List Value} {k : Nat} {news : List (Addr × Obj)}
    (hh : A.handled = none) (F : Fr h₀ L s.heap m) (N : News h₀ L s.heap news) (hm : (l, listOf vs.toArray k) ∈ news) (hsz : vs.length ≤ 1000) (J : Nat → List Value → Prop) (hJ0 : J 0 [])
    (step : ∀ (g : Heap) (S : Addr) (i : Nat) (v : Value) (ys : List Value) (t : Tok) (oe oi : Obj) (C : Addr) (oC : Obj) (D : Addr) (m₂ : Str → Option Value) (h : Heap) (tk : Nat) (E' : Value → Shared → Prop), vs[i]? = some v → J i ys → LCg.NsObj oC m₂ → m₂ x = some (.int i t) → m₂ x₂ = some v → Fr h₀ L h m → News h₀ L h ((S + 1, oe) :: (S, oi) :: (C, oC) :: (D, LCg.lst ys) :: news) →
      wpAny (model prog w) A (eval elt (compEnvC scope cl C env)) (EnumEnd h₀ L m { s with heap := g } ((S + 1, oe) :: (S, oi) :: (C, oC) :: (D, LCg.lst ys) :: news) (fun y => J (i + 1) (ys ++ [y]))) E' { s with heap := h, toks := tk })
    (fin : ∀ D ys h tk, J vs.length ys → Fr h₀ L h (mf D) → News h₀ L h ((D, LCg.lst ys) :: news) → (∀ p ∈ news, @LT.lt Nat _ p.1 D) → Q D { s with heap := h, toks := tk }) :
    wpAny (model prog w) A (call (.type "enumerate") [.ref l]) (SrcE prog w A h₀ L m env elt x x₂ scope cl mf Q) E s := by
  have hl : s.heap.IsList l vs.toArray := PySem.IsL.isList (n := k) (N _ hm).1
  refine call_enumerate_list hl fun h' hE hI hsz' hk => ?_
  exact ⟨s.heap.objs.size, l, vs, k, news, J, rfl, hh, F.keeps hk, N.grown hk, hm, hsz, hE, hI, hsz', fun p hp => Heap.lt_size (N p hp).1, F.ns.lt, hJ0, step h' s.heap.objs.size, fun D ys h tk => fin D ys h tk⟩
end
end Comp5
-- X7
section X7
set_option maxRecDepth 100000
set_option maxHeartbeats 8000000
theorem set_back_X7 : True := by
  w_top off
  first | walk1 | trivial
local macro_rules | `(tactic| k_all) => `(tactic| with_reducible assumption)
set_option hygiene false in
local macro_rules | `(tactic| k_mem) => `(tactic| first | exact List.Mem.head _ | exact ha _ | exact hm1 _ | exact hm2 _ | exact hm3 _ | exact hm4 _ | exact hm5 _ | (refine' List.Mem.tail _ ?_; k_mem))
local macro_rules | `(tactic| k_all) => `(tactic| first | with_reducible assumption | (refine' all_ne_of (by with_reducible assumption) ?_; (try dsimp only); omega))
theorem ints_of : ∀ {l : List Value}, (∀ x ∈ l, ∃ n t, x = .int n t) → ∃ ms, IntsAre l ms
  | [], _ => ⟨[], .nil⟩
  | x :: r, h => by
    obtain ⟨n, t, rfl⟩ := h x (.head _)
    obtain ⟨ms, hm⟩ := ints_of (l := r) fun y hy => h y (.tail _ hy)
    exact ⟨n :: ms, .cons n t hm⟩
theorem ints_mem {l : List Value} {ns : List Int} (h : IntsAre l ns) : ∀ x ∈ l, ∃ n t, x = .int n t := by
  induction h with
  | nil => intro x hx; exact nomatch hx
  | cons n t _ ih =>
    intro x hx
    rcases List.mem_cons.mp hx with rfl | hx
    · exact ⟨n, t, rfl⟩
    · exact ih x hx
theorem slice8 {prog : Program} {w : World} {A : Around} {E : Value → Shared → Prop} {s : Shared} {Q : Value → Shared → Prop} {h₀ h9 : Heap} {tk : Nat} {L : Addr} {m : Str → Option Value} {news : List (Addr × Obj)} {value slice : Expr} {l : Addr} {vs : List Value} {ns : List Int} {k : Int} {t u : Tok} {ops : List Value}
    (F : Fr h₀ L h9 m) (N : News h₀ L h9 news) (hl : h₀.IsList l vs.toArray) (hi : IntsAre vs ns) (hz : ns.length ≤ 63)
    (h : ∀ D ws ms h', IntsAre ws ms → Fr h₀ L h' m → News h₀ L h' ((D, listOf ws.toArray 0) :: news) → (∀ p ∈ news, p.1 < D) → Q (.ref D) { s with heap := h', toks := tk })
    (hs : subscripted slice false (.ref l) (.ref h9.objs.size) = operate ops (getItem (.ref l) (.ref h9.objs.size))) (ht : ∀ r, letTemporaryGo value (.ref l) r = pure ()) :
    wpAny (model prog w) A (subscriptTail value slice (.ref l) (.ref h9.objs.size)) Q E { s with heap := h9.push { cls := .type "slice", data := .fields #[.int k t, .none, .int 8 u] }, toks := tk } := by
  obtain ⟨ms, hms⟩ : ∃ ms, IntsAre (slicePick vs.toArray (some k) none (some 8)).toList ms := ints_of fun x hx => by
    have hx' : x ∈ vs := by
      unfold slicePick at hx
      rw [List.toList_toArray] at hx
      obtain ⟨j, _, hj⟩ := List.mem_filterMap.mp hx
      have := Array.mem_of_getElem? hj
      simpa using this
    exact ints_mem hi x hx'
  exact kmk_slice3_lit (s := { s with heap := h9, toks := tk }) F N (Fr.lst F hl) (.int _ _) .none (.int _ _) (by decide) rfl (fun D h' F' N' l1 => h D _ ms h' hms F' N' l1) hs ht (by rw [List.size_toArray, hi.length]; exact size_okC (by omega))
theorem item_int {prog : Program} {w : World} {A : Around} {E : Value → Shared → Prop} {s : Shared} {Q : Value → Shared → Prop} {h₀ : Heap} {L : Addr} {news : List (Addr × Obj)} {value slice : Expr} {l : Addr} {vs : List Value} {ns : List Int} {n : Nat} {k : Int} {u : Tok}
    (N : News h₀ L s.heap news) (hm : (l, listOf vs.toArray n) ∈ news) (hi : IntsAre vs ns) (h0 : 0 ≤ k) (hlt : k.toNat < ns.length) (hz : ns.length ≤ 1000) (h : ∀ t, Q (.int (ns.getD k.toNat 0) t) s)
    (hs : subscripted slice false (.ref l) (.int k u) = operate [.ref l, .int k u] (getItem (.ref l) (.int k u))) (hg : ∀ r, letTemporaryGo value (.ref l) r = pure ()) :
    wpAny (model prog w) A (subscriptTail value slice (.ref l) (.int k u)) Q E s := by
  have hl : s.heap.IsList l vs.toArray := PySem.IsL.isList (n := n) (N _ hm).1
  obtain ⟨t, ht⟩ := hi.get k.toNat _ (List.getElem?_eq_getElem hlt)
  refine subscriptTail_builtin hl.typeIs slot_list_getitem.lookup (wpAny_getItem_list hl h0 (k63 hlt hz) (by simpa using ht) ?_) hs hg
  have := h t
  rw [List.getD_eq_getElem?_getD, List.getElem?_eq_getElem hlt] at this
  exact this
theorem sel_at {prog : Program} {w : World} {A : Around} {E : Value → Shared → Prop} {s : Shared} {Q : Value → Shared → Prop} {h₀ : Heap} {L : Addr} {news : List (Addr × Obj)} {value slice : Expr} {l : Addr} {vs : List Value} {n : Nat} {k : Int} {u : Tok}
    (N : News h₀ L s.heap news) (hm : (l, listOf vs.toArray n) ∈ news) (h0 : 0 ≤ k) (hlt : k.toNat < vs.length) (hz : vs.length ≤ 1000) (h : ∀ v, v ∈ vs → Q v s)
    (hs : subscripted slice false (.ref l) (.int k u) = operate [.ref l, .int k u] (getItem (.ref l) (.int k u))) :
    wpAny (model prog w) A (subscriptTail value slice (.ref l) (.int k u)) Q E s := by
  have hl : s.heap.IsList l vs.toArray := PySem.IsL.isList (n := n) (N _ hm).1
  exact subscriptTail_builtinR (x := vs[k.toNat]) hl.typeIs slot_list_getitem.lookup (wpAny_getItem_list hl h0 (k63 hlt hz) (by simp [List.getElem?_eq_getElem hlt]) ⟨rfl, h _ (List.getElem_mem hlt)⟩) hs
theorem fmod_pos {x n : Int} (hn : 0 < n) : 0 ≤ x.fmod n ∧ x.fmod n < n := ⟨Int.fmod_nonneg_of_pos x hn, Int.fmod_lt_of_pos x hn⟩
theorem sign_at {prog : Program} {w : World} {A : Around} {E : Value → Shared → Prop} {s : Shared} {Q : Value → Shared → Prop} {h₀ : Heap} {L : Addr} {news : List (Addr × Obj)} {value slice : Expr} {l : Addr} {s0 s1 s2 s3 : Str} {t0 t1 t2 t3 : Tok} {n : Nat} {x : Int} {u : Tok}
    (N : News h₀ L s.heap news) (hm : (l, listOf #[.str s0 t0, .str s1 t1, .str s2 t2, .str s3 t3] n) ∈ news) (h : ∀ sg t, sg ∈ [s0, s1, s2, s3] → Q (.str sg t) s)
    (hs : subscripted slice false (.ref l) (.int (x.fmod 4) u) = operate [.ref l, .int (x.fmod 4) u] (getItem (.ref l) (.int (x.fmod 4) u))) :
    wpAny (model prog w) A (subscriptTail value slice (.ref l) (.int (x.fmod 4) u)) Q E s := by
  have hk := fmod_pos (x := x) (n := 4) (by decide)
  refine sel_at (vs := [.str s0 t0, .str s1 t1, .str s2 t2, .str s3 t3]) N hm hk.1 ((Int.toNat_lt hk.1).mpr hk.2) (by show 4 ≤ 1000; decide) (fun v hv => ?_) hs
  simp only [List.mem_cons, List.not_mem_nil, or_false] at hv
  rcases hv with rfl | rfl | rfl | rfl
  · exact h _ _ (.head _)
  · exact h _ _ (.tail _ (.head _))
  · exact h _ _ (.tail _ (.tail _ (.head _)))
  · exact h _ _ (.tail _ (.tail _ (.tail _ (.head _))))
theorem end_at {prog : Program} {w : World} {A : Around} {E : Value → Shared → Prop} {s : Shared} {Q : Value → Shared → Prop} {h₀ : Heap} {L : Addr} {news : List (Addr × Obj)} {value slice : Expr} {l e1 e2 e3 e4 e5 : Addr} {t1 t2 t3 t4 t5 t6 : Tok} {n : Nat} {x : Int} {u : Tok}
    (N : News h₀ L s.heap ((l, listOf #[.ref e1, .ref e2, .ref e3, .ref e4, .ref e5] n) :: (e5, listOf #[.int 1 t5, .int 1 t6] 0) :: (e4, listOf #[.int 0 t3, .int 0 t4] 0) :: (e3, listOf #[.int 1 t2] 0) :: (e2, listOf #[.int 0 t1] 0) :: (e1, listOf #[] 0) :: news))
    (h : ∀ (e : Addr) (vf : List Value) (f : List Int), (e, vf, f) ∈ [(e1, [], []), (e2, [.int 0 t1], [0]), (e3, [.int 1 t2], [1]), (e4, [.int 0 t3, .int 0 t4], [0, 0]), (e5, [.int 1 t5, .int 1 t6], [(1 : Int), 1])] → Q (.ref e) s)
    (hs : subscripted slice false (.ref l) (.int (x.fmod 5) u) = operate [.ref l, .int (x.fmod 5) u] (getItem (.ref l) (.int (x.fmod 5) u))) :
    wpAny (model prog w) A (subscriptTail value slice (.ref l) (.int (x.fmod 5) u)) Q E s := by
  have hk := fmod_pos (x := x) (n := 5) (by decide)
  refine sel_at (vs := [.ref e1, .ref e2, .ref e3, .ref e4, .ref e5]) N (.head _) hk.1 ((Int.toNat_lt hk.1).mpr hk.2) (by show 5 ≤ 1000; decide) (fun v hv => ?_) hs
  simp only [List.mem_cons, List.not_mem_nil, or_false] at hv
  rcases hv with rfl | rfl | rfl | rfl | rfl
  · exact h _ _ _ (.head _)
  · exact h _ _ _ (.tail _ (.head _))
  · exact h _ _ _ (.tail _ (.tail _ (.head _)))
  · exact h _ _ _ (.tail _ (.tail _ (.tail _ (.head _))))
  · exact h _ _ _ (.tail _ (.tail _ (.tail _ (.tail _ (.head _)))))
theorem item_L2 {prog : Program} {w : World} {A : Around} {E : Value → Shared → Prop} {s : Shared} {Q : Value → Shared → Prop} {h₀ : Heap} {L : Addr} {news : List (Addr × Obj)} {value slice : Expr} {l : Addr} {its : Array Value} {v : Value} {n : Nat} {k : Int} {u : Tok}
    (N : News h₀ L s.heap news) (hm : (l, listOf its n) ∈ news) (hv : its[k.toNat]? = some v) (h0 : 0 ≤ k) (hz : its.size ≤ 1000) (h : Q v s)
    (hs : subscripted slice false (.ref l) (.int k u) = operate [.ref l, .int k u] (getItem (.ref l) (.int k u))) (hg : ∀ r, letTemporaryGo value (.ref l) r = pure ()) :
    wpAny (model prog w) A (subscriptTail value slice (.ref l) (.int k u)) Q E s := by
  have hl : s.heap.IsList l its := PySem.IsL.isList (n := n) (N _ hm).1
  have hlt : k.toNat < its.size := (Array.getElem?_eq_some_iff.mp hv).1
  exact subscriptTail_builtin hl.typeIs slot_list_getitem.lookup (wpAny_getItem_list hl h0 (k63 hlt hz) hv h) hs hg
theorem sumL {prog : Program} {w : World} {A : Around} {E : Value → Shared → Prop} {s : Shared} {Q : Value → Shared → Prop} {h₀ : Heap} {L : Addr} {m : Str → Option Value} {news : List (Addr × Obj)} {l : Addr} {vs : List Value} {ns : List Int} {n : Nat}
    (hh : A.handled = none) (F : Fr h₀ L s.heap m) (N : News h₀ L s.heap news) (hm : (l, listOf vs.toArray n) ∈ news) (hi : IntsAre vs ns)
    (h : ∀ h' tk t', Fr h₀ L h' m → News h₀ L h' news → Q (.int ns.sum t') { s with heap := h', toks := tk }) : wpAny (model prog w) A (call (.builtin "sum") [.ref l]) Q E s :=
  sumK hh F N (PySem.IsL.isList (n := n) (N _ hm).1) hi h
theorem sumB {prog : Program} {w : World} {A : Around} {E : Value → Shared → Prop} {s : Shared} {Q : Value → Shared → Prop} {h₀ : Heap} {L : Addr} {m : Str → Option Value} {news : List (Addr × Obj)} {l : Addr} {vs : List Value} {ns : List Int}
    (hh : A.handled = none) (F : Fr h₀ L s.heap m) (N : News h₀ L s.heap news) (hl : h₀.IsList l vs.toArray) (hi : IntsAre vs ns)
    (h : ∀ h' tk t', Fr h₀ L h' m → News h₀ L h' news → Q (.int ns.sum t') { s with heap := h', toks := tk }) : wpAny (model prog w) A (call (.builtin "sum") [.ref l]) Q E s :=
  sumK hh F N (Fr.lst F hl) hi h
theorem sel_mem {e e1 e2 e3 e4 e5 : Addr} {vf : List Value} {f : List Int} {t1 t2 t3 t4 t5 t6 : Tok} {led : List (Addr × Obj)} (h : (e, vf, f) ∈ [(e1, [], []), (e2, [.int 0 t1], [0]), (e3, [.int 1 t2], [1]), (e4, [.int 0 t3, .int 0 t4], [0, 0]), (e5, [.int 1 t5, .int 1 t6], [(1 : Int), 1])])
    (m1 : (e1, listOf #[] 0) ∈ led) (m2 : (e2, listOf #[.int 0 t1] 0) ∈ led) (m3 : (e3, listOf #[.int 1 t2] 0) ∈ led) (m4 : (e4, listOf #[.int 0 t3, .int 0 t4] 0) ∈ led) (m5 : (e5, listOf #[.int 1 t5, .int 1 t6] 0) ∈ led) : (e, listOf vf.toArray 0) ∈ led := by
  simp only [List.mem_cons, Prod.mk.injEq, List.not_mem_nil, or_false] at h
  rcases h with ⟨rfl, rfl, rfl⟩ | ⟨rfl, rfl, rfl⟩ | ⟨rfl, rfl, rfl⟩ | ⟨rfl, rfl, rfl⟩ | ⟨rfl, rfl, rfl⟩ <;> assumption
theorem sel_ends {e e1 e2 e3 e4 e5 : Addr} {vf : List Value} {f : List Int} {t1 t2 t3 t4 t5 t6 : Tok} (h : (e, vf, f) ∈ [(e1, [], []), (e2, [.int 0 t1], [0]), (e3, [.int 1 t2], [1]), (e4, [.int 0 t3, .int 0 t4], [0, 0]), (e5, [.int 1 t5, .int 1 t6], [(1 : Int), 1])]) : IntsAre vf f ∧ f ∈ ENDS := by
  simp only [List.mem_cons, Prod.mk.injEq, List.not_mem_nil, or_false] at h
  rcases h with ⟨rfl, rfl, rfl⟩ | ⟨rfl, rfl, rfl⟩ | ⟨rfl, rfl, rfl⟩ | ⟨rfl, rfl, rfl⟩ | ⟨rfl, rfl, rfl⟩
  · exact ⟨.nil, by decide⟩
  · exact ⟨.cons _ _ .nil, by decide⟩
  · exact ⟨.cons _ _ .nil, by decide⟩
  · exact ⟨.cons _ _ (.cons _ _ .nil), by decide⟩
  · exact ⟨.cons _ _ (.cons _ _ .nil), by decide⟩
theorem led_open {h₀ h : Heap} {L : Addr} {led rest : List (Addr × Obj)} {g : List (Addr × Obj) → List (Addr × Obj)} {C : Prop} (N : News h₀ L h led) (hl : LedOf rest led g) (k : ∀ G, G = g → Led G → News h₀ L h (G rest) → C) : C := k g rfl hl.eq.2 (hl.eq.1 ▸ N)
theorem hid_len {sg : Str} (_ : Signs sg) {f : List Int} (h : f.length ≤ 20) : Hid ((textOf sg f).length ≤ 20) := ⟨by rw [text_len]; exact h⟩
theorem hid_pos {sg : Str} (_ : Signs sg) {f : List Int} (h : 1 ≤ f.length) : Hid (1 ≤ (textOf sg f).length) := ⟨by rw [text_len]; exact h⟩
theorem hid_len100 {sg : Str} (_ : Signs sg) {f : List Int} (h : f.length ≤ 100) : Hid ((textOf sg f).length ≤ 100) := ⟨by rw [text_len]; exact h⟩
def encI (l : List Int) : PyData := .list (l.map PyData.int)
def encT (x : List Int × List Int × List Int) : PyData := .list [encI x.1, encI x.2.1, encI x.2.2]
theorem lay_I (l : List Int) : (encI l).canLay0 = true := by
  show PyData.canLayAll0 (l.map PyData.int) = true
  exact ints_lay l
theorem lay_T (x : List Int × List Int × List Int) : (encT x).canLay0 = true := by
  show ((encI x.1).canLay0 && ((encI x.2.1).canLay0 && ((encI x.2.2).canLay0 && PyData.canLayAll0 []))) = true
  rw [lay_I, lay_I, lay_I]; rfl
theorem lay_Ts : ∀ fs : List (List Int × List Int × List Int), PyData.canLayAll0 (fs.map encT) = true
  | [] => rfl
  | x :: r => by
    show ((encT x).canLay0 && PyData.canLayAll0 (r.map encT)) = true
    rw [lay_T, lay_Ts r]; rfl
theorem any_T {x : List Int × List Int × List Int} {fs : List (List Int × List Int × List Int)} (h : x ∈ fs) : ((fs.map encT).any fun y => PyData.eqv y (encT x)) = true := by
  rw [List.any_map, List.any_eq_true]
  exact ⟨x, h, PySem.SeqAt.eqv_refl _ (lay_T x)⟩
theorem dep_ints : ∀ l : List Int, PyData.depthAll (l.map PyData.int) = 0
  | [] => rfl
  | a :: r => by
    show max (PyData.depth (.int a)) (PyData.depthAll (r.map PyData.int)) = 0
    rw [dep_ints r]; rfl
theorem dep_I (l : List Int) : (encI l).depth = 1 := by
  show PyData.depthAll (l.map PyData.int) + 1 = 1
  rw [dep_ints]
theorem dep_T (x : List Int × List Int × List Int) : (encT x).depth ≤ 50 := by
  show max (encI x.1).depth (max (encI x.2.1).depth (max (encI x.2.2).depth 0)) + 1 ≤ 50
  rw [dep_I, dep_I, dep_I]; decide
theorem lst_reads {G : List (Addr × Obj) → List (Addr × Obj)} {r : List (Addr × Obj)} {h : Heap} (hm : ∀ p ∈ G r, h.get? p.1 = some p.2) {a : Addr} {l : List Int} (x : Lst G a l) : ∃ as, Reads h (.ref a) (encI l) as := by
  obtain ⟨vf, k, hi, hx⟩ := x
  exact ⟨_, .list (hm (a, listOf vf.toArray k) (hx r)) rfl rfl (reads_ints h hi)⟩
theorem told_reads {G : List (Addr × Obj) → List (Addr × Obj)} {r : List (Addr × Obj)} {h : Heap} (hm : ∀ p ∈ G r, h.get? p.1 = some p.2) : ∀ {items : List Value} {fs : List (List Int × List Int × List Int)}, Paired (ToldItem G) items fs → ∃ as, ReadsAll h items (fs.map encT) as
  | _, _, .nil => ⟨_, .nil⟩
  | _, _, .cons x t => by
    obtain ⟨T, a, b, c, k, rfl, hT, ha, hb, hc⟩ := x
    obtain ⟨a1, r1⟩ := lst_reads hm ha
    obtain ⟨a2, r2⟩ := lst_reads hm hb
    obtain ⟨a3, r3⟩ := lst_reads hm hc
    obtain ⟨a4, r4⟩ := told_reads hm t
    exact ⟨_, .cons (.list (hm (T, listOf #[.ref a, .ref b, .ref c] k) (hT r)) rfl rfl (.cons r1 (.cons r2 (.cons r3 .nil)))) r4⟩
local macro_rules | `(tactic| wtm_at "t11") => `(tactic| (intro sg9 t9 hsg9; replace hsg9 := Hid.mk hsg9))
theorem law_holds : PySem.Challenge.rw_ti0020_01.Holds := Mine.hd (by
  k_go0
  rename IntsAre _ _ => hI
  rename ¬ _ => hlen
  rename Heap.IsList (ghostOf _ _) _ _ => hbase
  rename List Int => xs
  have hxs : xs.length ≤ 63 := by omega
  (repeat' ((fail_if_success (with_reducible show wpAny _ _ (call (Value.type "enumerate") _) _ _ _)); first | (k_unfold; (try dsimp only)) | (k_end; wrow_close) | with_reducible (first | (k_here; (with_reducible show wpAny _ _ (exec (PySem.Stmt.Assign _ (PySem.Expr.ListComp _ [PySem.Comprehension.mk (PySem.Expr.Tuple _ _ _) _ [] _] _ _) _) _) _ _ _); k_dflt (refine Assign_ListComp_E (by k_asm) (by rfl) (by with_unfolding_all rfl) (by with_unfolding_all rfl) (by decide) (by rfl) (by decide) (by rfl) (by rfl) (by decide) (by rfl) (by rfl) ?_))) | (k_here; (with_reducible show wpAny _ _ (exec (PySem.Stmt.Assign _ (PySem.Expr.ListComp _ [PySem.Comprehension.mk (PySem.Expr.Tuple _ _ _) _ [] _] _ _) _) _) _ _ _); k_dflt (refine Assign_ListComp_E (by k_asm) (by rfl) (by with_unfolding_all rfl) (by with_unfolding_all rfl) (by decide) (by rfl) (by decide) (by rfl) (by rfl) (by decide) (by rfl) (by rfl) ?_)) | walk1 | (dsimp only; first | with_reducible (first | (k_here; (with_reducible show wpAny _ _ (exec (PySem.Stmt.Assign _ (PySem.Expr.ListComp _ [PySem.Comprehension.mk (PySem.Expr.Tuple _ _ _) _ [] _] _ _) _) _) _ _ _); k_dflt (refine Assign_ListComp_E (by k_asm) (by rfl) (by with_unfolding_all rfl) (by with_unfolding_all rfl) (by decide) (by rfl) (by decide) (by rfl) (by rfl) (by decide) (by rfl) (by rfl) ?_))) | (k_here; (with_reducible show wpAny _ _ (exec (PySem.Stmt.Assign _ (PySem.Expr.ListComp _ [PySem.Comprehension.mk (PySem.Expr.Tuple _ _ _) _ [] _] _ _) _) _) _ _ _); k_dflt (refine Assign_ListComp_E (by k_asm) (by rfl) (by with_unfolding_all rfl) (by with_unfolding_all rfl) (by decide) (by rfl) (by decide) (by rfl) (by rfl) (by decide) (by rfl) (by rfl) ?_)) | walk1) | (leave1; (try dsimp only)) | fail "no step"))
  refine' srcE_call rfl ?z0 ?z1 ?z2 ?z3 (fun i ys => ∃ ns, IntsAre ys ns ∧ ns.length = i) ⟨[], .nil, rfl⟩ ?st ?fi
  case z0 => k_asm
  case z1 => k_asm
  case z2 => exact .head _
  case z3 => exact Nat.le_of_ble_eq_true rfl
  case st =>
    intro g S i v ys t oe oi C oC D m₂ h tk E' hv hys hoC hma hmb Ft Nt
    have hv' : ∃ kk tt, v = .int kk tt := by
      rcases i with _ | _ | _ | _ | _ | _ | _ | _ | i <;> first | (cases hv; exact ⟨_, _, rfl⟩) | (simp at hv)
    obtain ⟨kk, tt, rfl⟩ := hv'
    (repeat' (first | (k_unfold; (try dsimp only)) | (k_end; wrow_close) | with_reducible (first | (k_here; (with_reducible show wpAny _ _ (subscriptTail _ (PySem.Expr.Slice (some _) none (some _) _) (Value.ref _) (Value.ref _)) _ _ _); k_dflt (refine' slice8 ?z1 ?z2 ?z3 ?z4 ?z5 ?_ ?z6 ?z7; (case z1 => k_asm); (case z2 => k_asm); (case z3 => with_reducible assumption); (case z4 => with_reducible assumption); (case z5 => with_reducible assumption); (case z6 => with_unfolding_all rfl); (case z7 => (intro _; with_unfolding_all rfl))); wtm_at "t12") | (k_here; (with_reducible show wpAny _ _ (call (Value.builtin "sum") [Value.ref _]) _ _ _); k_dflt (first | (refine' sumB ?k0 ?k1 ?k2 ?k3 ?k4 ?_; (case k0 => rfl); (case k1 => k_asm); (case k2 => k_asm); (case k3 => with_reducible assumption); (case k4 => with_reducible assumption)) | (refine' sumL ?k0 ?k1 ?k2 ?k3 ?k4 ?_; (case k0 => rfl); (case k1 => k_asm); (case k2 => k_asm); (case k3 => k_mem); (case k4 => with_reducible assumption))); intro _ _ _ _ _; (try k_sweep))) | (k_here; (with_reducible show wpAny _ _ (subscriptTail _ (PySem.Expr.Slice (some _) none (some _) _) (Value.ref _) (Value.ref _)) _ _ _); k_dflt (refine' slice8 ?z1 ?z2 ?z3 ?z4 ?z5 ?_ ?z6 ?z7; (case z1 => k_asm); (case z2 => k_asm); (case z3 => with_reducible assumption); (case z4 => with_reducible assumption); (case z5 => with_reducible assumption); (case z6 => with_unfolding_all rfl); (case z7 => (intro _; with_unfolding_all rfl))); wtm_at "t12") | (k_here; (with_reducible show wpAny _ _ (call (Value.builtin "sum") [Value.ref _]) _ _ _); k_dflt (first | (refine' sumB ?k0 ?k1 ?k2 ?k3 ?k4 ?_; (case k0 => rfl); (case k1 => k_asm); (case k2 => k_asm); (case k3 => with_reducible assumption); (case k4 => with_reducible assumption)) | (refine' sumL ?k0 ?k1 ?k2 ?k3 ?k4 ?_; (case k0 => rfl); (case k1 => k_asm); (case k2 => k_asm); (case k3 => k_mem); (case k4 => with_reducible assumption))); intro _ _ _ _ _; (try k_sweep)) | walk1 | (dsimp only; first | with_reducible (first | (k_here; (with_reducible show wpAny _ _ (subscriptTail _ (PySem.Expr.Slice (some _) none (some _) _) (Value.ref _) (Value.ref _)) _ _ _); k_dflt (refine' slice8 ?z1 ?z2 ?z3 ?z4 ?z5 ?_ ?z6 ?z7; (case z1 => k_asm); (case z2 => k_asm); (case z3 => with_reducible assumption); (case z4 => with_reducible assumption); (case z5 => with_reducible assumption); (case z6 => with_unfolding_all rfl); (case z7 => (intro _; with_unfolding_all rfl))); wtm_at "t12") | (k_here; (with_reducible show wpAny _ _ (call (Value.builtin "sum") [Value.ref _]) _ _ _); k_dflt (first | (refine' sumB ?k0 ?k1 ?k2 ?k3 ?k4 ?_; (case k0 => rfl); (case k1 => k_asm); (case k2 => k_asm); (case k3 => with_reducible assumption); (case k4 => with_reducible assumption)) | (refine' sumL ?k0 ?k1 ?k2 ?k3 ?k4 ?_; (case k0 => rfl); (case k1 => k_asm); (case k2 => k_asm); (case k3 => k_mem); (case k4 => with_reducible assumption))); intro _ _ _ _ _; (try k_sweep))) | (k_here; (with_reducible show wpAny _ _ (subscriptTail _ (PySem.Expr.Slice (some _) none (some _) _) (Value.ref _) (Value.ref _)) _ _ _); k_dflt (refine' slice8 ?z1 ?z2 ?z3 ?z4 ?z5 ?_ ?z6 ?z7; (case z1 => k_asm); (case z2 => k_asm); (case z3 => with_reducible assumption); (case z4 => with_reducible assumption); (case z5 => with_reducible assumption); (case z6 => with_unfolding_all rfl); (case z7 => (intro _; with_unfolding_all rfl))); wtm_at "t12") | (k_here; (with_reducible show wpAny _ _ (call (Value.builtin "sum") [Value.ref _]) _ _ _); k_dflt (first | (refine' sumB ?k0 ?k1 ?k2 ?k3 ?k4 ?_; (case k0 => rfl); (case k1 => k_asm); (case k2 => k_asm); (case k3 => with_reducible assumption); (case k4 => with_reducible assumption)) | (refine' sumL ?k0 ?k1 ?k2 ?k3 ?k4 ?_; (case k0 => rfl); (case k1 => k_asm); (case k2 => k_asm); (case k3 => k_mem); (case k4 => with_reducible assumption))); intro _ _ _ _ _; (try k_sweep)) | walk1) | (leave1; (try dsimp only)) | fail "no step"))
    obtain ⟨ns, hns, hnl⟩ := hys
    refine EnumEnd.intro (by with_reducible assumption) (by with_reducible assumption) (fun p hp => by repeat (first | exact hp | apply List.Mem.tail)) ⟨ns ++ [_], ints_snoc hns, by rw [List.length_append, List.length_singleton, hnl]⟩
  case fi =>
    intro DC yc hc tkc hJc Fc Nc ltc
    obtain ⟨cs, hcs, hcl⟩ := hJc
    replace hcl : cs.length = 8 := hcl
    have hcl6 : Int.toNat 6 < cs.length := by rw [hcl]; decide
    have hcl7 : Int.toNat 7 < cs.length := by rw [hcl]; decide
    have hclk : cs.length ≤ 1000 := by rw [hcl]; decide
    have hclm : cs.length ≤ 16777216 := by rw [hcl]; decide
    (repeat' ((fail_if_success (with_reducible show LCg.CompSrc _ _ _ _ _ _ _ _ _ _ _ _ _ _)); (fail_if_success (with_reducible show LCt.CompSrcT _ _ _ _ _ _ _ _ _ _ _ _ _ _ _)); first | (k_unfold; (try dsimp only)) | (k_end; wrow_close) | with_reducible (first | (k_here; (with_reducible show wpAny _ _ (exec (PySem.Stmt.Assign _ (PySem.Expr.ListComp _ [PySem.Comprehension.mk (PySem.Expr.Name _ _) _ [] _] _ _) _) _) _ _ _); k_dflt (refine LCg.Assign_ListComp_U (F₀ := by k_asm) (by rfl) (by with_unfolding_all rfl) (by with_unfolding_all rfl) (by decide) (by rfl) (by decide) (by rfl) (by rfl) (by rfl) ?_)) | ((with_reducible show wpAny _ _ (subscriptTail _ _ _ _) _ _ _); first | (k_here; (with_reducible show wpAny _ _ (subscriptTail (PySem.Expr.List ..) _ (Value.ref _) (Value.int _ _)) _ _ _); k_dflt (refine' sign_at ?j1 ?j2 ?_ ?j6; (case j1 => k_asm); (case j2 => k_mem); (case j6 => with_unfolding_all rfl)); wtm_at "t11") | (k_here; (with_reducible show wpAny _ _ (subscriptTail (PySem.Expr.Name ..) (PySem.Expr.Constant ..) (Value.ref _) (Value.int _ _)) _ _ _); k_dflt (refine' item_int ?j1 ?j2 ?j3 ?j4 ?j5 ?j8 ?_ ?j6 ?j7; (case j1 => k_asm); (case j2 => k_mem); (case j3 => with_reducible assumption); (case j4 => decide); (case j5 => omega); (case j8 => omega); (case j6 => with_unfolding_all rfl); (case j7 => (intro _; with_unfolding_all rfl))); intro _))) | (k_here; (with_reducible show wpAny _ _ (exec (PySem.Stmt.Assign _ (PySem.Expr.ListComp _ [PySem.Comprehension.mk (PySem.Expr.Name _ _) _ [] _] _ _) _) _) _ _ _); k_dflt (refine LCg.Assign_ListComp_U (F₀ := by k_asm) (by rfl) (by with_unfolding_all rfl) (by with_unfolding_all rfl) (by decide) (by rfl) (by decide) (by rfl) (by rfl) (by rfl) ?_)) | ((with_reducible show wpAny _ _ (subscriptTail _ _ _ _) _ _ _); first | (k_here; (with_reducible show wpAny _ _ (subscriptTail (PySem.Expr.List ..) _ (Value.ref _) (Value.int _ _)) _ _ _); k_dflt (refine' sign_at ?j1 ?j2 ?_ ?j6; (case j1 => k_asm); (case j2 => k_mem); (case j6 => with_unfolding_all rfl)); wtm_at "t11") | (k_here; (with_reducible show wpAny _ _ (subscriptTail (PySem.Expr.Name ..) (PySem.Expr.Constant ..) (Value.ref _) (Value.int _ _)) _ _ _); k_dflt (refine' item_int ?j1 ?j2 ?j3 ?j4 ?j5 ?j8 ?_ ?j6 ?j7; (case j1 => k_asm); (case j2 => k_mem); (case j3 => with_reducible assumption); (case j4 => decide); (case j5 => omega); (case j8 => omega); (case j6 => with_unfolding_all rfl); (case j7 => (intro _; with_unfolding_all rfl))); intro _)) | walk1 | (dsimp only; first | with_reducible (first | (k_here; (with_reducible show wpAny _ _ (exec (PySem.Stmt.Assign _ (PySem.Expr.ListComp _ [PySem.Comprehension.mk (PySem.Expr.Name _ _) _ [] _] _ _) _) _) _ _ _); k_dflt (refine LCg.Assign_ListComp_U (F₀ := by k_asm) (by rfl) (by with_unfolding_all rfl) (by with_unfolding_all rfl) (by decide) (by rfl) (by decide) (by rfl) (by rfl) (by rfl) ?_)) | ((with_reducible show wpAny _ _ (subscriptTail _ _ _ _) _ _ _); first | (k_here; (with_reducible show wpAny _ _ (subscriptTail (PySem.Expr.List ..) _ (Value.ref _) (Value.int _ _)) _ _ _); k_dflt (refine' sign_at ?j1 ?j2 ?_ ?j6; (case j1 => k_asm); (case j2 => k_mem); (case j6 => with_unfolding_all rfl)); wtm_at "t11") | (k_here; (with_reducible show wpAny _ _ (subscriptTail (PySem.Expr.Name ..) (PySem.Expr.Constant ..) (Value.ref _) (Value.int _ _)) _ _ _); k_dflt (refine' item_int ?j1 ?j2 ?j3 ?j4 ?j5 ?j8 ?_ ?j6 ?j7; (case j1 => k_asm); (case j2 => k_mem); (case j3 => with_reducible assumption); (case j4 => decide); (case j5 => omega); (case j8 => omega); (case j6 => with_unfolding_all rfl); (case j7 => (intro _; with_unfolding_all rfl))); intro _))) | (k_here; (with_reducible show wpAny _ _ (exec (PySem.Stmt.Assign _ (PySem.Expr.ListComp _ [PySem.Comprehension.mk (PySem.Expr.Name _ _) _ [] _] _ _) _) _) _ _ _); k_dflt (refine LCg.Assign_ListComp_U (F₀ := by k_asm) (by rfl) (by with_unfolding_all rfl) (by with_unfolding_all rfl) (by decide) (by rfl) (by decide) (by rfl) (by rfl) (by rfl) ?_)) | ((with_reducible show wpAny _ _ (subscriptTail _ _ _ _) _ _ _); first | (k_here; (with_reducible show wpAny _ _ (subscriptTail (PySem.Expr.List ..) _ (Value.ref _) (Value.int _ _)) _ _ _); k_dflt (refine' sign_at ?j1 ?j2 ?_ ?j6; (case j1 => k_asm); (case j2 => k_mem); (case j6 => with_unfolding_all rfl)); wtm_at "t11") | (k_here; (with_reducible show wpAny _ _ (subscriptTail (PySem.Expr.Name ..) (PySem.Expr.Constant ..) (Value.ref _) (Value.int _ _)) _ _ _); k_dflt (refine' item_int ?j1 ?j2 ?j3 ?j4 ?j5 ?j8 ?_ ?j6 ?j7; (case j1 => k_asm); (case j2 => k_mem); (case j3 => with_reducible assumption); (case j4 => decide); (case j5 => omega); (case j8 => omega); (case j6 => with_unfolding_all rfl); (case j7 => (intro _; with_unfolding_all rfl))); intro _)) | walk1) | (leave1; (try dsimp only)) | fail "no step"))
    rename IntsAre _ (List.take _ cs) => hpick
    rename ∀ p : Addr × Obj, p ∈ (_ : List (Addr × Obj)) → p.1 < _ => ltP
    have oP37 : @LT.lt Nat _ 37 _ := ltP (37, tabObj #[]) (by repeat (first | exact List.Mem.head _ | apply List.Mem.tail))
    have oC37 : @LT.lt Nat _ 37 DC := ltc (37, tabObj #[]) (by repeat (first | exact List.Mem.head _ | apply List.Mem.tail))
    have hpkl : 3 ≤ (List.take (3 + (cs.getD 6 0).fmod 4).toNat cs).length ∧ (List.take (3 + (cs.getD 6 0).fmod 4).toNat cs).length ≤ 6 := by
      have := fmod_pos (x := cs.getD 6 0) (n := 4) (by decide)
      rw [List.length_take]; exact pk_len this (by rw [hcl]; decide)
    generalize List.take (3 + (cs.getD 6 0).fmod 4).toNat cs = pk at hpick hpkl
    refine' src_map_ints (fun k => k.fmod 2) rfl ?y0 ?y1 ?y2 hpick ?y3 ?st ?fi
    case y0 => k_asm
    case y1 => k_asm
    case y2 => (repeat (first | exact List.Mem.head _ | apply List.Mem.tail))
    case y3 => omega
    case st =>
      intro g8 kk tb ys I8 oI8 C8 oC8 D8 m8 h8 tk8 E8 hk8 hoC hb Ft8 Nt8
      k_steps
      exact IntEnd.intro (by with_reducible assumption) (by with_reducible assumption)
    case fi =>
      intro g8 y5 hy5
      (walk1; try dsimp only)
      rename_i DK hK tkK FK NK offK
      have oK37 : @Ne Nat 37 DK := offK.2.2.2.2.2.2.1
      have oK30 : @Ne Nat 30 DK := offK.2.2.2.2.2.2.2.1
      (repeat' ((fail_if_success (with_reducible show wpAny _ _ (call (Value.ref 129) _) _ _ _)); first | (k_unfold; (try dsimp only)) | (k_end; wrow_close) | with_reducible (first | ((with_reducible show wpAny _ _ (call _ _) _ _ _); first | (k_here; (with_reducible show wpAny _ _ (call (Value.builtin "sum") [Value.ref _]) _ _ _); k_dflt (first | (refine' sumB ?k0 ?k1 ?k2 ?k3 ?k4 ?_; (case k0 => rfl); (case k1 => k_asm); (case k2 => k_asm); (case k3 => with_reducible assumption); (case k4 => with_reducible assumption)) | (refine' sumL ?k0 ?k1 ?k2 ?k3 ?k4 ?_; (case k0 => rfl); (case k1 => k_asm); (case k2 => k_asm); (case k3 => k_mem); (case k4 => with_reducible assumption))); intro _ _ _ _ _; (try k_sweep)) | (k_here; (with_reducible show wpAny _ _ (call (Value.ref 141) _) _ _ _); k_dflt (refine' ends_spec ?jB ?jF ?jX ?jN ?jT ?jk ?jd ?ju ?_; (case jB => k_asm); (case jF => k_asm); (case jX => k_asm); (case jN => k_asm); (case jT => k_asm); (case jk => exact rfl); (case jd => decide); (case ju => decide); k_whole); wtm_at "t10")) | ((with_reducible show wpAny _ _ (subscriptTail _ _ _ _) _ _ _); first | (k_here; (with_reducible show wpAny _ _ (subscriptTail (PySem.Expr.Call ..) _ (Value.ref _) (Value.int _ _)) _ _ _); k_dflt (refine' end_at ?j1 ?_ ?j6; (case j1 => k_asm); (case j6 => with_unfolding_all rfl)); first | (have hq9 := hselF9; clear hq9; intro efE vfE fE hselE9; replace hselE9 := Hid.mk hselE9) | (intro efF vfF fF hselF9; replace hselF9 := Hid.mk hselF9)) | (k_here; (with_reducible show wpAny _ _ (subscriptTail (PySem.Expr.Name ..) (PySem.Expr.Constant ..) (Value.ref _) (Value.int _ _)) _ _ _); k_dflt (refine' item_int ?j1 ?j2 ?j3 ?j4 ?j5 ?j8 ?_ ?j6 ?j7; (case j1 => k_asm); (case j2 => k_mem); (case j3 => with_reducible assumption); (case j4 => decide); (case j5 => omega); (case j8 => omega); (case j6 => with_unfolding_all rfl); (case j7 => (intro _; with_unfolding_all rfl))); intro _)) | (k_here; (with_reducible show wpAny _ _ (callWith _ (Value.ref _) [] _ _) _ _ _); k_dflt (first | (refine' callWith_K ?k1 ?k2 ?_; (case k1 => k_asm); (case k2 => k_is); k_whole) | (refine' callWith_K0 ?k1 ?k2 ?_; (case k1 => k_in); (case k2 => k_is); k_whole)))) | ((with_reducible show wpAny _ _ (call _ _) _ _ _); first | (k_here; (with_reducible show wpAny _ _ (call (Value.builtin "sum") [Value.ref _]) _ _ _); k_dflt (first | (refine' sumB ?k0 ?k1 ?k2 ?k3 ?k4 ?_; (case k0 => rfl); (case k1 => k_asm); (case k2 => k_asm); (case k3 => with_reducible assumption); (case k4 => with_reducible assumption)) | (refine' sumL ?k0 ?k1 ?k2 ?k3 ?k4 ?_; (case k0 => rfl); (case k1 => k_asm); (case k2 => k_asm); (case k3 => k_mem); (case k4 => with_reducible assumption))); intro _ _ _ _ _; (try k_sweep)) | (k_here; (with_reducible show wpAny _ _ (call (Value.ref 141) _) _ _ _); k_dflt (refine' ends_spec ?jB ?jF ?jX ?jN ?jT ?jk ?jd ?ju ?_; (case jB => k_asm); (case jF => k_asm); (case jX => k_asm); (case jN => k_asm); (case jT => k_asm); (case jk => exact rfl); (case jd => decide); (case ju => decide); k_whole); wtm_at "t10")) | ((with_reducible show wpAny _ _ (subscriptTail _ _ _ _) _ _ _); first | (k_here; (with_reducible show wpAny _ _ (subscriptTail (PySem.Expr.Call ..) _ (Value.ref _) (Value.int _ _)) _ _ _); k_dflt (refine' end_at ?j1 ?_ ?j6; (case j1 => k_asm); (case j6 => with_unfolding_all rfl)); first | (have hq9 := hselF9; clear hq9; intro efE vfE fE hselE9; replace hselE9 := Hid.mk hselE9) | (intro efF vfF fF hselF9; replace hselF9 := Hid.mk hselF9)) | (k_here; (with_reducible show wpAny _ _ (subscriptTail (PySem.Expr.Name ..) (PySem.Expr.Constant ..) (Value.ref _) (Value.int _ _)) _ _ _); k_dflt (refine' item_int ?j1 ?j2 ?j3 ?j4 ?j5 ?j8 ?_ ?j6 ?j7; (case j1 => k_asm); (case j2 => k_mem); (case j3 => with_reducible assumption); (case j4 => decide); (case j5 => omega); (case j8 => omega); (case j6 => with_unfolding_all rfl); (case j7 => (intro _; with_unfolding_all rfl))); intro _)) | (k_here; (with_reducible show wpAny _ _ (callWith _ (Value.ref _) [] _ _) _ _ _); k_dflt (first | (refine' callWith_K ?k1 ?k2 ?_; (case k1 => k_asm); (case k2 => k_is); k_whole) | (refine' callWith_K0 ?k1 ?k2 ?_; (case k1 => k_in); (case k2 => k_is); k_whole))) | walk1 | (dsimp only; first | with_reducible (first | ((with_reducible show wpAny _ _ (call _ _) _ _ _); first | (k_here; (with_reducible show wpAny _ _ (call (Value.builtin "sum") [Value.ref _]) _ _ _); k_dflt (first | (refine' sumB ?k0 ?k1 ?k2 ?k3 ?k4 ?_; (case k0 => rfl); (case k1 => k_asm); (case k2 => k_asm); (case k3 => with_reducible assumption); (case k4 => with_reducible assumption)) | (refine' sumL ?k0 ?k1 ?k2 ?k3 ?k4 ?_; (case k0 => rfl); (case k1 => k_asm); (case k2 => k_asm); (case k3 => k_mem); (case k4 => with_reducible assumption))); intro _ _ _ _ _; (try k_sweep)) | (k_here; (with_reducible show wpAny _ _ (call (Value.ref 141) _) _ _ _); k_dflt (refine' ends_spec ?jB ?jF ?jX ?jN ?jT ?jk ?jd ?ju ?_; (case jB => k_asm); (case jF => k_asm); (case jX => k_asm); (case jN => k_asm); (case jT => k_asm); (case jk => exact rfl); (case jd => decide); (case ju => decide); k_whole); wtm_at "t10")) | ((with_reducible show wpAny _ _ (subscriptTail _ _ _ _) _ _ _); first | (k_here; (with_reducible show wpAny _ _ (subscriptTail (PySem.Expr.Call ..) _ (Value.ref _) (Value.int _ _)) _ _ _); k_dflt (refine' end_at ?j1 ?_ ?j6; (case j1 => k_asm); (case j6 => with_unfolding_all rfl)); first | (have hq9 := hselF9; clear hq9; intro efE vfE fE hselE9; replace hselE9 := Hid.mk hselE9) | (intro efF vfF fF hselF9; replace hselF9 := Hid.mk hselF9)) | (k_here; (with_reducible show wpAny _ _ (subscriptTail (PySem.Expr.Name ..) (PySem.Expr.Constant ..) (Value.ref _) (Value.int _ _)) _ _ _); k_dflt (refine' item_int ?j1 ?j2 ?j3 ?j4 ?j5 ?j8 ?_ ?j6 ?j7; (case j1 => k_asm); (case j2 => k_mem); (case j3 => with_reducible assumption); (case j4 => decide); (case j5 => omega); (case j8 => omega); (case j6 => with_unfolding_all rfl); (case j7 => (intro _; with_unfolding_all rfl))); intro _)) | (k_here; (with_reducible show wpAny _ _ (callWith _ (Value.ref _) [] _ _) _ _ _); k_dflt (first | (refine' callWith_K ?k1 ?k2 ?_; (case k1 => k_asm); (case k2 => k_is); k_whole) | (refine' callWith_K0 ?k1 ?k2 ?_; (case k1 => k_in); (case k2 => k_is); k_whole)))) | ((with_reducible show wpAny _ _ (call _ _) _ _ _); first | (k_here; (with_reducible show wpAny _ _ (call (Value.builtin "sum") [Value.ref _]) _ _ _); k_dflt (first | (refine' sumB ?k0 ?k1 ?k2 ?k3 ?k4 ?_; (case k0 => rfl); (case k1 => k_asm); (case k2 => k_asm); (case k3 => with_reducible assumption); (case k4 => with_reducible assumption)) | (refine' sumL ?k0 ?k1 ?k2 ?k3 ?k4 ?_; (case k0 => rfl); (case k1 => k_asm); (case k2 => k_asm); (case k3 => k_mem); (case k4 => with_reducible assumption))); intro _ _ _ _ _; (try k_sweep)) | (k_here; (with_reducible show wpAny _ _ (call (Value.ref 141) _) _ _ _); k_dflt (refine' ends_spec ?jB ?jF ?jX ?jN ?jT ?jk ?jd ?ju ?_; (case jB => k_asm); (case jF => k_asm); (case jX => k_asm); (case jN => k_asm); (case jT => k_asm); (case jk => exact rfl); (case jd => decide); (case ju => decide); k_whole); wtm_at "t10")) | ((with_reducible show wpAny _ _ (subscriptTail _ _ _ _) _ _ _); first | (k_here; (with_reducible show wpAny _ _ (subscriptTail (PySem.Expr.Call ..) _ (Value.ref _) (Value.int _ _)) _ _ _); k_dflt (refine' end_at ?j1 ?_ ?j6; (case j1 => k_asm); (case j6 => with_unfolding_all rfl)); first | (have hq9 := hselF9; clear hq9; intro efE vfE fE hselE9; replace hselE9 := Hid.mk hselE9) | (intro efF vfF fF hselF9; replace hselF9 := Hid.mk hselF9)) | (k_here; (with_reducible show wpAny _ _ (subscriptTail (PySem.Expr.Name ..) (PySem.Expr.Constant ..) (Value.ref _) (Value.int _ _)) _ _ _); k_dflt (refine' item_int ?j1 ?j2 ?j3 ?j4 ?j5 ?j8 ?_ ?j6 ?j7; (case j1 => k_asm); (case j2 => k_mem); (case j3 => with_reducible assumption); (case j4 => decide); (case j5 => omega); (case j8 => omega); (case j6 => with_unfolding_all rfl); (case j7 => (intro _; with_unfolding_all rfl))); intro _)) | (k_here; (with_reducible show wpAny _ _ (callWith _ (Value.ref _) [] _ _) _ _ _); k_dflt (first | (refine' callWith_K ?k1 ?k2 ?_; (case k1 => k_asm); (case k2 => k_is); k_whole) | (refine' callWith_K0 ?k1 ?k2 ?_; (case k1 => k_in); (case k2 => k_is); k_whole))) | walk1) | (leave1; (try dsimp only)) | fail "no step"))
      rename_i hhK tFK FLK NLK tkLK
      have hwd := fmod_pos (x := xs.sum * 29) (n := 400) (by decide)
      obtain ⟨wd, hwdE⟩ : ∃ wd, 1 + (xs.sum * 29).fmod 400 = wd := ⟨_, rfl⟩
      rename News _ _ _ _ => N0
      refine led_open (rest := [(37, tabObj #[]), (30, tabObj #[])]) N0 (by wtm_at "r0") ?_
      intro G hGd hG N1
      have hmE := fun r => sel_mem (led := G r) hselE9.out (by rw [hGd]; repeat (first | exact List.Mem.head _ | apply List.Mem.tail)) (by rw [hGd]; repeat (first | exact List.Mem.head _ | apply List.Mem.tail)) (by rw [hGd]; repeat (first | exact List.Mem.head _ | apply List.Mem.tail)) (by rw [hGd]; repeat (first | exact List.Mem.head _ | apply List.Mem.tail)) (by rw [hGd]; repeat (first | exact List.Mem.head _ | apply List.Mem.tail))
      have hiE := sel_ends hselE9.out
      clear hselE9
      have hmF := fun r => sel_mem (led := G r) hselF9.out (by rw [hGd]; repeat (first | exact List.Mem.head _ | apply List.Mem.tail)) (by rw [hGd]; repeat (first | exact List.Mem.head _ | apply List.Mem.tail)) (by rw [hGd]; repeat (first | exact List.Mem.head _ | apply List.Mem.tail)) (by rw [hGd]; repeat (first | exact List.Mem.head _ | apply List.Mem.tail)) (by rw [hGd]; repeat (first | exact List.Mem.head _ | apply List.Mem.tail))
      have hiF := sel_ends hselF9.out
      clear hselF9
      have hmK : ∀ r, (DK, LCg.lst y5) ∈ G r := fun r => (by rw [hGd]; repeat (first | exact List.Mem.head _ | apply List.Mem.tail))
      rename Obj.data _ = Data.cell (some (Value.str _ _)) => dS
      rename Shared => s1
      rename Obj => oS
      have hm3 : ∀ r, (s1.heap.objs.size + 1 + 1, oS) ∈ G r := fun r => (by rw [hGd]; repeat (first | exact List.Mem.head _ | apply List.Mem.tail))
      have ha : ∀ r, (DK, listOf y5.toArray y5.length) ∈ G r := hmK
      have hm1 := hmF
      have hm2 := hmE
      clear hmF hmE hmK hGd N0 offK ltc ltP oP37 oC37 oK37 oK30
      rename Hid (_ ∈ (_ : List Str)) => hsgm
      have hsig := signs_ok hsgm.out
      have hs2 := hsig.len
      have hw1 : 1 ≤ wd := w1_of ‹_› ‹_›
      have hw2 : wd ≤ 400 := w2_of ‹_› ‹_›
      rw [hwdE] at NLK
      rw [hwdE]
      clear hwdE hwd
      have hcb : ∀ n ∈ List.map (fun k => k.fmod 2) pk, n = 0 ∨ n = 1 := fun n hn => by
        obtain ⟨x, _, rfl⟩ := List.mem_map.mp hn
        exact fm2 x
      have hc3 : 3 ≤ (List.map (fun k => k.fmod 2) pk).length := by rw [List.length_map]; exact hpkl.1
      have hc6 : (List.map (fun k => k.fmod 2) pk).length ≤ 6 := by rw [List.length_map]; exact hpkl.2
      generalize List.map (fun k => k.fmod 2) pk = core at hy5 hcb hc3 hc6
      clear hpkl hpick hcs hcl hcl6 hcl7 hclk hclm hlen
      repeat (rename @LT.lt Nat _ _ _ ∧ _ => q9; clear q9)
      obtain ⟨hiE1, hfE⟩ := hiE
      obtain ⟨hiF1, hfF⟩ := hiF
      obtain ⟨hE2, hEb⟩ := bits_ends hfE
      obtain ⟨hF2, hFb⟩ := bits_ends hfF
      replace hEb : ∀ n ∈ (_ : List Int), n = 0 ∨ n = 1 := hEb
      replace hFb : ∀ n ∈ (_ : List Int), n = 0 ∨ n = 1 := hFb
      have hdb : ∀ n ∈ dbl core, n = 0 ∨ n = 1 := bits_dbl hcb
      have hdl : (dbl core).length = 2 * core.length := dbl_len core
      have hd12 : (dbl core).length ≤ 12 := by rw [hdl]; exact Nat.mul_le_mul_left 2 hc6
      have hdl2 : (dbl core).length ≤ 100 := Nat.le_trans hd12 (by decide)
      have hE100 := Nat.le_trans hE2 (show 2 ≤ 100 by decide)
      have hF100 := Nat.le_trans hF2 (show 2 ≤ 100 by decide)
      have hc100 : core.length ≤ 100 := Nat.le_trans hc6 (by decide)
      have hj := Hid.mk (judge_ok hsig hfF hfE hcb hc3 hc6)
      have hj1 := hid_len hsig (Nat.le_trans hF2 (show 2 ≤ 20 by decide))
      have hj2 := hid_len hsig (Nat.le_trans hE2 (show 2 ≤ 20 by decide))
      have hj3 := hid_len hsig (show (dbl core).length ≤ 20 from Nat.le_trans hd12 (by decide))
      have hj4 := hid_pos hsig (show 1 ≤ (dbl core).length from hdl ▸ Nat.le_trans (by decide) (Nat.mul_le_mul_left 2 hc3))
      have hR0 : TabsL [(37, tabObj #[]), (30, tabObj #[])] := ⟨[(37, tabObj #[])], [(30, tabObj #[])], rfl, .inl rfl, .inl rfl⟩
      k_here
      refine' doubled_spec hR0 hG ?jB ?jF ?jX ?jC1 ?jC2 N1 ?jT rfl ?jd ?ju ha hy5 hcb hc6 hw1 hw2 ?_
      case jB => k_asm
      case jF => k_asm
      case jX => k_asm
      case jC1 => with_reducible assumption
      case jC2 => with_reducible assumption
      case jT => k_asm
      case jd => decide
      case ju => decide
      k_whole
      intro DB us hB tkB R1 hus hR1 FB NB hDB
      try dsimp only
      try k_fold
      clear N1 NLK hR0
      have hvF : vfF.length ≤ 2 := hiF1.length ▸ hF2
      have hvE : vfE.length ≤ 2 := hiE1.length ▸ hE2
      have hvU : us.length ≤ 12 := by rw [hus.length]; exact hd12
      have hq1 := Hid.mk (over_ok hsig hcb)
      have hq2 := Hid.mk (over_ok hsig hdb)
      have hq3 := hid_len100 hsig hc100
      have hq4 := hid_len100 hsig hdl2
      (repeat' ((fail_if_success (with_reducible show LCg.CompSrc _ _ _ _ _ _ _ _ _ _ _ _ _ _)); (fail_if_success (with_reducible show LCt.CompSrcT _ _ _ _ _ _ _ _ _ _ _ _ _ _ _)); first | (k_unfold; (try dsimp only)) | (k_end; wrow_close) | with_reducible (first | ((with_reducible show wpAny _ _ (call _ _) _ _ _); first | (k_here; (with_reducible show wpAny _ _ (call (Value.ref 105) [Value.ref _, Value.ref _]) _ _ _); k_dflt (refine' concat_list ?jB ?jF ?jX ?jN ?jT ?jk ?jd ?ju ?p1 ?p2 ?p3 ?_; (case jB => k_asm); (case jF => k_asm); (case jX => k_asm); (case jN => k_asm); (case jT => k_asm); (case jk => exact rfl); (case jd => decide); (case ju => decide); (case p1 => k_mem); (case p2 => k_mem); (case p3 => first | exact size_okC (by omega) | exact size_okC (by simp only [List.length_append]; omega)); k_whole); intro DW hW tkW kW lW FW NW; (try k_lt lW); (try dsimp only); (try k_fold)) | (k_here; (with_reducible show wpAny _ _ (call (Value.ref 134) _) _ _ _); k_dflt (refine' judged_spec ?jB ?jF ?jX ?jN ?jT ?jk ?jd ?ju ?p1 ?p2 ?p3 ?p4 ?p5 ?_; (case jB => k_asm); (case jF => k_asm); (case jX => k_asm); (case jN => k_asm); (case jT => k_asm); (case jk => exact rfl); (case jd => decide); (case ju => decide); (case p1 => exact Hid.out (by with_reducible assumption)); (case p2 => exact Hid.out (by with_reducible assumption)); (case p3 => exact Hid.out (by with_reducible assumption)); (case p4 => exact Hid.out (by with_reducible assumption)); (case p5 => exact Hid.out (by with_reducible assumption)); k_whole); intro _ _ _ _; (try dsimp only); (try k_fold)) | (k_here; (with_reducible show wpAny _ _ (call (Value.ref 117) [Value.ref _, Value.str _ _]) _ _ _); k_dflt (refine' text_spec ?jB ?jF ?jX ?jN ?jT ?jk ?jd ?ju ?p1 ?p2 ?p3 ?p4 ?p5 ?_; (case jB => k_asm); (case jF => k_asm); (case jX => k_asm); (case jN => k_asm); (case jT => k_asm); (case jk => exact rfl); (case jd => decide); (case ju => decide); (case p1 => k_mem); (case p2 => first | with_reducible assumption | exact Hid.out (by with_reducible assumption)); (case p3 => first | with_reducible assumption | exact Hid.out (by with_reducible assumption)); (case p4 => first | with_reducible assumption | exact Hid.out (by with_reducible assumption)); (case p5 => first | with_reducible assumption | exact Hid.out (by with_reducible assumption) | omega); k_whole); intro _ _ _ _ _; (try dsimp only); (try k_fold))) | (k_here; (with_reducible show wpAny _ _ (exec (PySem.Stmt.Assign _ (PySem.Expr.ListComp _ [PySem.Comprehension.mk (PySem.Expr.Name _ _) _ [] _] _ _) _) _) _ _ _); k_dflt (refine LCg.Assign_ListComp_U (F₀ := by k_asm) (by rfl) (by with_unfolding_all rfl) (by with_unfolding_all rfl) (by decide) (by rfl) (by decide) (by rfl) (by rfl) (by rfl) ?_)) | (k_here; (with_reducible show wpAny _ _ (callWith _ (Value.ref _) [] _ _) _ _ _); k_dflt (first | (refine' callWith_K ?k1 ?k2 ?_; (case k1 => k_asm); (case k2 => k_is); k_whole) | (refine' callWith_K0 ?k1 ?k2 ?_; (case k1 => k_in); (case k2 => k_is); k_whole)))) | ((with_reducible show wpAny _ _ (call _ _) _ _ _); first | (k_here; (with_reducible show wpAny _ _ (call (Value.ref 105) [Value.ref _, Value.ref _]) _ _ _); k_dflt (refine' concat_list ?jB ?jF ?jX ?jN ?jT ?jk ?jd ?ju ?p1 ?p2 ?p3 ?_; (case jB => k_asm); (case jF => k_asm); (case jX => k_asm); (case jN => k_asm); (case jT => k_asm); (case jk => exact rfl); (case jd => decide); (case ju => decide); (case p1 => k_mem); (case p2 => k_mem); (case p3 => first | exact size_okC (by omega) | exact size_okC (by simp only [List.length_append]; omega)); k_whole); intro DW hW tkW kW lW FW NW; (try k_lt lW); (try dsimp only); (try k_fold)) | (k_here; (with_reducible show wpAny _ _ (call (Value.ref 134) _) _ _ _); k_dflt (refine' judged_spec ?jB ?jF ?jX ?jN ?jT ?jk ?jd ?ju ?p1 ?p2 ?p3 ?p4 ?p5 ?_; (case jB => k_asm); (case jF => k_asm); (case jX => k_asm); (case jN => k_asm); (case jT => k_asm); (case jk => exact rfl); (case jd => decide); (case ju => decide); (case p1 => exact Hid.out (by with_reducible assumption)); (case p2 => exact Hid.out (by with_reducible assumption)); (case p3 => exact Hid.out (by with_reducible assumption)); (case p4 => exact Hid.out (by with_reducible assumption)); (case p5 => exact Hid.out (by with_reducible assumption)); k_whole); intro _ _ _ _; (try dsimp only); (try k_fold)) | (k_here; (with_reducible show wpAny _ _ (call (Value.ref 117) [Value.ref _, Value.str _ _]) _ _ _); k_dflt (refine' text_spec ?jB ?jF ?jX ?jN ?jT ?jk ?jd ?ju ?p1 ?p2 ?p3 ?p4 ?p5 ?_; (case jB => k_asm); (case jF => k_asm); (case jX => k_asm); (case jN => k_asm); (case jT => k_asm); (case jk => exact rfl); (case jd => decide); (case ju => decide); (case p1 => k_mem); (case p2 => first | with_reducible assumption | exact Hid.out (by with_reducible assumption)); (case p3 => first | with_reducible assumption | exact Hid.out (by with_reducible assumption)); (case p4 => first | with_reducible assumption | exact Hid.out (by with_reducible assumption)); (case p5 => first | with_reducible assumption | exact Hid.out (by with_reducible assumption) | omega); k_whole); intro _ _ _ _ _; (try dsimp only); (try k_fold))) | (k_here; (with_reducible show wpAny _ _ (exec (PySem.Stmt.Assign _ (PySem.Expr.ListComp _ [PySem.Comprehension.mk (PySem.Expr.Name _ _) _ [] _] _ _) _) _) _ _ _); k_dflt (refine LCg.Assign_ListComp_U (F₀ := by k_asm) (by rfl) (by with_unfolding_all rfl) (by with_unfolding_all rfl) (by decide) (by rfl) (by decide) (by rfl) (by rfl) (by rfl) ?_)) | (k_here; (with_reducible show wpAny _ _ (callWith _ (Value.ref _) [] _ _) _ _ _); k_dflt (first | (refine' callWith_K ?k1 ?k2 ?_; (case k1 => k_asm); (case k2 => k_is); k_whole) | (refine' callWith_K0 ?k1 ?k2 ?_; (case k1 => k_in); (case k2 => k_is); k_whole))) | walk1 | (dsimp only; first | with_reducible (first | ((with_reducible show wpAny _ _ (call _ _) _ _ _); first | (k_here; (with_reducible show wpAny _ _ (call (Value.ref 105) [Value.ref _, Value.ref _]) _ _ _); k_dflt (refine' concat_list ?jB ?jF ?jX ?jN ?jT ?jk ?jd ?ju ?p1 ?p2 ?p3 ?_; (case jB => k_asm); (case jF => k_asm); (case jX => k_asm); (case jN => k_asm); (case jT => k_asm); (case jk => exact rfl); (case jd => decide); (case ju => decide); (case p1 => k_mem); (case p2 => k_mem); (case p3 => first | exact size_okC (by omega) | exact size_okC (by simp only [List.length_append]; omega)); k_whole); intro DW hW tkW kW lW FW NW; (try k_lt lW); (try dsimp only); (try k_fold)) | (k_here; (with_reducible show wpAny _ _ (call (Value.ref 134) _) _ _ _); k_dflt (refine' judged_spec ?jB ?jF ?jX ?jN ?jT ?jk ?jd ?ju ?p1 ?p2 ?p3 ?p4 ?p5 ?_; (case jB => k_asm); (case jF => k_asm); (case jX => k_asm); (case jN => k_asm); (case jT => k_asm); (case jk => exact rfl); (case jd => decide); (case ju => decide); (case p1 => exact Hid.out (by with_reducible assumption)); (case p2 => exact Hid.out (by with_reducible assumption)); (case p3 => exact Hid.out (by with_reducible assumption)); (case p4 => exact Hid.out (by with_reducible assumption)); (case p5 => exact Hid.out (by with_reducible assumption)); k_whole); intro _ _ _ _; (try dsimp only); (try k_fold)) | (k_here; (with_reducible show wpAny _ _ (call (Value.ref 117) [Value.ref _, Value.str _ _]) _ _ _); k_dflt (refine' text_spec ?jB ?jF ?jX ?jN ?jT ?jk ?jd ?ju ?p1 ?p2 ?p3 ?p4 ?p5 ?_; (case jB => k_asm); (case jF => k_asm); (case jX => k_asm); (case jN => k_asm); (case jT => k_asm); (case jk => exact rfl); (case jd => decide); (case ju => decide); (case p1 => k_mem); (case p2 => first | with_reducible assumption | exact Hid.out (by with_reducible assumption)); (case p3 => first | with_reducible assumption | exact Hid.out (by with_reducible assumption)); (case p4 => first | with_reducible assumption | exact Hid.out (by with_reducible assumption)); (case p5 => first | with_reducible assumption | exact Hid.out (by with_reducible assumption) | omega); k_whole); intro _ _ _ _ _; (try dsimp only); (try k_fold))) | (k_here; (with_reducible show wpAny _ _ (exec (PySem.Stmt.Assign _ (PySem.Expr.ListComp _ [PySem.Comprehension.mk (PySem.Expr.Name _ _) _ [] _] _ _) _) _) _ _ _); k_dflt (refine LCg.Assign_ListComp_U (F₀ := by k_asm) (by rfl) (by with_unfolding_all rfl) (by with_unfolding_all rfl) (by decide) (by rfl) (by decide) (by rfl) (by rfl) (by rfl) ?_)) | (k_here; (with_reducible show wpAny _ _ (callWith _ (Value.ref _) [] _ _) _ _ _); k_dflt (first | (refine' callWith_K ?k1 ?k2 ?_; (case k1 => k_asm); (case k2 => k_is); k_whole) | (refine' callWith_K0 ?k1 ?k2 ?_; (case k1 => k_in); (case k2 => k_is); k_whole)))) | ((with_reducible show wpAny _ _ (call _ _) _ _ _); first | (k_here; (with_reducible show wpAny _ _ (call (Value.ref 105) [Value.ref _, Value.ref _]) _ _ _); k_dflt (refine' concat_list ?jB ?jF ?jX ?jN ?jT ?jk ?jd ?ju ?p1 ?p2 ?p3 ?_; (case jB => k_asm); (case jF => k_asm); (case jX => k_asm); (case jN => k_asm); (case jT => k_asm); (case jk => exact rfl); (case jd => decide); (case ju => decide); (case p1 => k_mem); (case p2 => k_mem); (case p3 => first | exact size_okC (by omega) | exact size_okC (by simp only [List.length_append]; omega)); k_whole); intro DW hW tkW kW lW FW NW; (try k_lt lW); (try dsimp only); (try k_fold)) | (k_here; (with_reducible show wpAny _ _ (call (Value.ref 134) _) _ _ _); k_dflt (refine' judged_spec ?jB ?jF ?jX ?jN ?jT ?jk ?jd ?ju ?p1 ?p2 ?p3 ?p4 ?p5 ?_; (case jB => k_asm); (case jF => k_asm); (case jX => k_asm); (case jN => k_asm); (case jT => k_asm); (case jk => exact rfl); (case jd => decide); (case ju => decide); (case p1 => exact Hid.out (by with_reducible assumption)); (case p2 => exact Hid.out (by with_reducible assumption)); (case p3 => exact Hid.out (by with_reducible assumption)); (case p4 => exact Hid.out (by with_reducible assumption)); (case p5 => exact Hid.out (by with_reducible assumption)); k_whole); intro _ _ _ _; (try dsimp only); (try k_fold)) | (k_here; (with_reducible show wpAny _ _ (call (Value.ref 117) [Value.ref _, Value.str _ _]) _ _ _); k_dflt (refine' text_spec ?jB ?jF ?jX ?jN ?jT ?jk ?jd ?ju ?p1 ?p2 ?p3 ?p4 ?p5 ?_; (case jB => k_asm); (case jF => k_asm); (case jX => k_asm); (case jN => k_asm); (case jT => k_asm); (case jk => exact rfl); (case jd => decide); (case ju => decide); (case p1 => k_mem); (case p2 => first | with_reducible assumption | exact Hid.out (by with_reducible assumption)); (case p3 => first | with_reducible assumption | exact Hid.out (by with_reducible assumption)); (case p4 => first | with_reducible assumption | exact Hid.out (by with_reducible assumption)); (case p5 => first | with_reducible assumption | exact Hid.out (by with_reducible assumption) | omega); k_whole); intro _ _ _ _ _; (try dsimp only); (try k_fold))) | (k_here; (with_reducible show wpAny _ _ (exec (PySem.Stmt.Assign _ (PySem.Expr.ListComp _ [PySem.Comprehension.mk (PySem.Expr.Name _ _) _ [] _] _ _) _) _) _ _ _); k_dflt (refine LCg.Assign_ListComp_U (F₀ := by k_asm) (by rfl) (by with_unfolding_all rfl) (by with_unfolding_all rfl) (by decide) (by rfl) (by decide) (by rfl) (by rfl) (by rfl) ?_)) | (k_here; (with_reducible show wpAny _ _ (callWith _ (Value.ref _) [] _ _) _ _ _); k_dflt (first | (refine' callWith_K ?k1 ?k2 ?_; (case k1 => k_asm); (case k2 => k_is); k_whole) | (refine' callWith_K0 ?k1 ?k2 ?_; (case k1 => k_in); (case k2 => k_is); k_whole))) | walk1) | (leave1; (try dsimp only)) | fail "no step"))
      rename Str => sg
      obtain ⟨ov, hov⟩ : ∃ ov, overOf (textOf sg core) = ov := ⟨_, rfl⟩
      have hov2 : overOf (textOf sg (dbl core)) = ov := (over_eq hsig hcb hc3 hc6).trans hov
      refine' src_fix [.bool ov, .bool ov] rfl ?z0 ?z1 ?z2 ?z3 ?z4 ?st ?fi
      case z0 => k_asm
      case z1 => k_asm
      case z2 => exact .head _
      case z3 => exact Nat.le_of_ble_eq_true rfl
      case z4 => exact rfl
      case st =>
        intro i v y' ys I oI C oC D m₂ h tk E' hin hv hr hoC hbv Ft Nt
        have hin' : i < 2 := hin
        clear hin
        rcases i with _ | _ | i
        all_goals (first | (exfalso; omega) | skip)
        all_goals (simp at hv; simp at hr; subst hv; subst hr)
        · (repeat' (first | (k_unfold; (try dsimp only)) | (k_end; wrow_close) | with_reducible (first | ((with_reducible show wpAny _ _ (call _ _) _ _ _); first | (k_here; (with_reducible show wpAny _ _ (call (Value.ref 124) _) _ _ _); k_dflt (refine' overlapped_spec ?jB ?jF ?jX ?jN ?jT ?jk ?jd ?ju ?p1 ?p2 ?_; (case jB => k_asm); (case jF => k_asm); (case jX => k_asm); (case jN => k_asm); (case jT => k_asm); (case jk => exact rfl); (case jd => decide); (case ju => decide); (case p1 => exact Hid.out (by with_reducible assumption)); (case p2 => exact Hid.out (by with_reducible assumption)); k_whole); intro _ _ _ _; (try dsimp only); (try k_fold)) | (k_here; (with_reducible show wpAny _ _ (call (Value.ref 117) [Value.ref _, Value.str _ _]) _ _ _); k_dflt (refine' text_spec ?jB ?jF ?jX ?jN ?jT ?jk ?jd ?ju ?p1 ?p2 ?p3 ?p4 ?p5 ?_; (case jB => k_asm); (case jF => k_asm); (case jX => k_asm); (case jN => k_asm); (case jT => k_asm); (case jk => exact rfl); (case jd => decide); (case ju => decide); (case p1 => k_mem); (case p2 => first | with_reducible assumption | exact Hid.out (by with_reducible assumption)); (case p3 => first | with_reducible assumption | exact Hid.out (by with_reducible assumption)); (case p4 => first | with_reducible assumption | exact Hid.out (by with_reducible assumption)); (case p5 => first | with_reducible assumption | exact Hid.out (by with_reducible assumption) | omega); k_whole); intro _ _ _ _ _; (try dsimp only); (try k_fold))) | (k_here; (with_reducible show wpAny _ _ (callWith _ (Value.ref _) [] _ _) _ _ _); k_dflt (first | (refine' callWith_K ?k1 ?k2 ?_; (case k1 => k_asm); (case k2 => k_is); k_whole) | (refine' callWith_K0 ?k1 ?k2 ?_; (case k1 => k_in); (case k2 => k_is); k_whole)))) | ((with_reducible show wpAny _ _ (call _ _) _ _ _); first | (k_here; (with_reducible show wpAny _ _ (call (Value.ref 124) _) _ _ _); k_dflt (refine' overlapped_spec ?jB ?jF ?jX ?jN ?jT ?jk ?jd ?ju ?p1 ?p2 ?_; (case jB => k_asm); (case jF => k_asm); (case jX => k_asm); (case jN => k_asm); (case jT => k_asm); (case jk => exact rfl); (case jd => decide); (case ju => decide); (case p1 => exact Hid.out (by with_reducible assumption)); (case p2 => exact Hid.out (by with_reducible assumption)); k_whole); intro _ _ _ _; (try dsimp only); (try k_fold)) | (k_here; (with_reducible show wpAny _ _ (call (Value.ref 117) [Value.ref _, Value.str _ _]) _ _ _); k_dflt (refine' text_spec ?jB ?jF ?jX ?jN ?jT ?jk ?jd ?ju ?p1 ?p2 ?p3 ?p4 ?p5 ?_; (case jB => k_asm); (case jF => k_asm); (case jX => k_asm); (case jN => k_asm); (case jT => k_asm); (case jk => exact rfl); (case jd => decide); (case ju => decide); (case p1 => k_mem); (case p2 => first | with_reducible assumption | exact Hid.out (by with_reducible assumption)); (case p3 => first | with_reducible assumption | exact Hid.out (by with_reducible assumption)); (case p4 => first | with_reducible assumption | exact Hid.out (by with_reducible assumption)); (case p5 => first | with_reducible assumption | exact Hid.out (by with_reducible assumption) | omega); k_whole); intro _ _ _ _ _; (try dsimp only); (try k_fold))) | (k_here; (with_reducible show wpAny _ _ (callWith _ (Value.ref _) [] _ _) _ _ _); k_dflt (first | (refine' callWith_K ?k1 ?k2 ?_; (case k1 => k_asm); (case k2 => k_is); k_whole) | (refine' callWith_K0 ?k1 ?k2 ?_; (case k1 => k_in); (case k2 => k_is); k_whole))) | walk1 | (dsimp only; first | with_reducible (first | ((with_reducible show wpAny _ _ (call _ _) _ _ _); first | (k_here; (with_reducible show wpAny _ _ (call (Value.ref 124) _) _ _ _); k_dflt (refine' overlapped_spec ?jB ?jF ?jX ?jN ?jT ?jk ?jd ?ju ?p1 ?p2 ?_; (case jB => k_asm); (case jF => k_asm); (case jX => k_asm); (case jN => k_asm); (case jT => k_asm); (case jk => exact rfl); (case jd => decide); (case ju => decide); (case p1 => exact Hid.out (by with_reducible assumption)); (case p2 => exact Hid.out (by with_reducible assumption)); k_whole); intro _ _ _ _; (try dsimp only); (try k_fold)) | (k_here; (with_reducible show wpAny _ _ (call (Value.ref 117) [Value.ref _, Value.str _ _]) _ _ _); k_dflt (refine' text_spec ?jB ?jF ?jX ?jN ?jT ?jk ?jd ?ju ?p1 ?p2 ?p3 ?p4 ?p5 ?_; (case jB => k_asm); (case jF => k_asm); (case jX => k_asm); (case jN => k_asm); (case jT => k_asm); (case jk => exact rfl); (case jd => decide); (case ju => decide); (case p1 => k_mem); (case p2 => first | with_reducible assumption | exact Hid.out (by with_reducible assumption)); (case p3 => first | with_reducible assumption | exact Hid.out (by with_reducible assumption)); (case p4 => first | with_reducible assumption | exact Hid.out (by with_reducible assumption)); (case p5 => first | with_reducible assumption | exact Hid.out (by with_reducible assumption) | omega); k_whole); intro _ _ _ _ _; (try dsimp only); (try k_fold))) | (k_here; (with_reducible show wpAny _ _ (callWith _ (Value.ref _) [] _ _) _ _ _); k_dflt (first | (refine' callWith_K ?k1 ?k2 ?_; (case k1 => k_asm); (case k2 => k_is); k_whole) | (refine' callWith_K0 ?k1 ?k2 ?_; (case k1 => k_in); (case k2 => k_is); k_whole)))) | ((with_reducible show wpAny _ _ (call _ _) _ _ _); first | (k_here; (with_reducible show wpAny _ _ (call (Value.ref 124) _) _ _ _); k_dflt (refine' overlapped_spec ?jB ?jF ?jX ?jN ?jT ?jk ?jd ?ju ?p1 ?p2 ?_; (case jB => k_asm); (case jF => k_asm); (case jX => k_asm); (case jN => k_asm); (case jT => k_asm); (case jk => exact rfl); (case jd => decide); (case ju => decide); (case p1 => exact Hid.out (by with_reducible assumption)); (case p2 => exact Hid.out (by with_reducible assumption)); k_whole); intro _ _ _ _; (try dsimp only); (try k_fold)) | (k_here; (with_reducible show wpAny _ _ (call (Value.ref 117) [Value.ref _, Value.str _ _]) _ _ _); k_dflt (refine' text_spec ?jB ?jF ?jX ?jN ?jT ?jk ?jd ?ju ?p1 ?p2 ?p3 ?p4 ?p5 ?_; (case jB => k_asm); (case jF => k_asm); (case jX => k_asm); (case jN => k_asm); (case jT => k_asm); (case jk => exact rfl); (case jd => decide); (case ju => decide); (case p1 => k_mem); (case p2 => first | with_reducible assumption | exact Hid.out (by with_reducible assumption)); (case p3 => first | with_reducible assumption | exact Hid.out (by with_reducible assumption)); (case p4 => first | with_reducible assumption | exact Hid.out (by with_reducible assumption)); (case p5 => first | with_reducible assumption | exact Hid.out (by with_reducible assumption) | omega); k_whole); intro _ _ _ _ _; (try dsimp only); (try k_fold))) | (k_here; (with_reducible show wpAny _ _ (callWith _ (Value.ref _) [] _ _) _ _ _); k_dflt (first | (refine' callWith_K ?k1 ?k2 ?_; (case k1 => k_asm); (case k2 => k_is); k_whole) | (refine' callWith_K0 ?k1 ?k2 ?_; (case k1 => k_in); (case k2 => k_is); k_whole))) | walk1) | (leave1; (try dsimp only)) | fail "no step"))
          rename Fr _ _ _ _ => Fe
          rename News _ _ _ _ => Ne
          rw [hov]
          exact FixEnd.intro Fe Ne (fun p hp => hp)
        · (repeat' (first | (k_unfold; (try dsimp only)) | (k_end; wrow_close) | with_reducible (first | ((with_reducible show wpAny _ _ (call _ _) _ _ _); first | (k_here; (with_reducible show wpAny _ _ (call (Value.ref 124) _) _ _ _); k_dflt (refine' overlapped_spec ?jB ?jF ?jX ?jN ?jT ?jk ?jd ?ju ?p1 ?p2 ?_; (case jB => k_asm); (case jF => k_asm); (case jX => k_asm); (case jN => k_asm); (case jT => k_asm); (case jk => exact rfl); (case jd => decide); (case ju => decide); (case p1 => exact Hid.out (by with_reducible assumption)); (case p2 => exact Hid.out (by with_reducible assumption)); k_whole); intro _ _ _ _; (try dsimp only); (try k_fold)) | (k_here; (with_reducible show wpAny _ _ (call (Value.ref 117) [Value.ref _, Value.str _ _]) _ _ _); k_dflt (refine' text_spec ?jB ?jF ?jX ?jN ?jT ?jk ?jd ?ju ?p1 ?p2 ?p3 ?p4 ?p5 ?_; (case jB => k_asm); (case jF => k_asm); (case jX => k_asm); (case jN => k_asm); (case jT => k_asm); (case jk => exact rfl); (case jd => decide); (case ju => decide); (case p1 => k_mem); (case p2 => first | with_reducible assumption | exact Hid.out (by with_reducible assumption)); (case p3 => first | with_reducible assumption | exact Hid.out (by with_reducible assumption)); (case p4 => first | with_reducible assumption | exact Hid.out (by with_reducible assumption)); (case p5 => first | with_reducible assumption | exact Hid.out (by with_reducible assumption) | omega); k_whole); intro _ _ _ _ _; (try dsimp only); (try k_fold))) | (k_here; (with_reducible show wpAny _ _ (callWith _ (Value.ref _) [] _ _) _ _ _); k_dflt (first | (refine' callWith_K ?k1 ?k2 ?_; (case k1 => k_asm); (case k2 => k_is); k_whole) | (refine' callWith_K0 ?k1 ?k2 ?_; (case k1 => k_in); (case k2 => k_is); k_whole)))) | ((with_reducible show wpAny _ _ (call _ _) _ _ _); first | (k_here; (with_reducible show wpAny _ _ (call (Value.ref 124) _) _ _ _); k_dflt (refine' overlapped_spec ?jB ?jF ?jX ?jN ?jT ?jk ?jd ?ju ?p1 ?p2 ?_; (case jB => k_asm); (case jF => k_asm); (case jX => k_asm); (case jN => k_asm); (case jT => k_asm); (case jk => exact rfl); (case jd => decide); (case ju => decide); (case p1 => exact Hid.out (by with_reducible assumption)); (case p2 => exact Hid.out (by with_reducible assumption)); k_whole); intro _ _ _ _; (try dsimp only); (try k_fold)) | (k_here; (with_reducible show wpAny _ _ (call (Value.ref 117) [Value.ref _, Value.str _ _]) _ _ _); k_dflt (refine' text_spec ?jB ?jF ?jX ?jN ?jT ?jk ?jd ?ju ?p1 ?p2 ?p3 ?p4 ?p5 ?_; (case jB => k_asm); (case jF => k_asm); (case jX => k_asm); (case jN => k_asm); (case jT => k_asm); (case jk => exact rfl); (case jd => decide); (case ju => decide); (case p1 => k_mem); (case p2 => first | with_reducible assumption | exact Hid.out (by with_reducible assumption)); (case p3 => first | with_reducible assumption | exact Hid.out (by with_reducible assumption)); (case p4 => first | with_reducible assumption | exact Hid.out (by with_reducible assumption)); (case p5 => first | with_reducible assumption | exact Hid.out (by with_reducible assumption) | omega); k_whole); intro _ _ _ _ _; (try dsimp only); (try k_fold))) | (k_here; (with_reducible show wpAny _ _ (callWith _ (Value.ref _) [] _ _) _ _ _); k_dflt (first | (refine' callWith_K ?k1 ?k2 ?_; (case k1 => k_asm); (case k2 => k_is); k_whole) | (refine' callWith_K0 ?k1 ?k2 ?_; (case k1 => k_in); (case k2 => k_is); k_whole))) | walk1 | (dsimp only; first | with_reducible (first | ((with_reducible show wpAny _ _ (call _ _) _ _ _); first | (k_here; (with_reducible show wpAny _ _ (call (Value.ref 124) _) _ _ _); k_dflt (refine' overlapped_spec ?jB ?jF ?jX ?jN ?jT ?jk ?jd ?ju ?p1 ?p2 ?_; (case jB => k_asm); (case jF => k_asm); (case jX => k_asm); (case jN => k_asm); (case jT => k_asm); (case jk => exact rfl); (case jd => decide); (case ju => decide); (case p1 => exact Hid.out (by with_reducible assumption)); (case p2 => exact Hid.out (by with_reducible assumption)); k_whole); intro _ _ _ _; (try dsimp only); (try k_fold)) | (k_here; (with_reducible show wpAny _ _ (call (Value.ref 117) [Value.ref _, Value.str _ _]) _ _ _); k_dflt (refine' text_spec ?jB ?jF ?jX ?jN ?jT ?jk ?jd ?ju ?p1 ?p2 ?p3 ?p4 ?p5 ?_; (case jB => k_asm); (case jF => k_asm); (case jX => k_asm); (case jN => k_asm); (case jT => k_asm); (case jk => exact rfl); (case jd => decide); (case ju => decide); (case p1 => k_mem); (case p2 => first | with_reducible assumption | exact Hid.out (by with_reducible assumption)); (case p3 => first | with_reducible assumption | exact Hid.out (by with_reducible assumption)); (case p4 => first | with_reducible assumption | exact Hid.out (by with_reducible assumption)); (case p5 => first | with_reducible assumption | exact Hid.out (by with_reducible assumption) | omega); k_whole); intro _ _ _ _ _; (try dsimp only); (try k_fold))) | (k_here; (with_reducible show wpAny _ _ (callWith _ (Value.ref _) [] _ _) _ _ _); k_dflt (first | (refine' callWith_K ?k1 ?k2 ?_; (case k1 => k_asm); (case k2 => k_is); k_whole) | (refine' callWith_K0 ?k1 ?k2 ?_; (case k1 => k_in); (case k2 => k_is); k_whole)))) | ((with_reducible show wpAny _ _ (call _ _) _ _ _); first | (k_here; (with_reducible show wpAny _ _ (call (Value.ref 124) _) _ _ _); k_dflt (refine' overlapped_spec ?jB ?jF ?jX ?jN ?jT ?jk ?jd ?ju ?p1 ?p2 ?_; (case jB => k_asm); (case jF => k_asm); (case jX => k_asm); (case jN => k_asm); (case jT => k_asm); (case jk => exact rfl); (case jd => decide); (case ju => decide); (case p1 => exact Hid.out (by with_reducible assumption)); (case p2 => exact Hid.out (by with_reducible assumption)); k_whole); intro _ _ _ _; (try dsimp only); (try k_fold)) | (k_here; (with_reducible show wpAny _ _ (call (Value.ref 117) [Value.ref _, Value.str _ _]) _ _ _); k_dflt (refine' text_spec ?jB ?jF ?jX ?jN ?jT ?jk ?jd ?ju ?p1 ?p2 ?p3 ?p4 ?p5 ?_; (case jB => k_asm); (case jF => k_asm); (case jX => k_asm); (case jN => k_asm); (case jT => k_asm); (case jk => exact rfl); (case jd => decide); (case ju => decide); (case p1 => k_mem); (case p2 => first | with_reducible assumption | exact Hid.out (by with_reducible assumption)); (case p3 => first | with_reducible assumption | exact Hid.out (by with_reducible assumption)); (case p4 => first | with_reducible assumption | exact Hid.out (by with_reducible assumption)); (case p5 => first | with_reducible assumption | exact Hid.out (by with_reducible assumption) | omega); k_whole); intro _ _ _ _ _; (try dsimp only); (try k_fold))) | (k_here; (with_reducible show wpAny _ _ (callWith _ (Value.ref _) [] _ _) _ _ _); k_dflt (first | (refine' callWith_K ?k1 ?k2 ?_; (case k1 => k_asm); (case k2 => k_is); k_whole) | (refine' callWith_K0 ?k1 ?k2 ?_; (case k1 => k_in); (case k2 => k_is); k_whole))) | walk1) | (leave1; (try dsimp only)) | fail "no step"))
          rename Fr _ _ _ _ => Fe
          rename News _ _ _ _ => Ne
          rw [hov2]
          exact FixEnd.intro Fe Ne (fun p hp => hp)
      case fi =>
        intro g2
        (walk1; try dsimp only)
        rename_i DT hT tkT FT NT offT
        have oT := off_tabs offT.2.2.2.2 hG hR1
        clear offT
        repeat' ((fail_if_success (with_reducible show wpAny _ _ (call (Value.ref 146) _) _ _ _)); first | (k_unfold; (try dsimp only)) | (k_end; wrow_close) | (first | with_reducible (first | (k_here; (with_reducible show wpAny _ _ (callWith _ (Value.ref _) [] _ _) _ _ _); k_dflt (first | (refine' callWith_K ?k1 ?k2 ?_; (case k1 => k_asm); (case k2 => k_is); k_whole) | (refine' callWith_K0 ?k1 ?k2 ?_; (case k1 => k_in); (case k2 => k_is); k_whole)))) | (k_here; (with_reducible show wpAny _ _ (callWith _ (Value.ref _) [] _ _) _ _ _); k_dflt (first | (refine' callWith_K ?k1 ?k2 ?_; (case k1 => k_asm); (case k2 => k_is); k_whole) | (refine' callWith_K0 ?k1 ?k2 ?_; (case k1 => k_in); (case k2 => k_is); k_whole))) | walk1) | (dsimp only; walk1) | (leave1; walk_say "STEP leave1"; try dsimp only) | fail "no step")
        rename News _ _ _ _ => N5
        refine led_open (rest := R1) N5 (by wtm_at "r0") ?_
        intro G5 hGd5 hG5 N6
        have ha5 : ∀ r, (DK, listOf y5.toArray y5.length) ∈ G5 r := fun r => (by rw [hGd5]; repeat (first | exact hm1 _ | exact hm2 _ | exact hm3 _ | exact ha _ | exact List.Mem.head _ | apply List.Mem.tail))
        have hm15 : ∀ r, (_, listOf (List.toArray _) 0) ∈ G5 r := fun r => by rw [hGd5]; repeat (first | exact hm1 _ | apply List.Mem.tail)
        have hm25 : ∀ r, (_, listOf (List.toArray _) 0) ∈ G5 r := fun r => by rw [hGd5]; repeat (first | exact hm2 _ | apply List.Mem.tail)
        have hm35 : ∀ r, (s1.heap.objs.size + 1 + 1, oS) ∈ G5 r := fun r => (by rw [hGd5]; repeat (first | exact hm1 _ | exact hm2 _ | exact hm3 _ | exact ha _ | exact List.Mem.head _ | apply List.Mem.tail))
        have hmW5 : ∀ r, (DW, listOf (List.toArray _) kW) ∈ G5 r := fun r => by rw [hGd5]; repeat (first | exact List.Mem.head _ | apply List.Mem.tail)
        have hmT5 : ∀ r, (DT, LCg.lst [.bool ov, .bool ov]) ∈ G5 r := fun r => (by rw [hGd5]; repeat (first | exact hm1 _ | exact hm2 _ | exact hm3 _ | exact ha _ | exact List.Mem.head _ | apply List.Mem.tail))
        clear hGd5 N5
        have hwi := ints_append (ints_append hiF1 hus) hiE1
        have hwb : ∀ n ∈ (_ : List Int), n = 0 ∨ n = 1 := Bits.app (Bits.app hFb hdb) hEb
        have hw6 : 6 ≤ (fF ++ dbl core ++ fE).length := by rw [List.length_append, List.length_append, hdl]; exact Nat.le_trans (Nat.mul_le_mul_left 2 hc3) (Nat.le_trans (Nat.le_add_left _ _) (Nat.le_add_right _ _))
        have hwlen : (fF ++ dbl core ++ fE).length ≤ 16 := by rw [List.length_append, List.length_append, hdl]; exact Nat.add_le_add (Nat.add_le_add hF2 (Nat.mul_le_mul_left 2 hc6)) hE2
        k_here
        refine' foldings_spec hR1 hG5 ?jB ?jF ?jX ?jC1 ?jC2 N6 ?jT rfl ?jd ?ju hmW5 hwi hwb ?l6 ?l16 hs2 hw1 hw2 ?hM ?_
        case jB => k_asm
        case jF => k_asm
        case jX => k_asm
        case jC1 => with_reducible assumption
        case jC2 => with_reducible assumption
        case jT => k_asm
        case jd => decide
        case ju => decide
        case l6 => exact hw6
        case l16 => exact hwlen
        case hM => exact fun f' hf' e' he' => fold_ok hsig hwb (Nat.le_trans (by decide) hw6) (Nat.le_trans hwlen (by decide)) hf' he'
        k_whole
        intro DF items kF G7 hF7 tkF R7 hG7 hsub7 hP7 hR7 FF NF hDF
        try dsimp only
        try k_fold
        replace ha := fun r => hsub7 r _ (ha5 r)
        replace hm1 := fun r => hsub7 r _ (hm15 r)
        replace hm2 := fun r => hsub7 r _ (hm25 r)
        replace hm3 := fun r => hsub7 r _ (hm35 r)
        have hm4 := fun r => hsub7 r _ (hmW5 r)
        have hm5 := fun r => hsub7 r _ (hmT5 r)
        clear ha5 hm15 hm25 hm35 hmW5 hmT5 N6 hsub7
        repeat (rename @LT.lt Nat _ _ _ ∧ _ => q9; clear q9)
        (repeat' ((fail_if_success (with_reducible show wpAny _ _ (call (Value.ref 112) _) _ _ _)); first | (k_unfold; (try dsimp only)) | (k_end; wrow_close) | with_reducible (first | (k_here; (with_reducible show wpAny _ _ (callWith _ (Value.ref _) [] _ _) _ _ _); k_dflt (first | (refine' callWith_K ?k1 ?k2 ?_; (case k1 => k_asm); (case k2 => k_is); k_whole) | (refine' callWith_K0 ?k1 ?k2 ?_; (case k1 => k_in); (case k2 => k_is); k_whole)))) | (k_here; (with_reducible show wpAny _ _ (callWith _ (Value.ref _) [] _ _) _ _ _); k_dflt (first | (refine' callWith_K ?k1 ?k2 ?_; (case k1 => k_asm); (case k2 => k_is); k_whole) | (refine' callWith_K0 ?k1 ?k2 ?_; (case k1 => k_in); (case k2 => k_is); k_whole))) | walk1 | (dsimp only; first | with_reducible (first | (k_here; (with_reducible show wpAny _ _ (callWith _ (Value.ref _) [] _ _) _ _ _); k_dflt (first | (refine' callWith_K ?k1 ?k2 ?_; (case k1 => k_asm); (case k2 => k_is); k_whole) | (refine' callWith_K0 ?k1 ?k2 ?_; (case k1 => k_in); (case k2 => k_is); k_whole)))) | (k_here; (with_reducible show wpAny _ _ (callWith _ (Value.ref _) [] _ _) _ _ _); k_dflt (first | (refine' callWith_K ?k1 ?k2 ?_; (case k1 => k_asm); (case k2 => k_is); k_whole) | (refine' callWith_K0 ?k1 ?k2 ?_; (case k1 => k_in); (case k2 => k_is); k_whole))) | walk1) | (leave1; (try dsimp only)) | fail "no step"))
        refine contains_R (xs := [.bool ov, .bool ov]) (d := .none) (by k_asm) (by k_asm) (by k_asm) (by k_asm) (by k_asm) rfl (by decide) (by decide) ?_ rfl rfl (by decide) ?_
        · intro h9 hm9
          exact ⟨⟨_, .list (hm9 (DT, LCg.lst [.bool ov, .bool ov]) (by repeat (first | exact hm5 _ | apply List.Mem.tail))) rfl rfl (reads_bools h9 [ov, ov])⟩, ⟨_, .none⟩⟩
        intro h9 tk9 F9 N9
        rw [show ([PyData.bool ov, PyData.bool ov].any fun y => PyData.eqv y .none) = false from by cases ov <;> rfl]
        repeat' ((fail_if_success (with_reducible show wpAny _ _ (compareOp CmpOp.IsNot _ _) _ _ _)); first | (k_unfold; (try dsimp only)) | (k_end; wrow_close) | (first | with_reducible (first | (k_here; (with_reducible show wpAny _ _ (subscriptTail (PySem.Expr.Name ..) (PySem.Expr.Constant ..) (Value.ref _) (Value.int _ _)) _ _ _); k_dflt (refine' item_L2 ?j1 ?j2 ?j3 ?j4 ?j5 ?_ ?j6 ?j7; (case j1 => k_asm); (case j2 => k_mem); (case j3 => exact rfl); (case j4 => decide); (case j5 => exact Nat.le_of_ble_eq_true rfl); (case j6 => with_unfolding_all rfl); (case j7 => (intro _; with_unfolding_all rfl))))) | (k_here; (with_reducible show wpAny _ _ (subscriptTail (PySem.Expr.Name ..) (PySem.Expr.Constant ..) (Value.ref _) (Value.int _ _)) _ _ _); k_dflt (refine' item_L2 ?j1 ?j2 ?j3 ?j4 ?j5 ?_ ?j6 ?j7; (case j1 => k_asm); (case j2 => k_mem); (case j3 => exact rfl); (case j4 => decide); (case j5 => exact Nat.le_of_ble_eq_true rfl); (case j6 => with_unfolding_all rfl); (case j7 => (intro _; with_unfolding_all rfl)))) | walk1) | (dsimp only; walk1) | (leave1; walk_say "STEP leave1"; try dsimp only) | fail "no step")
        change wpAny _ _ (compareOp .IsNot (.bool ov) (.bool ov)) _ _ _
        have hsz : (((vfF ++ us ++ vfE).toArray.size : Nat) : Int) = ((fF ++ dbl core ++ fE).length : Nat) := by rw [List.size_toArray, hwi.length]
        obtain ⟨tv, htv, hcnt, hin⟩ := final_ok hsig hfF hfE hcb hc3 hc6 hsz
        have hpb : ∀ n ∈ pickI (fF ++ dbl core ++ fE) (some 1) (some (-1)), n = 0 ∨ n = 1 := pick_bits hwb
        have hpl : (pickI (fF ++ dbl core ++ fE) (some 1) (some (-1))).length ≤ 20 := pick_len hwlen
        have hpl2 : (pickI (fF ++ dbl core ++ fE) (some 1) (some (-1))).length ≤ 100 := Nat.le_trans hpl (by decide)
        have hw1000 : (fF ++ dbl core ++ fE).length ≤ 1000 := Nat.le_trans hwlen (by decide)
        obtain ⟨k1, k2, k3, k4, k5, k6⟩ := turn_ok (n := (((vfF ++ us ++ vfE).toArray.size : Nat) : Int)) hsig hpb hpl (Int.natCast_nonneg _) (by rw [hsz]; exact Int.ofNat_le.mpr (Nat.le_trans hwlen (by decide)))
        have k7 := Hid.mk (show (0 : Int) ≤ (((vfF ++ us ++ vfE).toArray.size : Nat) : Int) from Int.natCast_nonneg _)
        have k8 := Hid.mk (show (((vfF ++ us ++ vfE).toArray.size : Nat) : Int) ≤ 1000 by rw [hsz]; exact Int.ofNat_le.mpr (Nat.le_trans hwlen (by decide)))
        replace k1 := Hid.mk k1
        replace k2 := Hid.mk k2
        replace k3 := Hid.mk k3
        replace k4 := Hid.mk k4
        replace k5 := Hid.mk k5
        replace k6 := Hid.mk k6
        replace htv := Hid.mk htv
        have k12 : Hid ((((vfF ++ us ++ vfE).toArray.size : Nat) : Int) < 2 ^ 63) := ⟨by
          have e : ((2 : Int) ^ 63) = 9223372036854775808 := by decide
          rw [e, hsz]; exact Int.lt_of_le_of_lt (Int.ofNat_le.mpr hwlen) (by decide)⟩
        have hcz : items.toArray.size = (foldsOf (fF ++ dbl core ++ fE)).length := by rw [List.size_toArray, paired_length hP7]
        have k13 : Hid (((items.toArray.size : Nat) : Int) < 2 ^ 63) := ⟨by
          have e : ((2 : Int) ^ 63) = 9223372036854775808 := by decide
          rw [e, hcz, hcnt]; split <;> decide⟩
        have k9 : Hid ((Str.ofString "...").length ≤ 1000) := ⟨by decide +kernel⟩
        have k10 : Hid (Str.empty.length ≤ 1000) := ⟨by decide⟩
        have k11 := Hid.mk (show sg.length ≤ 1000 by rw [hs2]; decide)
        replace hcnt := Hid.mk hcnt
        replace hin := Hid.mk hin
        replace hcz := Hid.mk hcz
        clear hsz hpl hdl hwlen hdl2 hj hj1 hj2 hj3 hj4 hq1 hq2 hq3 hq4 hov hov2
        walk1
        try dsimp only
        rw [show (ov != ov) = false from by cases ov <;> rfl]
        (repeat' ((fail_if_success (with_reducible show wpAny _ _ (call (Value.ref 112) _) _ _ _)); first | (k_unfold; (try dsimp only)) | (k_end; wrow_close) | with_reducible (first | ((with_reducible show wpAny _ _ (call _ _) _ _ _); first | (k_here; (with_reducible show wpAny _ _ (call (Value.builtin "len") [Value.ref _]) _ _ _); k_dflt (refine' len_L ?j1 ?j2 ?j3 ?_; (case j1 => k_asm); (case j2 => k_mem); (case j3 => exact Hid.out (by with_reducible assumption)))) | (k_here; (with_reducible show wpAny _ _ (call (Value.ref 63) [Value.str _ _, Value.str _ _]) _ _ _); k_dflt (refine' ellipsis_3 ?jB ?jF ?jX ?jN ?jT ?jk ?jd ?ju ?p1 ?p2 ?p3 ?p4 ?p5 ?p6 ?p7 ?p8 ?_; (case jB => k_asm); (case jF => k_asm); (case jX => k_asm); (case jN => k_asm); (case jT => k_asm); (case jk => exact rfl); (case jd => decide); (case ju => decide); (case p1 => first | exact Hid.out (by with_reducible assumption) | with_reducible assumption | omega | (simp only [sapp_len]; omega)); (case p2 => first | exact Hid.out (by with_reducible assumption) | with_reducible assumption | omega | (simp only [sapp_len]; omega)); (case p3 => first | exact Hid.out (by with_reducible assumption) | with_reducible assumption); (case p4 => first | exact Hid.out (by with_reducible assumption) | with_reducible assumption); (case p5 => first | exact Hid.out (by with_reducible assumption) | with_reducible assumption); (case p6 => first | exact Hid.out (by with_reducible assumption) | with_reducible assumption); (case p7 => first | exact Hid.out (by with_reducible assumption) | with_reducible assumption); (case p8 => first | exact Hid.out (by with_reducible assumption) | with_reducible assumption); k_whole); intro _ _ _ _; (try dsimp only); (try k_fold)) | (k_here; (with_reducible show wpAny _ _ (call (Value.ref 117) [Value.ref _, Value.str _ _]) _ _ _); k_dflt (refine' text_spec ?jB ?jF ?jX ?jN ?jT ?jk ?jd ?ju ?p1 ?p2 ?p3 ?p4 ?p5 ?_; (case jB => k_asm); (case jF => k_asm); (case jX => k_asm); (case jN => k_asm); (case jT => k_asm); (case jk => exact rfl); (case jd => decide); (case ju => decide); (case p1 => k_mem); (case p2 => first | with_reducible assumption | exact Hid.out (by with_reducible assumption)); (case p3 => first | with_reducible assumption | exact Hid.out (by with_reducible assumption)); (case p4 => first | with_reducible assumption | exact Hid.out (by with_reducible assumption)); (case p5 => first | with_reducible assumption | exact Hid.out (by with_reducible assumption) | omega); k_whole); intro _ _ _ _ _; (try dsimp only); (try k_fold)) | (k_here; (with_reducible show wpAny _ _ (call (Value.ref 77) [Value.str _ _, Value.int _ _]) _ _ _); k_dflt (refine' mul_str ?jB ?jF ?jX ?jN ?jT ?jk ?jd ?ju ?p1 ?p2 ?p3 ?_; (case jB => k_asm); (case jF => k_asm); (case jX => k_asm); (case jN => k_asm); (case jT => k_asm); (case jk => exact rfl); (case jd => decide); (case ju => decide); (case p1 => first | exact Hid.out (by with_reducible assumption) | with_reducible assumption | omega | (simp only [sapp_len]; omega)); (case p2 => first | with_reducible assumption | exact Hid.out (by with_reducible assumption) | omega); (case p3 => first | with_reducible assumption | exact Hid.out (by with_reducible assumption) | omega); k_whole); intro _ _ _ _ _; (try dsimp only); (try k_fold)) | (k_here; (with_reducible show wpAny _ _ (call (Value.ref 105) [Value.str _ _, Value.str _ _]) _ _ _); k_dflt (refine' concat_str ?jB ?jF ?jX ?jN ?jT ?jk ?jd ?ju ?p1 ?p2 ?_; (case jB => k_asm); (case jF => k_asm); (case jX => k_asm); (case jN => k_asm); (case jT => k_asm); (case jk => exact rfl); (case jd => decide); (case ju => decide); (case p1 => first | exact Hid.out (by with_reducible assumption) | with_reducible assumption | omega | (simp only [sapp_len]; omega)); (case p2 => first | exact Hid.out (by with_reducible assumption) | with_reducible assumption | omega | (simp only [sapp_len]; omega)); k_whole); intro _ _ _ _ _; (try dsimp only); (try k_fold))) | (k_here; (with_reducible show wpAny _ _ (callWith _ (Value.ref _) [] _ _) _ _ _); k_dflt (first | (refine' callWith_K ?k1 ?k2 ?_; (case k1 => k_asm); (case k2 => k_is); k_whole) | (refine' callWith_K0 ?k1 ?k2 ?_; (case k1 => k_in); (case k2 => k_is); k_whole))) | (k_here; (with_reducible show wpAny _ _ (subscriptTail _ (PySem.Expr.Slice _ _ none _) (Value.ref _) (Value.ref _)) _ _ _); k_dflt (refine' sliceL ?z1 ?z2 ?z3 ?z4 ?z5 ?z9 ?_ ?z6 ?z7 ?z8; (case z1 => k_asm); (case z2 => k_asm); (case z3 => k_mem); (case z4 => kmk_part); (case z5 => kmk_part); (case z9 => with_reducible assumption); (case z6 => with_unfolding_all rfl); (case z7 => (intro _; with_unfolding_all rfl)); (case z8 => with_reducible assumption)); wtm_at "t8")) | ((with_reducible show wpAny _ _ (call _ _) _ _ _); first | (k_here; (with_reducible show wpAny _ _ (call (Value.builtin "len") [Value.ref _]) _ _ _); k_dflt (refine' len_L ?j1 ?j2 ?j3 ?_; (case j1 => k_asm); (case j2 => k_mem); (case j3 => exact Hid.out (by with_reducible assumption)))) | (k_here; (with_reducible show wpAny _ _ (call (Value.ref 63) [Value.str _ _, Value.str _ _]) _ _ _); k_dflt (refine' ellipsis_3 ?jB ?jF ?jX ?jN ?jT ?jk ?jd ?ju ?p1 ?p2 ?p3 ?p4 ?p5 ?p6 ?p7 ?p8 ?_; (case jB => k_asm); (case jF => k_asm); (case jX => k_asm); (case jN => k_asm); (case jT => k_asm); (case jk => exact rfl); (case jd => decide); (case ju => decide); (case p1 => first | exact Hid.out (by with_reducible assumption) | with_reducible assumption | omega | (simp only [sapp_len]; omega)); (case p2 => first | exact Hid.out (by with_reducible assumption) | with_reducible assumption | omega | (simp only [sapp_len]; omega)); (case p3 => first | exact Hid.out (by with_reducible assumption) | with_reducible assumption); (case p4 => first | exact Hid.out (by with_reducible assumption) | with_reducible assumption); (case p5 => first | exact Hid.out (by with_reducible assumption) | with_reducible assumption); (case p6 => first | exact Hid.out (by with_reducible assumption) | with_reducible assumption); (case p7 => first | exact Hid.out (by with_reducible assumption) | with_reducible assumption); (case p8 => first | exact Hid.out (by with_reducible assumption) | with_reducible assumption); k_whole); intro _ _ _ _; (try dsimp only); (try k_fold)) | (k_here; (with_reducible show wpAny _ _ (call (Value.ref 117) [Value.ref _, Value.str _ _]) _ _ _); k_dflt (refine' text_spec ?jB ?jF ?jX ?jN ?jT ?jk ?jd ?ju ?p1 ?p2 ?p3 ?p4 ?p5 ?_; (case jB => k_asm); (case jF => k_asm); (case jX => k_asm); (case jN => k_asm); (case jT => k_asm); (case jk => exact rfl); (case jd => decide); (case ju => decide); (case p1 => k_mem); (case p2 => first | with_reducible assumption | exact Hid.out (by with_reducible assumption)); (case p3 => first | with_reducible assumption | exact Hid.out (by with_reducible assumption)); (case p4 => first | with_reducible assumption | exact Hid.out (by with_reducible assumption)); (case p5 => first | with_reducible assumption | exact Hid.out (by with_reducible assumption) | omega); k_whole); intro _ _ _ _ _; (try dsimp only); (try k_fold)) | (k_here; (with_reducible show wpAny _ _ (call (Value.ref 77) [Value.str _ _, Value.int _ _]) _ _ _); k_dflt (refine' mul_str ?jB ?jF ?jX ?jN ?jT ?jk ?jd ?ju ?p1 ?p2 ?p3 ?_; (case jB => k_asm); (case jF => k_asm); (case jX => k_asm); (case jN => k_asm); (case jT => k_asm); (case jk => exact rfl); (case jd => decide); (case ju => decide); (case p1 => first | exact Hid.out (by with_reducible assumption) | with_reducible assumption | omega | (simp only [sapp_len]; omega)); (case p2 => first | with_reducible assumption | exact Hid.out (by with_reducible assumption) | omega); (case p3 => first | with_reducible assumption | exact Hid.out (by with_reducible assumption) | omega); k_whole); intro _ _ _ _ _; (try dsimp only); (try k_fold)) | (k_here; (with_reducible show wpAny _ _ (call (Value.ref 105) [Value.str _ _, Value.str _ _]) _ _ _); k_dflt (refine' concat_str ?jB ?jF ?jX ?jN ?jT ?jk ?jd ?ju ?p1 ?p2 ?_; (case jB => k_asm); (case jF => k_asm); (case jX => k_asm); (case jN => k_asm); (case jT => k_asm); (case jk => exact rfl); (case jd => decide); (case ju => decide); (case p1 => first | exact Hid.out (by with_reducible assumption) | with_reducible assumption | omega | (simp only [sapp_len]; omega)); (case p2 => first | exact Hid.out (by with_reducible assumption) | with_reducible assumption | omega | (simp only [sapp_len]; omega)); k_whole); intro _ _ _ _ _; (try dsimp only); (try k_fold))) | (k_here; (with_reducible show wpAny _ _ (callWith _ (Value.ref _) [] _ _) _ _ _); k_dflt (first | (refine' callWith_K ?k1 ?k2 ?_; (case k1 => k_asm); (case k2 => k_is); k_whole) | (refine' callWith_K0 ?k1 ?k2 ?_; (case k1 => k_in); (case k2 => k_is); k_whole))) | (k_here; (with_reducible show wpAny _ _ (subscriptTail _ (PySem.Expr.Slice _ _ none _) (Value.ref _) (Value.ref _)) _ _ _); k_dflt (refine' sliceL ?z1 ?z2 ?z3 ?z4 ?z5 ?z9 ?_ ?z6 ?z7 ?z8; (case z1 => k_asm); (case z2 => k_asm); (case z3 => k_mem); (case z4 => kmk_part); (case z5 => kmk_part); (case z9 => with_reducible assumption); (case z6 => with_unfolding_all rfl); (case z7 => (intro _; with_unfolding_all rfl)); (case z8 => with_reducible assumption)); wtm_at "t8") | walk1 | (dsimp only; first | with_reducible (first | ((with_reducible show wpAny _ _ (call _ _) _ _ _); first | (k_here; (with_reducible show wpAny _ _ (call (Value.builtin "len") [Value.ref _]) _ _ _); k_dflt (refine' len_L ?j1 ?j2 ?j3 ?_; (case j1 => k_asm); (case j2 => k_mem); (case j3 => exact Hid.out (by with_reducible assumption)))) | (k_here; (with_reducible show wpAny _ _ (call (Value.ref 63) [Value.str _ _, Value.str _ _]) _ _ _); k_dflt (refine' ellipsis_3 ?jB ?jF ?jX ?jN ?jT ?jk ?jd ?ju ?p1 ?p2 ?p3 ?p4 ?p5 ?p6 ?p7 ?p8 ?_; (case jB => k_asm); (case jF => k_asm); (case jX => k_asm); (case jN => k_asm); (case jT => k_asm); (case jk => exact rfl); (case jd => decide); (case ju => decide); (case p1 => first | exact Hid.out (by with_reducible assumption) | with_reducible assumption | omega | (simp only [sapp_len]; omega)); (case p2 => first | exact Hid.out (by with_reducible assumption) | with_reducible assumption | omega | (simp only [sapp_len]; omega)); (case p3 => first | exact Hid.out (by with_reducible assumption) | with_reducible assumption); (case p4 => first | exact Hid.out (by with_reducible assumption) | with_reducible assumption); (case p5 => first | exact Hid.out (by with_reducible assumption) | with_reducible assumption); (case p6 => first | exact Hid.out (by with_reducible assumption) | with_reducible assumption); (case p7 => first | exact Hid.out (by with_reducible assumption) | with_reducible assumption); (case p8 => first | exact Hid.out (by with_reducible assumption) | with_reducible assumption); k_whole); intro _ _ _ _; (try dsimp only); (try k_fold)) | (k_here; (with_reducible show wpAny _ _ (call (Value.ref 117) [Value.ref _, Value.str _ _]) _ _ _); k_dflt (refine' text_spec ?jB ?jF ?jX ?jN ?jT ?jk ?jd ?ju ?p1 ?p2 ?p3 ?p4 ?p5 ?_; (case jB => k_asm); (case jF => k_asm); (case jX => k_asm); (case jN => k_asm); (case jT => k_asm); (case jk => exact rfl); (case jd => decide); (case ju => decide); (case p1 => k_mem); (case p2 => first | with_reducible assumption | exact Hid.out (by with_reducible assumption)); (case p3 => first | with_reducible assumption | exact Hid.out (by with_reducible assumption)); (case p4 => first | with_reducible assumption | exact Hid.out (by with_reducible assumption)); (case p5 => first | with_reducible assumption | exact Hid.out (by with_reducible assumption) | omega); k_whole); intro _ _ _ _ _; (try dsimp only); (try k_fold)) | (k_here; (with_reducible show wpAny _ _ (call (Value.ref 77) [Value.str _ _, Value.int _ _]) _ _ _); k_dflt (refine' mul_str ?jB ?jF ?jX ?jN ?jT ?jk ?jd ?ju ?p1 ?p2 ?p3 ?_; (case jB => k_asm); (case jF => k_asm); (case jX => k_asm); (case jN => k_asm); (case jT => k_asm); (case jk => exact rfl); (case jd => decide); (case ju => decide); (case p1 => first | exact Hid.out (by with_reducible assumption) | with_reducible assumption | omega | (simp only [sapp_len]; omega)); (case p2 => first | with_reducible assumption | exact Hid.out (by with_reducible assumption) | omega); (case p3 => first | with_reducible assumption | exact Hid.out (by with_reducible assumption) | omega); k_whole); intro _ _ _ _ _; (try dsimp only); (try k_fold)) | (k_here; (with_reducible show wpAny _ _ (call (Value.ref 105) [Value.str _ _, Value.str _ _]) _ _ _); k_dflt (refine' concat_str ?jB ?jF ?jX ?jN ?jT ?jk ?jd ?ju ?p1 ?p2 ?_; (case jB => k_asm); (case jF => k_asm); (case jX => k_asm); (case jN => k_asm); (case jT => k_asm); (case jk => exact rfl); (case jd => decide); (case ju => decide); (case p1 => first | exact Hid.out (by with_reducible assumption) | with_reducible assumption | omega | (simp only [sapp_len]; omega)); (case p2 => first | exact Hid.out (by with_reducible assumption) | with_reducible assumption | omega | (simp only [sapp_len]; omega)); k_whole); intro _ _ _ _ _; (try dsimp only); (try k_fold))) | (k_here; (with_reducible show wpAny _ _ (callWith _ (Value.ref _) [] _ _) _ _ _); k_dflt (first | (refine' callWith_K ?k1 ?k2 ?_; (case k1 => k_asm); (case k2 => k_is); k_whole) | (refine' callWith_K0 ?k1 ?k2 ?_; (case k1 => k_in); (case k2 => k_is); k_whole))) | (k_here; (with_reducible show wpAny _ _ (subscriptTail _ (PySem.Expr.Slice _ _ none _) (Value.ref _) (Value.ref _)) _ _ _); k_dflt (refine' sliceL ?z1 ?z2 ?z3 ?z4 ?z5 ?z9 ?_ ?z6 ?z7 ?z8; (case z1 => k_asm); (case z2 => k_asm); (case z3 => k_mem); (case z4 => kmk_part); (case z5 => kmk_part); (case z9 => with_reducible assumption); (case z6 => with_unfolding_all rfl); (case z7 => (intro _; with_unfolding_all rfl)); (case z8 => with_reducible assumption)); wtm_at "t8")) | ((with_reducible show wpAny _ _ (call _ _) _ _ _); first | (k_here; (with_reducible show wpAny _ _ (call (Value.builtin "len") [Value.ref _]) _ _ _); k_dflt (refine' len_L ?j1 ?j2 ?j3 ?_; (case j1 => k_asm); (case j2 => k_mem); (case j3 => exact Hid.out (by with_reducible assumption)))) | (k_here; (with_reducible show wpAny _ _ (call (Value.ref 63) [Value.str _ _, Value.str _ _]) _ _ _); k_dflt (refine' ellipsis_3 ?jB ?jF ?jX ?jN ?jT ?jk ?jd ?ju ?p1 ?p2 ?p3 ?p4 ?p5 ?p6 ?p7 ?p8 ?_; (case jB => k_asm); (case jF => k_asm); (case jX => k_asm); (case jN => k_asm); (case jT => k_asm); (case jk => exact rfl); (case jd => decide); (case ju => decide); (case p1 => first | exact Hid.out (by with_reducible assumption) | with_reducible assumption | omega | (simp only [sapp_len]; omega)); (case p2 => first | exact Hid.out (by with_reducible assumption) | with_reducible assumption | omega | (simp only [sapp_len]; omega)); (case p3 => first | exact Hid.out (by with_reducible assumption) | with_reducible assumption); (case p4 => first | exact Hid.out (by with_reducible assumption) | with_reducible assumption); (case p5 => first | exact Hid.out (by with_reducible assumption) | with_reducible assumption); (case p6 => first | exact Hid.out (by with_reducible assumption) | with_reducible assumption); (case p7 => first | exact Hid.out (by with_reducible assumption) | with_reducible assumption); (case p8 => first | exact Hid.out (by with_reducible assumption) | with_reducible assumption); k_whole); intro _ _ _ _; (try dsimp only); (try k_fold)) | (k_here; (with_reducible show wpAny _ _ (call (Value.ref 117) [Value.ref _, Value.str _ _]) _ _ _); k_dflt (refine' text_spec ?jB ?jF ?jX ?jN ?jT ?jk ?jd ?ju ?p1 ?p2 ?p3 ?p4 ?p5 ?_; (case jB => k_asm); (case jF => k_asm); (case jX => k_asm); (case jN => k_asm); (case jT => k_asm); (case jk => exact rfl); (case jd => decide); (case ju => decide); (case p1 => k_mem); (case p2 => first | with_reducible assumption | exact Hid.out (by with_reducible assumption)); (case p3 => first | with_reducible assumption | exact Hid.out (by with_reducible assumption)); (case p4 => first | with_reducible assumption | exact Hid.out (by with_reducible assumption)); (case p5 => first | with_reducible assumption | exact Hid.out (by with_reducible assumption) | omega); k_whole); intro _ _ _ _ _; (try dsimp only); (try k_fold)) | (k_here; (with_reducible show wpAny _ _ (call (Value.ref 77) [Value.str _ _, Value.int _ _]) _ _ _); k_dflt (refine' mul_str ?jB ?jF ?jX ?jN ?jT ?jk ?jd ?ju ?p1 ?p2 ?p3 ?_; (case jB => k_asm); (case jF => k_asm); (case jX => k_asm); (case jN => k_asm); (case jT => k_asm); (case jk => exact rfl); (case jd => decide); (case ju => decide); (case p1 => first | exact Hid.out (by with_reducible assumption) | with_reducible assumption | omega | (simp only [sapp_len]; omega)); (case p2 => first | with_reducible assumption | exact Hid.out (by with_reducible assumption) | omega); (case p3 => first | with_reducible assumption | exact Hid.out (by with_reducible assumption) | omega); k_whole); intro _ _ _ _ _; (try dsimp only); (try k_fold)) | (k_here; (with_reducible show wpAny _ _ (call (Value.ref 105) [Value.str _ _, Value.str _ _]) _ _ _); k_dflt (refine' concat_str ?jB ?jF ?jX ?jN ?jT ?jk ?jd ?ju ?p1 ?p2 ?_; (case jB => k_asm); (case jF => k_asm); (case jX => k_asm); (case jN => k_asm); (case jT => k_asm); (case jk => exact rfl); (case jd => decide); (case ju => decide); (case p1 => first | exact Hid.out (by with_reducible assumption) | with_reducible assumption | omega | (simp only [sapp_len]; omega)); (case p2 => first | exact Hid.out (by with_reducible assumption) | with_reducible assumption | omega | (simp only [sapp_len]; omega)); k_whole); intro _ _ _ _ _; (try dsimp only); (try k_fold))) | (k_here; (with_reducible show wpAny _ _ (callWith _ (Value.ref _) [] _ _) _ _ _); k_dflt (first | (refine' callWith_K ?k1 ?k2 ?_; (case k1 => k_asm); (case k2 => k_is); k_whole) | (refine' callWith_K0 ?k1 ?k2 ?_; (case k1 => k_in); (case k2 => k_is); k_whole))) | (k_here; (with_reducible show wpAny _ _ (subscriptTail _ (PySem.Expr.Slice _ _ none _) (Value.ref _) (Value.ref _)) _ _ _); k_dflt (refine' sliceL ?z1 ?z2 ?z3 ?z4 ?z5 ?z9 ?_ ?z6 ?z7 ?z8; (case z1 => k_asm); (case z2 => k_asm); (case z3 => k_mem); (case z4 => kmk_part); (case z5 => kmk_part); (case z9 => with_reducible assumption); (case z6 => with_unfolding_all rfl); (case z7 => (intro _; with_unfolding_all rfl)); (case z8 => with_reducible assumption)); wtm_at "t8") | walk1) | (leave1; (try dsimp only)) | fail "no step"))
        have hany : ((foldsOf (fF ++ dbl core ++ fE)).map encT).any (fun y => PyData.eqv y (.list [.list (fF.map PyData.int), .list (core.map PyData.int), .list (fE.map PyData.int)])) = true := any_T hin.out
        refine contains_R (xs := (foldsOf (fF ++ dbl core ++ fE)).map encT) (d := .list [.list (fF.map PyData.int), .list (core.map PyData.int), .list (fE.map PyData.int)]) (by k_asm) (by k_asm) (by k_asm) (by k_asm) (by k_asm) rfl (by decide) (by decide) ?_ (lay_Ts _) (lay_T (fF, core, fE)) (dep_T (fF, core, fE)) ?_
        · intro h9 hm9
          obtain ⟨as, ha9⟩ := told_reads (G := G7) (r := R7) (h := h9) (fun p hp => hm9 p (by repeat (first | exact hp | apply List.Mem.tail))) hP7
          exact ⟨⟨_, .list (hm9 (DF, listOf items.toArray kF) (by repeat (first | exact ha _ | exact hm1 _ | exact hm2 _ | exact List.Mem.head _ | apply List.Mem.tail))) rfl rfl ha9⟩, ⟨_, .list (hm9 (_, listOf #[.ref efF, .ref DK, .ref efE] 0) (.head _)) rfl rfl (.cons (.list (hm9 (efF, listOf vfF.toArray 0) (by repeat (first | exact ha _ | exact hm1 _ | exact hm2 _ | exact List.Mem.head _ | apply List.Mem.tail))) rfl rfl (reads_ints h9 hiF1)) (.cons (.list (hm9 (DK, listOf y5.toArray y5.length) (by repeat (first | exact ha _ | exact hm1 _ | exact hm2 _ | exact List.Mem.head _ | apply List.Mem.tail))) rfl rfl (reads_ints h9 hy5)) (.cons (.list (hm9 (efE, listOf vfE.toArray 0) (by repeat (first | exact ha _ | exact hm1 _ | exact hm2 _ | exact List.Mem.head _ | apply List.Mem.tail))) rfl rfl (reads_ints h9 hiE1)) .nil)))⟩⟩
        intro h9 tk9 F9 N9
        rw [hany]
        repeat' ((fail_if_success (with_reducible show wpAny _ _ (compareOp CmpOp.Eq _ _) _ _ _)); first | (k_unfold; (try dsimp only)) | (k_end; wrow_close) | (first | with_reducible (first | (k_here; (with_reducible show wpAny _ _ (call (Value.builtin "len") [Value.ref _]) _ _ _); k_dflt (refine' len_L ?j1 ?j2 ?j3 ?_; (case j1 => k_asm); (case j2 => k_mem); (case j3 => exact Hid.out (by with_reducible assumption))))) | (k_here; (with_reducible show wpAny _ _ (call (Value.builtin "len") [Value.ref _]) _ _ _); k_dflt (refine' len_L ?j1 ?j2 ?j3 ?_; (case j1 => k_asm); (case j2 => k_mem); (case j3 => exact Hid.out (by with_reducible assumption)))) | walk1) | (dsimp only; walk1) | (leave1; walk_say "STEP leave1"; try dsimp only) | fail "no step")
        all_goals (walk1; try dsimp only)
        · rename tv = true => htv1
          rw [show ((((items.toArray.size : Nat) : Int) == 2) = true) from by rw [hcz.out, hcnt.out, htv1]; rfl]
          refine ⟨?_, ?_⟩
          · refine ⟨.inl ⟨_, .bool true, [], rfl, fun _ => rfl, .bool true, ?_, fun _ => ⟨.nil, fun _ h => nomatch h⟩⟩, ?_, rfl, ?_⟩
            · with_unfolding_all rfl
            · rename Fr _ _ _ _ => FZ
              exact FZ.keep
            · with_reducible assumption
          · obtain ⟨r1, r2, hr, tab1, tab2⟩ := hR7
            obtain ⟨ps1, hp1⟩ := tab1.mem
            obtain ⟨ps2, hp2⟩ := tab2.mem
            have g1 : (37, tabObj ps1) ∈ G7 R7 := led_rest hG7 _ (hr ▸ List.mem_append_left _ hp1)
            have g2 : (30, tabObj ps2) ∈ G7 R7 := led_rest hG7 _ (hr ▸ List.mem_append_right _ hp2)
            rename News _ _ _ _ => NZ
            exact ⟨GrownAt.of NZ (by repeat (first | exact g1 | apply List.Mem.tail)), GrownAt.of NZ (by repeat (first | exact g2 | apply List.Mem.tail)), True.intro⟩
        · rename tv = false => htv1
          rw [show ((((items.toArray.size : Nat) : Int) == 1) = true) from by rw [hcz.out, hcnt.out, htv1]; rfl]
          refine ⟨?_, ?_⟩
          · refine ⟨.inl ⟨_, .bool true, [], rfl, fun _ => rfl, .bool true, ?_, fun _ => ⟨.nil, fun _ h => nomatch h⟩⟩, ?_, rfl, ?_⟩
            · with_unfolding_all rfl
            · rename Fr _ _ _ _ => FZ
              exact FZ.keep
            · with_reducible assumption
          · obtain ⟨r1, r2, hr, tab1, tab2⟩ := hR7
            obtain ⟨ps1, hp1⟩ := tab1.mem
            obtain ⟨ps2, hp2⟩ := tab2.mem
            have g1 : (37, tabObj ps1) ∈ G7 R7 := led_rest hG7 _ (hr ▸ List.mem_append_left _ hp1)
            have g2 : (30, tabObj ps2) ∈ G7 R7 := led_rest hG7 _ (hr ▸ List.mem_append_right _ hp2)
            rename News _ _ _ _ => NZ
            exact ⟨GrownAt.of NZ (by repeat (first | exact g1 | apply List.Mem.tail)), GrownAt.of NZ (by repeat (first | exact g2 | apply List.Mem.tail)), True.intro⟩)
end X7
theorem set_back_X7_z : True := by first | walk1 | trivial
end Mine

theorem PySem.Challenge.cw_ti0020_01_holds : PySem.Challenge.rw_ti0020_01.Holds := by
  exact Mine.law_holds
