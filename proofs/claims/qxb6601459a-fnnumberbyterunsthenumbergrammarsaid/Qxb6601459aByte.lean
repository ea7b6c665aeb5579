import Derived.Test.Qxb6601459aBase
import Derived.Test.Qxb6601459aPlain
namespace Go.Proofs.Qxb6601459a
open Go.RowKit

theorem digit_any (x : Nat) (w : World) : Calls Try.prog 26 #[.int .u8 (x : Int)] w fun e w' => e = .returned (.bool (dg x)) ∧ w = w' := by
  by_cases h1 : 48 ≤ x
  · by_cases h2 : x ≤ 57
    · have e : dg x = true := decide_eq_true ⟨h1, h2⟩
      have t1 : (48 : Int) ≤ (x : Int) := by omega
      have t2 : (x : Int) ≤ 57 := by omega
      rw [e]; clear e
      go_enter Try.func26, Try.ntmps26
      go_wp2
      go_ret
      exact ⟨rfl, rfl⟩
    · have e : dg x = false := decide_eq_false (by omega)
      have t1 : (48 : Int) ≤ (x : Int) := by omega
      have t2 : ¬ (x : Int) ≤ 57 := by omega
      rw [e]; clear e
      go_enter Try.func26, Try.ntmps26
      go_wp2
      go_ret
      exact ⟨rfl, rfl⟩
  · have e : dg x = false := decide_eq_false (by omega)
    have t1 : ¬ (48 : Int) ≤ (x : Int) := by omega
    rw [e]; clear e
    go_enter Try.func26, Try.ntmps26
    go_wp2
    go_ret
    exact ⟨rfl, rfl⟩

def nbV (p : Nat × Bool) : Value := .tuple #[.int .u8 (p.1 : Int), .bool p.2]

set_option maxHeartbeats 4000000 in
theorem num_x (s x : Nat) (p : Nat × Bool) (w : World) (hs : s = 12 ∨ s = 13 ∨ s = 14 ∨ s = 15 ∨ s = 16 ∨ s = 17 ∨ s = 18 ∨ s = 19) (hx : x = 48 ∨ x = 43 ∨ x = 45 ∨ x = 46 ∨ x = 101 ∨ x = 69) (hp : nb s x = p) :
    Calls Try.prog 25 #[.int .u8 (s : Int), .int .u8 (x : Int)] w fun e w' => e = .returned (nbV p) ∧ w = w' := by
  rcases hs with rfl | rfl | rfl | rfl | rfl | rfl | rfl | rfl <;> rcases hx with rfl | rfl | rfl | rfl | rfl | rfl
  all_goals (subst hp; go_enter Try.func25, Try.ntmps25; go_wp2; go_ret2; exact ⟨rfl, rfl⟩)

set_option maxHeartbeats 4000000 in
theorem num_d (s x : Nat) (p : Nat × Bool) (w : World) (hs : s = 12 ∨ s = 13 ∨ s = 14 ∨ s = 15 ∨ s = 16 ∨ s = 17 ∨ s = 18 ∨ s = 19) (h1 : 49 ≤ x) (h2 : x ≤ 57) (hp : nb s x = p) :
    Calls Try.prog 25 #[.int .u8 (s : Int), .int .u8 (x : Int)] w fun e w' => e = .returned (nbV p) ∧ w = w' := by
  have t1 : (48 : Int) ≤ (x : Int) := by omega
  have t2 : (x : Int) ≤ 57 := by omega
  have t3 : ((x : Int) == 48) = false := by rw [beq_eq_false_iff_ne]; omega
  have t4 : ((x : Int) == 43) = false := by rw [beq_eq_false_iff_ne]; omega
  have t5 : ((x : Int) == 45) = false := by rw [beq_eq_false_iff_ne]; omega
  have t6 : ((x : Int) == 46) = false := by rw [beq_eq_false_iff_ne]; omega
  have t7 : ((x : Int) == 101) = false := by rw [beq_eq_false_iff_ne]; omega
  have t8 : ((x : Int) == 69) = false := by rw [beq_eq_false_iff_ne]; omega
  have e : dg x = true := decide_eq_true ⟨by omega, h2⟩
  have e0 : ¬ x = 48 := by omega
  have e1 : ¬ x = 46 := by omega
  have e2 : ¬ (x = 101 ∨ x = 69) := by omega
  clear h1 h2
  rcases hs with rfl | rfl | rfl | rfl | rfl | rfl | rfl | rfl
  all_goals (simp [nb, e, e0, e1, e2] at hp; subst hp; clear e e0 e1 e2; go_enter Try.func25, Try.ntmps25; go_wp2; go_ret2; exact ⟨rfl, rfl⟩)

set_option maxHeartbeats 4000000 in
theorem num_o (s x : Nat) (p : Nat × Bool) (w : World) (hs : s = 12 ∨ s = 13 ∨ s = 14 ∨ s = 15 ∨ s = 16 ∨ s = 17 ∨ s = 18 ∨ s = 19) (hx : ¬ (x = 48 ∨ x = 43 ∨ x = 45 ∨ x = 46 ∨ x = 101 ∨ x = 69)) (hd : ¬ (48 ≤ x ∧ x ≤ 57)) (hp : nb s x = p) :
    Calls Try.prog 25 #[.int .u8 (s : Int), .int .u8 (x : Int)] w fun e w' => e = .returned (nbV p) ∧ w = w' := by
  have t3 : ((x : Int) == 48) = false := by rw [beq_eq_false_iff_ne]; omega
  have t4 : ((x : Int) == 43) = false := by rw [beq_eq_false_iff_ne]; omega
  have t5 : ((x : Int) == 45) = false := by rw [beq_eq_false_iff_ne]; omega
  have t6 : ((x : Int) == 46) = false := by rw [beq_eq_false_iff_ne]; omega
  have t7 : ((x : Int) == 101) = false := by rw [beq_eq_false_iff_ne]; omega
  have t8 : ((x : Int) == 69) = false := by rw [beq_eq_false_iff_ne]; omega
  have e : dg x = false := decide_eq_false hd
  have e0 : ¬ x = 48 := by omega
  have e1 : ¬ x = 46 := by omega
  have e2 : ¬ (x = 101 ∨ x = 69) := by omega
  have e3 : ¬ (x = 43 ∨ x = 45) := by omega
  clear hx
  by_cases h1 : 48 ≤ x
  · have t1 : (48 : Int) ≤ (x : Int) := by omega
    have t2 : ¬ (x : Int) ≤ 57 := by omega
    clear hd h1
    rcases hs with rfl | rfl | rfl | rfl | rfl | rfl | rfl | rfl
    all_goals (simp [nb, e, e0, e1, e2, e3] at hp; subst hp; clear e e0 e1 e2 e3; go_enter Try.func25, Try.ntmps25; go_wp2; go_ret2; exact ⟨rfl, rfl⟩)
  · have t1 : ¬ (48 : Int) ≤ (x : Int) := by omega
    clear hd h1
    rcases hs with rfl | rfl | rfl | rfl | rfl | rfl | rfl | rfl
    all_goals (simp [nb, e, e0, e1, e2, e3] at hp; subst hp; clear e e0 e1 e2 e3; go_enter Try.func25, Try.ntmps25; go_wp2; go_ret2; exact ⟨rfl, rfl⟩)

theorem num_any (s x : Nat) (w : World) (hs : s = 12 ∨ s = 13 ∨ s = 14 ∨ s = 15 ∨ s = 16 ∨ s = 17 ∨ s = 18 ∨ s = 19) :
    Calls Try.prog 20 #[.int .u8 (s : Int), .int .u8 (x : Int)] w fun e w' => e = .returned (nbV (nb s x)) ∧ w = w' := by
  have k : Calls Try.prog 25 #[.int .u8 (s : Int), .int .u8 (x : Int)] w fun e w' => e = .returned (nbV (nb s x)) ∧ w = w' := by
    by_cases hx : x = 48 ∨ x = 43 ∨ x = 45 ∨ x = 46 ∨ x = 101 ∨ x = 69
    · exact num_x s x _ w hs hx rfl
    · by_cases hd : 48 ≤ x ∧ x ≤ 57
      · exact num_d s x _ w hs (by omega) hd.2 rfl
      · exact num_o s x _ w hs hx hd rfl
  unfold nbV at k ⊢
  generalize (nb s x).1 = a at k ⊢
  generalize (nb s x).2 = b at k ⊢
  clear hs
  go_enter Try.func20, Try.ntmps20
  go_wp2_with (go_at_call 25; refine k.mono ?_; rintro e w' ⟨rfl, rfl⟩)
  go_ret2
  exact ⟨rfl, rfl⟩
end Go.Proofs.Qxb6601459a
