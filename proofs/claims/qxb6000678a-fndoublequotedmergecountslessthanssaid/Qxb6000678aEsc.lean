import Derived.Test.Qxb6000678aTable
namespace Go.Proofs.Qxb6000678a
open Go.RowKit

/-- The seven spellings of the sign 60. -/
def ltL (r : Nat) : List Nat :=
  if r = 1 then [92, 120, 51, 99] else if r = 2 then [92, 120, 51, 67] else if r = 3 then [92, 117, 48, 48, 51, 99] else if r = 4 then [92, 117, 48, 48, 51, 67]
  else if r = 5 then [92, 85, 48, 48, 48, 48, 48, 48, 51, 99] else if r = 6 then [92, 85, 48, 48, 48, 48, 48, 48, 51, 67] else [60]

theorem white_any (x : Nat) (w : World) : Calls Try.prog 33 #[.int .u8 (x : Int)] w fun e w' => e = .returned (.bool (decide (x = 32 ∨ x = 9))) ∧ w = w' := by
  by_cases h1 : x = 32
  · subst h1
    go_enter Try.func33, Try.ntmps33
    go_wp2
    go_ret
    exact ⟨rfl, rfl⟩
  · have t1 : ((x : Int) == 32) = false := by rw [beq_eq_false_iff_ne]; omega
    by_cases h2 : x = 9
    · subst h2
      clear h1
      go_enter Try.func33, Try.ntmps33
      go_wp2
      go_ret
      exact ⟨rfl, rfl⟩
    · have t2 : ((x : Int) == 9) = false := by rw [beq_eq_false_iff_ne]; omega
      have e : decide (x = 32 ∨ x = 9) = false := decide_eq_false (by omega)
      rw [e]
      clear h1 h2 e
      go_enter Try.func33, Try.ntmps33
      go_wp2
      go_ret
      exact ⟨rfl, rfl⟩

set_option maxHeartbeats 4000000 in
theorem esc_x (g o n c l : Nat) (w : World) (hn : 4 ≤ n) (hc : n ≤ c) (hc2 : c ≤ 9223372036854775807) (hl : l = 99 ∨ l = 67) (c1 : w.cell? ⟨g, o + 1, none⟩ = some (.int .u8 120)) (d0 : w.cell? ⟨g, o + 2, none⟩ = some (.int .u8 51)) (d1 : w.cell? ⟨g, o + 2 + 1, none⟩ = some (.int .u8 (l : Int))) :
    Calls Try.prog 34 #[.slice (some ⟨g, o, none⟩) n c] w fun e w' => e = .returned (.tuple #[.int .i64 60, .int .i64 4]) ∧ w = w' := by
  have o0 : bits .or .i64 0 0 = 0 := by decide
  have o1 : bits .or .i64 0 3 = 3 := by decide
  have o2 : bits .or .i64 48 12 = 60 := by decide
  have h1 : (1 : Int) < (n : Int) := by omega
  have h4 : ¬ (n : Int) < 4 := by omega
  have hnc : (4 : Int) ≤ (c : Int) := by omega
  have hne : ¬ c = 2 := by omega
  rcases hl with rfl | rfl
  ·
    go_enter Try.func34, Try.ntmps34
    go_wp2
    refine wp_loop_rounds 3 ?_
    rw [rounds_succ]; go_wp2
    rw [rounds_succ]; go_wp2
    rw [rounds_succ]; go_wp2
    go_ret2
    exact ⟨rfl, rfl⟩
  ·
    go_enter Try.func34, Try.ntmps34
    go_wp2
    refine wp_loop_rounds 3 ?_
    rw [rounds_succ]; go_wp2
    rw [rounds_succ]; go_wp2
    rw [rounds_succ]; go_wp2
    go_ret2
    exact ⟨rfl, rfl⟩

set_option maxHeartbeats 4000000 in
theorem esc_u (g o n c l : Nat) (w : World) (hn : 6 ≤ n) (hc : n ≤ c) (hc2 : c ≤ 9223372036854775807) (hl : l = 99 ∨ l = 67) (c1 : w.cell? ⟨g, o + 1, none⟩ = some (.int .u8 117)) (d0 : w.cell? ⟨g, o + 2, none⟩ = some (.int .u8 48)) (d1 : w.cell? ⟨g, o + 2 + 1, none⟩ = some (.int .u8 48)) (d2 : w.cell? ⟨g, o + 2 + 2, none⟩ = some (.int .u8 51)) (d3 : w.cell? ⟨g, o + 2 + 3, none⟩ = some (.int .u8 (l : Int))) :
    Calls Try.prog 34 #[.slice (some ⟨g, o, none⟩) n c] w fun e w' => e = .returned (.tuple #[.int .i64 60, .int .i64 6]) ∧ w = w' := by
  have o0 : bits .or .i64 0 0 = 0 := by decide
  have o1 : bits .or .i64 0 3 = 3 := by decide
  have o2 : bits .or .i64 48 12 = 60 := by decide
  have h1 : (1 : Int) < (n : Int) := by omega
  have h4 : ¬ (n : Int) < 6 := by omega
  have hnc : (6 : Int) ≤ (c : Int) := by omega
  have hne : ¬ c = 2 := by omega
  rcases hl with rfl | rfl
  ·
    go_enter Try.func34, Try.ntmps34
    go_wp2
    refine wp_loop_rounds 5 ?_
    rw [rounds_succ]; go_wp2
    rw [rounds_succ]; go_wp2
    rw [rounds_succ]; go_wp2
    rw [rounds_succ]; go_wp2
    rw [rounds_succ]; go_wp2
    go_ret2
    exact ⟨rfl, rfl⟩
  ·
    go_enter Try.func34, Try.ntmps34
    go_wp2
    refine wp_loop_rounds 5 ?_
    rw [rounds_succ]; go_wp2
    rw [rounds_succ]; go_wp2
    rw [rounds_succ]; go_wp2
    rw [rounds_succ]; go_wp2
    rw [rounds_succ]; go_wp2
    go_ret2
    exact ⟨rfl, rfl⟩

set_option maxHeartbeats 4000000 in
theorem esc_U (g o n c l : Nat) (w : World) (hn : 10 ≤ n) (hc : n ≤ c) (hc2 : c ≤ 9223372036854775807) (hl : l = 99 ∨ l = 67) (c1 : w.cell? ⟨g, o + 1, none⟩ = some (.int .u8 85)) (d0 : w.cell? ⟨g, o + 2, none⟩ = some (.int .u8 48)) (d1 : w.cell? ⟨g, o + 2 + 1, none⟩ = some (.int .u8 48)) (d2 : w.cell? ⟨g, o + 2 + 2, none⟩ = some (.int .u8 48)) (d3 : w.cell? ⟨g, o + 2 + 3, none⟩ = some (.int .u8 48)) (d4 : w.cell? ⟨g, o + 2 + 4, none⟩ = some (.int .u8 48)) (d5 : w.cell? ⟨g, o + 2 + 5, none⟩ = some (.int .u8 48)) (d6 : w.cell? ⟨g, o + 2 + 6, none⟩ = some (.int .u8 51)) (d7 : w.cell? ⟨g, o + 2 + 7, none⟩ = some (.int .u8 (l : Int))) :
    Calls Try.prog 34 #[.slice (some ⟨g, o, none⟩) n c] w fun e w' => e = .returned (.tuple #[.int .i64 60, .int .i64 10]) ∧ w = w' := by
  have o0 : bits .or .i64 0 0 = 0 := by decide
  have o1 : bits .or .i64 0 3 = 3 := by decide
  have o2 : bits .or .i64 48 12 = 60 := by decide
  have h1 : (1 : Int) < (n : Int) := by omega
  have h4 : ¬ (n : Int) < 10 := by omega
  have hnc : (10 : Int) ≤ (c : Int) := by omega
  have hne : ¬ c = 2 := by omega
  rcases hl with rfl | rfl
  ·
    go_enter Try.func34, Try.ntmps34
    go_wp2
    refine wp_loop_rounds 9 ?_
    rw [rounds_succ]; go_wp2
    rw [rounds_succ]; go_wp2
    rw [rounds_succ]; go_wp2
    rw [rounds_succ]; go_wp2
    rw [rounds_succ]; go_wp2
    rw [rounds_succ]; go_wp2
    rw [rounds_succ]; go_wp2
    rw [rounds_succ]; go_wp2
    rw [rounds_succ]; go_wp2
    go_ret2
    exact ⟨rfl, rfl⟩
  ·
    go_enter Try.func34, Try.ntmps34
    go_wp2
    refine wp_loop_rounds 9 ?_
    rw [rounds_succ]; go_wp2
    rw [rounds_succ]; go_wp2
    rw [rounds_succ]; go_wp2
    rw [rounds_succ]; go_wp2
    rw [rounds_succ]; go_wp2
    rw [rounds_succ]; go_wp2
    rw [rounds_succ]; go_wp2
    rw [rounds_succ]; go_wp2
    rw [rounds_succ]; go_wp2
    go_ret2
    exact ⟨rfl, rfl⟩

end Go.Proofs.Qxb6000678a
