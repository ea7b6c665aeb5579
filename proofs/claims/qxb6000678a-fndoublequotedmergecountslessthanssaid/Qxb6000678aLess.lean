import Derived.Test.Qxb6000678aMerge
import Derived.Lib.SlBytesConst
import Derived.Laws.AppendOwnNone
namespace Go.Proofs.Qxb6000678a
open Go.RowKit

theorem ltL_length (r : Nat) : 1 ≤ (ltL r).length ∧ (ltL r).length ≤ 10 := by unfold ltL; (repeat' split) <;> simp

set_option maxHeartbeats 2000000 in
theorem less_core (b r : Nat) (w : World) (hr : b % 7 = r) : Calls Try.prog 22 #[.int .u8 (b : Int)] w fun e w' => e = .returned (.slice (some ⟨w.heap.size, 0, none⟩) (ltL r).length (ltL r).length) ∧ ∃ mk, w' = w.alloc (.cells (B8 (ltL r)).toArray 5 mk) := by
  have kc := fun w C n c => Lib.run_convert_bytes_const (P := Try.prog) w 22 5 C n c Try.underlying22 Try.underlying5
  have hr' : (b : Int) % 7 = (r : Int) := by omega
  have hlt : r < 7 := by omega
  clear hr
  obtain rfl | rfl | rfl | rfl | rfl | rfl | rfl : r = 0 ∨ r = 1 ∨ r = 2 ∨ r = 3 ∨ r = 4 ∨ r = 5 ∨ r = 6 := by omega
  all_goals
    go_enter Try.func22, Try.ntmps22
    go_wp2
    go_ret
    exact ⟨rfl, _, rfl⟩

theorem less_any (b : Nat) (w : World) : Calls Try.prog 22 #[.int .u8 (b : Int)] w fun e w' => e = .returned (.slice (some ⟨w.heap.size, 0, none⟩) (ltL (b % 7)).length (ltL (b % 7)).length) ∧ Rd w' (some ⟨w.heap.size, 0, none⟩) (ltL (b % 7)) ∧ Below w.heap.size w w' := by
  refine (less_core b (b % 7) w rfl).mono ?_
  rintro e w' ⟨rfl, mk, rfl⟩
  refine ⟨rfl, fun _ => ⟨w.heap.size, 0, rfl, fun i hi => ?_⟩, (Below.refl _ _).alloc (Nat.le_refl _) _⟩
  rw [Nat.zero_add, World.cell?_alloc_mark]
  have := B8_at _ i hi
  simpa using this

theorem merge_zz (g n cap c : Nat) (T : List Nat) (w : World) (hl : T.length = n) (hn : (n : Int) ≤ 4611686018427387904) (hcap : n ≤ cap) (hcap2 : cap ≤ 9223372036854775807) (hc : Cells w g T) (hG : Good T c) :
    Calls Try.prog 23 #[.slice (some ⟨g, 0, none⟩) n cap] w fun e w' => e = .returned (.bool (decide (c = 2))) ∧ w = w' := by
  have k := merge_core g n cap c T w hl hn hcap hcap2 hc hG
  clear hl hn hcap hcap2 hc hG
  go_enter Try.func23, Try.ntmps23
  go_wp2_with (go_at_call 31; refine k.mono ?_; rintro e w' ⟨rfl, rfl⟩)
  go_ret
  exact ⟨rfl, rfl⟩
end Go.Proofs.Qxb6000678a
