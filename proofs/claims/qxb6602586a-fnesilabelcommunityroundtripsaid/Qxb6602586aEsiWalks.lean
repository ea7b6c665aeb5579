/-
  The walks for 'Rows.FnESILabelCommunityRoundTripSaid': a contract a function, then the law at each of the two flags.
-/
import Derived.Test.Qxb6602586aRows
import Derived.WalkKit
import Derived.ProofKit
import Derived.OpenShut
import Derived.WalkSpells
import Derived.Handy
import Derived.Laws.BitsAllLaws
import Derived.Deep.QuietTactic
import Derived.BigQuiet
import Derived.Deep.AppendLies
import Derived.Deep.RegionHeld3
import Derived.Laws.CopyOwn
namespace Go.Proofs.Qxb6602586a
open Go.ChangeShapes Go.WideShapes Go.ChangeAt Go.RowKit

theorem or_join (x y m : Int) (k : Nat) (hx : 0 ≤ x) (hx' : x < 4294967296) (hy : 0 ≤ y) (hm : m = ((2 ^ k : Nat) : Int)) (hy' : y < m) (hy2 : y < 4294967296) (hd : x % m = 0) : bits BinOp.or IntKind.u32 x y = x + y := by
  rw [u32_or x y hx (by omega) hy (by omega)]
  obtain ⟨a, rfl⟩ := Int.eq_ofNat_of_zero_le hx
  obtain ⟨b, rfl⟩ := Int.eq_ofNat_of_zero_le hy
  subst hm
  have := nat_join k a b (by omega) (by omega)
  simp only [Int.toNat_natCast, this]; omega

theorem parse_any (b o : Nat) (x0 x1 x2 : Int) (a0 : 0 ≤ x0) (b0 : x0 ≤ 255) (a1 : 0 ≤ x1) (b1 : x1 ≤ 255) (a2 : 0 ≤ x2) (b2 : x2 ≤ 255) (w : World)
    (c0 : w.cell? ⟨b, o, none⟩ = some (.int .u8 x0)) (c1 : w.cell? ⟨b, o + 1, none⟩ = some (.int .u8 x1)) (c2 : w.cell? ⟨b, o + 2, none⟩ = some (.int .u8 x2)) :
    Calls Try.prog 12 #[.slice (some ⟨b, o, none⟩) 3 3] w fun e w' => e = .returned (.int .u32 (x0 * 65536 + x1 * 256 + x2)) ∧ ∃ n, w' = w.drewN n := by
  have j1 : bits BinOp.or IntKind.u32 (x0 * 65536) (x1 * 256) = x0 * 65536 + x1 * 256 := or_join _ _ 65536 16 (by omega) (by omega) (by omega) (by decide) (by omega) (by omega) (by omega)
  have j2 : bits BinOp.or IntKind.u32 (x0 * 65536 + x1 * 256) x2 = x0 * 65536 + x1 * 256 + x2 := or_join _ _ 256 8 (by omega) (by omega) (by omega) (by decide) (by omega) (by omega) (by omega)
  go_enter Try.func12, Try.ntmps12
  go_wp2
  go_quiet (fail)
  go_wp2
  go_ret
  exact ⟨rfl, nq, rfl⟩

theorem Try.info5 : (Try.prog.info? 5).map (fun i => (i.zero, i.size, i.bytes)) = some (some (.int .u8 0), 1, 1) := by kernel_rfl

theorem append_any (l : Int) (_h0 : 0 ≤ l) (_h1 : l < 4294967296) (w : World) :
    Calls Try.prog 11 #[.int .u32 l, .slice none 0 0] w fun e w' => ∃ g cap, e = .returned (.slice (some ⟨g, 0, none⟩) 3 cap) ∧ w.heap.size ≤ g ∧
      w'.cell? ⟨g, 0, none⟩ = some (.int .u8 (l / 65536 % 256)) ∧ w'.cell? ⟨g, 1, none⟩ = some (.int .u8 (l / 256 % 256)) ∧ w'.cell? ⟨g, 2, none⟩ = some (.int .u8 (l % 256)) ∧ Below w.heap.size w w' := by
  obtain ⟨i0, hi, hz0, hz1, hz2⟩ := info_parts Try.info5
  go_enter Try.func11, Try.ntmps11
  go_wp2_with fail
  go_ret
  have hb : ∀ (o1 o2 : Obj), ((w.alloc o1).alloc o2).drew.heap[w.heap.size + 1]? = some o2 := fun o1 o2 => by
    have := heap_alloc_new (w.alloc o1) o2
    rw [show (w.alloc o1).heap.size = w.heap.size + 1 by simp] at this
    exact this
  refine ⟨_, _, rfl, by simp, ?_, ?_, ?_, ?_⟩
  · exact (cell_of_row _ _ _ _ _ _ (hb _ _)).trans (by rw [Array.getElem?_append_left (by simp)]; rfl)
  · exact (cell_of_row _ _ _ _ _ _ (hb _ _)).trans (by rw [Array.getElem?_append_left (by simp)]; rfl)
  · exact (cell_of_row _ _ _ _ _ _ (hb _ _)).trans (by rw [Array.getElem?_append_left (by simp)]; rfl)
  · exact (((Below.refl _ _).alloc (Nat.le_refl _) _).alloc (by simp) _).drew

/-- 'copy(c[5:], three bytes)', c an array of eight in a block of its own. -/
theorem copy3 (w : World) (D g cap : Nat) (y0 y1 y2 y3 y4 y5 y6 y7 : Value) (b0 b1 b2 : Int) (hD : w.heap[D]? = some (.cells #[y0, y1, y2, y3, y4, y5, y6, y7] 29 (0, 0)))
    (c0 : w.cell? ⟨g, 0, none⟩ = some (.int .u8 b0)) (c1 : w.cell? ⟨g, 1, none⟩ = some (.int .u8 b1)) (c2 : w.cell? ⟨g, 2, none⟩ = some (.int .u8 b2)) :
    ∃ w2, (Builtin.copy_ #[42, 42] 3 #[.slice (some ⟨D, 5, none⟩) 3 3, .slice (some ⟨g, 0, none⟩) 3 cap]).run Try.prog w = .ok (.int .i64 3) w2 ∧
      w2.heap[D]? = some (.cells #[y0, y1, y2, y3, y4, .int .u8 b0, .int .u8 b1, .int .u8 b2] 29 (0, 0)) ∧ Below D w w2 := by
  refine ⟨_, run_copy_row (P := Try.prog) w 42 42 3 5 D 5 3 3 ⟨g, 0, none⟩ 3 cap _ 29 [.int .u8 b0, .int .u8 b1, .int .u8 b2] Try.underlying42 (by kernel_rfl) hD rfl ?_ (by simp) ?_, ?_, ?_⟩
  · intro j v hj
    have hadd : (⟨g, 0, none⟩ : Addr).add j = ⟨g, j, none⟩ := by unfold Addr.add; split <;> simp_all
    rw [hadd]
    match j, hj with
    | 0, hj => simp at hj; subst hj; exact c0
    | 1, hj => simp at hj; subst hj; exact c1
    | 2, hj => simp at hj; subst hj; exact c2
    | j + 3, hj => simp at hj
  · intro v hv; simp at hv; rcases hv with rfl | rfl | rfl <;> rfl
  · exact (setRow_heap w D _ _ 29 _ hD).trans (by simp)
  · exact below_setRow (Below.refl _ _) (Nat.le_refl _) _

theorem three (w : World) (o1 o2 o3 : Obj) : (((w.alloc o1).alloc o2).alloc o3).drew.heap[w.heap.size + 1 + 1]? = some o3 ∧ (((w.alloc o1).alloc o2).alloc o3).drew.heap[w.heap.size + 1]? = some o2 ∧ Below w.heap.size w (((w.alloc o1).alloc o2).alloc o3).drew := by
  refine ⟨?_, ?_, ((((Below.refl _ _).alloc (Nat.le_refl _) _).alloc (by simp) _).alloc (by simp; omega) _).drew⟩
  · show (((w.alloc o1).alloc o2).alloc o3).heap[w.heap.size + 1 + 1]? = some o3
    have := heap_alloc_new ((w.alloc o1).alloc o2) o3
    rw [show ((w.alloc o1).alloc o2).heap.size = w.heap.size + 1 + 1 by simp] at this
    exact this
  · show (((w.alloc o1).alloc o2).alloc o3).heap[w.heap.size + 1]? = some o2
    rw [heap_alloc_old _ _ (by simp)]
    have := heap_alloc_new (w.alloc o1) o2
    rw [show (w.alloc o1).heap.size = w.heap.size + 1 by simp] at this
    exact this

theorem cells8 {w : World} {D : Nat} {y0 y1 y2 y3 y4 y5 y6 y7 : Value} (h : w.heap[D]? = some (.cells #[y0, y1, y2, y3, y4, y5, y6, y7] 29 (0, 0))) :
    (w.cell? ⟨D, 0, none⟩ = some y0 ∧ w.cell? ⟨D, 1, none⟩ = some y1 ∧ w.cell? ⟨D, 2, none⟩ = some y2 ∧ w.cell? ⟨D, 3, none⟩ = some y3 ∧ w.cell? ⟨D, 4, none⟩ = some y4 ∧ w.cell? ⟨D, 5, none⟩ = some y5 ∧ w.cell? ⟨D, 6, none⟩ = some y6 ∧ w.cell? ⟨D, 7, none⟩ = some y7) ∧
    (∀ j, w.frozen? ⟨D, j, none⟩ = false) := by
  refine ⟨⟨?_, ?_, ?_, ?_, ?_, ?_, ?_, ?_⟩, fun j => ?_⟩
  all_goals first | exact cell_of_row w D _ _ 29 _ h | simp [World.frozen?, h]

set_option maxHeartbeats 1000000 in
theorem community_false (sh l : Int) (s0 : 0 ≤ sh) (s1 : sh ≤ 255) (h0 : 0 ≤ l) (h1 : l < 4294967296) (w : World) :
    Calls Try.prog 7 #[.agg #[.bool false, .int .u8 sh, .int .u32 l]] w fun e w' => e = .returned (.agg #[.int .u8 6, .int .u8 1, .int .u8 (sh % 4 * 64), .int .u8 0, .int .u8 0, .int .u8 (l / 65536 % 256), .int .u8 (l / 256 % 256), .int .u8 (l % 256)]) ∧ Below w.heap.size w w' := by
  have e1 : bits BinOp.and IntKind.u8 sh 3 = sh % 4 := by
    rw [u8_and sh 3 (by omega) (by omega) (by omega) (by omega)]
    have := nat_mask2 sh.toNat
    simp only [show (3 : Int).toNat = 3 from rfl, this]; omega
  have e2 : bits BinOp.or IntKind.u8 (sh % 4 * 64) 1 = sh % 4 * 64 + 1 := by
    rw [u8_or (sh % 4 * 64) 1 (by omega) (by omega) (by omega) (by omega)]
    have := nat_join 6 (sh % 4 * 64).toNat 1 (by omega) (by omega)
    simp only [show (1 : Int).toNat = 1 from rfl, this]; omega
  go_enter Try.func7, Try.ntmps7
  go_wp2
  go_region_with (go_at_call 11; refine (append_any l h0 h1 _).mono ?_; rintro e w' ⟨g, cap, rfl, hg, c0, c1, c2, hb⟩; obtain ⟨t1, t2, t3⟩ := three w _ _ _; obtain ⟨w2, hrun, hD2, hb2⟩ := copy3 w' (w.heap.size + 1 + 1) g cap _ _ _ _ _ _ _ _ _ _ _ ((hb.block _ (by simp)).trans t1) c0 c1 c2; clear c0 c1 c2)
  have hR := (hb2.block (w.heap.size + 1) (by omega)).trans ((hb.block (w.heap.size + 1) (by simp)).trans t2)
  have hB : Below w.heap.size w w2 := (t3.trans (hb.mono (by simp; omega))).trans (hb2.mono (by omega))
  have hs : w.heap.size + 1 + 1 < w2.heap.size := by have g1 := hb.size; have g2 := hb2.size; simp at g1; omega
  obtain ⟨⟨p0, p1, p2, p3, p4, p5, p6, p7⟩, pf⟩ := cells8 hD2
  obtain ⟨⟨q0, q1, q2, q3, q4, q5, q6, q7⟩, qf⟩ := cells8 hR
  clear hD2 hR hb2 hb hrun t1 t2 t3 hg
  go_wp2
  clear p0 p1 p2 p3 p4 p5 p6 p7 pf qf
  refine bodyPost_ret (v := .agg #[.int .u8 6, .int .u8 1, .int .u8 (sh % 4 * 64), .int .u8 0, .int .u8 0, .int .u8 (l / 65536 % 256), .int .u8 (l / 256 % 256), .int .u8 (l % 256)]) (by simp [results, Try.results7, go_sem, q0, q1, q2, q3, q4, q5, q6, q7]) rfl ⟨rfl, ?_⟩
  go_grown

set_option maxHeartbeats 1000000 in
theorem community_true (sh l : Int) (s0 : 0 ≤ sh) (s1 : sh ≤ 255) (h0 : 0 ≤ l) (h1 : l < 4294967296) (w : World) :
    Calls Try.prog 7 #[.agg #[.bool true, .int .u8 sh, .int .u32 l]] w fun e w' => e = .returned (.agg #[.int .u8 6, .int .u8 1, .int .u8 (sh % 4 * 64 + 1), .int .u8 0, .int .u8 0, .int .u8 (l / 65536 % 256), .int .u8 (l / 256 % 256), .int .u8 (l % 256)]) ∧ Below w.heap.size w w' := by
  have e1 : bits BinOp.and IntKind.u8 sh 3 = sh % 4 := by
    rw [u8_and sh 3 (by omega) (by omega) (by omega) (by omega)]
    have := nat_mask2 sh.toNat
    simp only [show (3 : Int).toNat = 3 from rfl, this]; omega
  have e2 : bits BinOp.or IntKind.u8 (sh % 4 * 64) 1 = sh % 4 * 64 + 1 := by
    rw [u8_or (sh % 4 * 64) 1 (by omega) (by omega) (by omega) (by omega)]
    have := nat_join 6 (sh % 4 * 64).toNat 1 (by omega) (by omega)
    simp only [show (1 : Int).toNat = 1 from rfl, this]; omega
  go_enter Try.func7, Try.ntmps7
  go_wp2
  go_region_with (go_at_call 11; refine (append_any l h0 h1 _).mono ?_; rintro e w' ⟨g, cap, rfl, hg, c0, c1, c2, hb⟩; obtain ⟨t1, t2, t3⟩ := three w _ _ _; obtain ⟨w2, hrun, hD2, hb2⟩ := copy3 w' (w.heap.size + 1 + 1) g cap _ _ _ _ _ _ _ _ _ _ _ ((hb.block _ (by simp)).trans t1) c0 c1 c2; clear c0 c1 c2)
  have hR := (hb2.block (w.heap.size + 1) (by omega)).trans ((hb.block (w.heap.size + 1) (by simp)).trans t2)
  have hB : Below w.heap.size w w2 := (t3.trans (hb.mono (by simp; omega))).trans (hb2.mono (by omega))
  have hs : w.heap.size + 1 + 1 < w2.heap.size := by have g1 := hb.size; have g2 := hb2.size; simp at g1; omega
  obtain ⟨⟨p0, p1, p2, p3, p4, p5, p6, p7⟩, pf⟩ := cells8 hD2
  obtain ⟨⟨q0, q1, q2, q3, q4, q5, q6, q7⟩, qf⟩ := cells8 hR
  clear hD2 hR hb2 hb hrun t1 t2 t3 hg
  go_wp2
  clear p0 p1 p2 p3 p4 p5 p6 p7 pf qf
  refine bodyPost_ret (v := .agg #[.int .u8 6, .int .u8 1, .int .u8 (sh % 4 * 64 + 1), .int .u8 0, .int .u8 0, .int .u8 (l / 65536 % 256), .int .u8 (l / 256 % 256), .int .u8 (l % 256)]) (by simp [results, Try.results7, go_sem, q0, q1, q2, q3, q4, q5, q6, q7]) rfl ⟨rfl, ?_⟩
  go_grown

theorem esi_any (x2 b0 b1 b2 : Int) (s0 : 0 ≤ x2) (s1 : x2 ≤ 255) (u0 : 0 ≤ b0) (v0 : b0 ≤ 255) (u1 : 0 ≤ b1) (v1 : b1 ≤ 255) (u2 : 0 ≤ b2) (v2 : b2 ≤ 255) (w : World) :
    Calls Try.prog 8 #[.agg #[.int .u8 6, .int .u8 1, .int .u8 x2, .int .u8 0, .int .u8 0, .int .u8 b0, .int .u8 b1, .int .u8 b2]] w fun e w' =>
      e = .returned (.tuple #[.agg #[.bool (x2 % 2 != 0), .int .u8 (x2 / 64), .int .u32 (b0 * 65536 + b1 * 256 + b2)], .bool true]) ∧ Below w.heap.size w w' := by
  have e1 : bits BinOp.and IntKind.u8 x2 1 = x2 % 2 := by
    rw [u8_and x2 1 (by omega) (by omega) (by omega) (by omega)]
    have := nat_mask1 x2.toNat
    simp only [show (1 : Int).toNat = 1 from rfl, this]; omega
  go_enter Try.func8, Try.ntmps8
  go_wp2
  go_region_held3 (fun w' => w'.cell? ⟨w.heap.size, 2, none⟩ = some (.int .u8 x2) ∧ w'.cell? ⟨w.heap.size, 5, none⟩ = some (.int .u8 b0) ∧ w'.cell? ⟨w.heap.size, 6, none⟩ = some (.int .u8 b1) ∧ w'.cell? ⟨w.heap.size, 7, none⟩ = some (.int .u8 b2)) (simp [go_sem, World.cell?_alloc_past])
    (first | (go_at_call 12; refine (parse_any w.heap.size 5 b0 b1 b2 u0 v0 u1 v1 u2 v2 _ ?_ ?_ ?_).mono ?_; (simp [*, go_sem]); (simp [*, go_sem]); (simp [*, go_sem]); rintro e w' ⟨rfl, nq, rfl⟩))
  go_wp2
  refine bodyPost_ret (v := .tuple #[.agg #[.bool (x2 % 2 != 0), .int .u8 (x2 / 64), .int .u32 (b0 * 65536 + b1 * 256 + b2)], .bool true]) (by simp [results, Try.results8, go_sem]) rfl ⟨rfl, ?_⟩
  have hB : ∀ o1 o2 : Obj, Below w.heap.size w (((w.alloc o1).alloc o2).drewN (1 + nq)) := fun o1 o2 => (((Below.refl _ _).alloc (Nat.le_refl _) _).alloc (by simp) _).trans ⟨rfl, rfl, rfl, Nat.le_refl _, fun _ _ => rfl⟩
  exact (((hB _ _).setCell (by simp) _).setCell (by simp) _).setCell (by simp) _
set_option maxHeartbeats 1000000 in
theorem law_false (a1 a2 : Int) (s0 : 0 ≤ a1) (s1 : a1 ≤ 255) (h0 : 0 ≤ a2) (h1 : a2 < 4294967296) (w : World) :
    Calls Try.prog 3 #[.bool false, .int .u8 a1, .int .u32 a2] w fun e w' => e = .returned (.bool true) ∧ Below w.heap.size w w' := by
  have f1 : ((a1 % 4 * 64) % 2 != 0) = false := by
    have : (a1 % 4 * 64) % 2 = 0 := by omega
    rw [this]; rfl
  have f2 : (a1 % 4 * 64) / 64 = a1 % 4 := by omega
  have f3 : a2 / 65536 % 256 * 65536 + a2 / 256 % 256 * 256 + a2 % 256 = a2 % 16777216 := by omega
  go_enter Try.func3, Try.ntmps3
  go_wp2_with fail
  refine (community_false a1 a2 s0 s1 h0 h1 _).mono ?_
  rintro e wa ⟨rfl, hba⟩
  go_wp2_with fail
  refine (esi_any (a1 % 4 * 64) _ _ _ (by omega) (by omega) (by omega) (by omega) (by omega) (by omega) (by omega) (by omega) _).mono ?_
  rintro e wb ⟨rfl, hbb⟩
  rw [f1, f2, f3]
  have hB : Below w.heap.size w wb := (((Below.refl _ _).alloc (Nat.le_refl _) _).trans (hba.mono (by simp))).trans (hbb.mono (by have := hba.size; simp at this; omega))
  clear hba hbb f1 f2 f3
  go_wp2
  go_ret
  have hz := hB.size
  exact ⟨rfl, (hB.alloc hz _).alloc (by simp; omega) _⟩

set_option maxHeartbeats 1000000 in
theorem law_true (a1 a2 : Int) (s0 : 0 ≤ a1) (s1 : a1 ≤ 255) (h0 : 0 ≤ a2) (h1 : a2 < 4294967296) (w : World) :
    Calls Try.prog 3 #[.bool true, .int .u8 a1, .int .u32 a2] w fun e w' => e = .returned (.bool true) ∧ Below w.heap.size w w' := by
  have f1 : ((a1 % 4 * 64 + 1) % 2 != 0) = true := by
    have : (a1 % 4 * 64 + 1) % 2 = 1 := by omega
    rw [this]; rfl
  have f2 : (a1 % 4 * 64 + 1) / 64 = a1 % 4 := by omega
  have f3 : a2 / 65536 % 256 * 65536 + a2 / 256 % 256 * 256 + a2 % 256 = a2 % 16777216 := by omega
  go_enter Try.func3, Try.ntmps3
  go_wp2_with fail
  refine (community_true a1 a2 s0 s1 h0 h1 _).mono ?_
  rintro e wa ⟨rfl, hba⟩
  go_wp2_with fail
  refine (esi_any (a1 % 4 * 64 + 1) _ _ _ (by omega) (by omega) (by omega) (by omega) (by omega) (by omega) (by omega) (by omega) _).mono ?_
  rintro e wb ⟨rfl, hbb⟩
  rw [f1, f2, f3]
  have hB : Below w.heap.size w wb := (((Below.refl _ _).alloc (Nat.le_refl _) _).trans (hba.mono (by simp))).trans (hbb.mono (by have := hba.size; simp at this; omega))
  clear hba hbb f1 f2 f3
  go_wp2
  go_ret
  have hz := hB.size
  exact ⟨rfl, (hB.alloc hz _).alloc (by simp; omega) _⟩

end Go.Proofs.Qxb6602586a
