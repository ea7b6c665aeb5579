/-
  zzlaws_dns_b1.FnAppendTypeBitMapsDecodes WALKED over every input: too long ones, an empty list, any other.
-/
import Derived.Test.Qxb6000092aMaps
namespace Go.Proofs.Qxb6000092a
open Go.RowKit

set_option maxHeartbeats 4000000 in
set_option maxRecDepth 100000 in
theorem law_zero (a0 : Option Addr) (n0 c0 : Nat) (ys : List Int) (a1 : Option Addr) (c1 : Nat) (w : World) (h0 : RowIn .u8 w a0 n0 c0 ys) (hn : n0 ≤ 1048576) :
    Calls Try.prog 3 #[.slice a0 n0 c0, .slice a1 0 c1] w fun e w' => e = .returned (.bool true) ∧ Below w.heap.size w w' := by
  have H0 : Hid (RowIn .u8 w a0 n0 c0 ys) := h0
  clear h0
  have q1 := ne_nil23
  obtain ⟨i8, hi8, y80, y81, y82⟩ := info_parts Try.info28
  cases a1 with
  | none =>
    go_enter Try.func3, Try.ntmps3
    go_wp2_with (go_at_call 8; refine (zz_small _ _ _ _ _ _ _ (by omega)).mono ?_; rintro e w' ⟨rfl, rfl⟩)
    refine wp_loop_rounds 1 ?_
    rw [rounds_succ]
    go_wp2_with fail
    refine (clone_any a0 n0 c0 ys _ H0.out (by omega)).mono ?_
    rintro e wc ⟨av, cv, rfl, hown, hfull, hbc⟩
    have HO : Hid (wc.ownsRow w.heap.size 5 1 (.slice av n0 cv) n0 (ys.map (Value.int .u8))) := hown
    clear hown hfull
    go_wp2_with fail
    refine (zzenc_empty _ _ _ _).mono ?_
    rintro e w' ⟨rfl, rfl⟩
    go_wp2_with fail
    refine (hasPrefix_any _ _ _ _ _ _ ys _ (Nat.le_refl _) (by omega) ?_).mono ?_
    · intro hp
      obtain ⟨kb, cb, hv, _, hkl⟩ := (HO.out).form hp
      have hav : av = some ⟨kb, 0, none⟩ := by simp at hv; exact hv.1
      subst hav
      have hyl : ys.length = n0 := by have := (HO.out).1; simpa using this
      have hc : ∀ i, i < n0 → wc.cell? ⟨kb, 0 + i, none⟩ = some (.int .u8 (ys.getD i 0)) := fun i hi => by
        rw [Nat.zero_add, (HO.out).cellAt i (by omega)]
        simp [List.getD, show i < ys.length by omega]
      exact ⟨kb, 0, kb, 0, rfl, rfl, hc, hc⟩
    rintro e wH ⟨rfl, nH, rfl⟩
    have hcv : n0 ≤ cv ∧ (av = none → n0 = 0 ∧ cv = 0) := by
      rcases (HO.out).2 with ⟨h, hz⟩ | ⟨g', cap', cur, h, _, _, hle, _⟩
      · simp at h; exact ⟨by omega, fun _ => ⟨by omega, h.2.2⟩⟩
      · simp at h; exact ⟨by omega, fun e => by rw [e] at h; simp at h⟩
    obtain ⟨hcv1, hcv2⟩ := hcv
    clear HO
    cases av with
    | none =>
      obtain ⟨rfl, rfl⟩ := hcv2 rfl
      clear hcv2
      go_wp2
      iterate 3 (refine wp_loop_rounds 1 ?_; rw [rounds_succ]; go_wp2)
      go_ret
      exact ⟨rfl, drewN_below hbc _⟩
    | some aa =>
      clear hcv2
      by_cases hfullc : cv = n0
      · subst hfullc
        go_wp2
        iterate 3 (refine wp_loop_rounds 1 ?_; rw [rounds_succ]; go_wp2)
        go_ret
        exact ⟨rfl, drewN_below hbc _⟩
      · go_wp2
        iterate 3 (refine wp_loop_rounds 1 ?_; rw [rounds_succ]; go_wp2)
        go_ret
        exact ⟨rfl, drewN_below hbc _⟩
  | some ad =>
    go_enter Try.func3, Try.ntmps3
    go_wp2_with (go_at_call 8; refine (zz_small _ _ _ _ _ _ _ (by omega)).mono ?_; rintro e w' ⟨rfl, rfl⟩)
    refine wp_loop_rounds 1 ?_
    rw [rounds_succ]
    go_wp2_with fail
    refine (clone_any a0 n0 c0 ys _ H0.out (by omega)).mono ?_
    rintro e wc ⟨av, cv, rfl, hown, hfull, hbc⟩
    have HO : Hid (wc.ownsRow w.heap.size 5 1 (.slice av n0 cv) n0 (ys.map (Value.int .u8))) := hown
    clear hown hfull
    go_wp2_with (at_make; refine wpList_make_full _ rfl _ _ 27 rfl wc.heap.size 28 i8 (.int .u16 0) 1 Try.underlying27 hi8 y80 y81 _ _ _ _ 0 rfl rfl rfl rfl (by omega) (by unfold maxLen; omega) (Nat.le_refl _) ?_; intro wt hownt hgrowt)
    refine wp_loop_rounds 1 ?_
    rw [rounds_succ]
    go_wp2_with fail
    refine (zzenc_empty _ _ _ _).mono ?_
    rintro e w' ⟨rfl, rfl⟩
    have hbt : Below wc.heap.size wc wt := (Below.refl _ _).grown hgrowt (Nat.le_refl _) (by simp)
    have hbw : Below w.heap.size w wt := hbc.trans (hbt.mono hbc.size)
    clear hownt hgrowt
    go_wp2_with fail
    refine (hasPrefix_any _ _ _ _ _ _ ys _ (Nat.le_refl _) (by omega) ?_).mono ?_
    · intro hp
      obtain ⟨kb, cb, hv, _, hkl⟩ := (HO.out).form hp
      have hav : av = some ⟨kb, 0, none⟩ := by simp at hv; exact hv.1
      subst hav
      have hyl : ys.length = n0 := by have := (HO.out).1; simpa using this
      have hc : ∀ i, i < n0 → wt.cell? ⟨kb, 0 + i, none⟩ = some (.int .u8 (ys.getD i 0)) := fun i hi => by
        rw [hbt.cell (by exact hkl)]
        rw [Nat.zero_add, (HO.out).cellAt i (by omega)]
        simp [List.getD, show i < ys.length by omega]
      exact ⟨kb, 0, kb, 0, rfl, rfl, hc, hc⟩
    rintro e wH ⟨rfl, nH, rfl⟩
    have hcv : n0 ≤ cv ∧ (av = none → n0 = 0 ∧ cv = 0) := by
      rcases (HO.out).2 with ⟨h, hz⟩ | ⟨g', cap', cur, h, _, _, hle, _⟩
      · simp at h; exact ⟨by omega, fun _ => ⟨by omega, h.2.2⟩⟩
      · simp at h; exact ⟨by omega, fun e => by rw [e] at h; simp at h⟩
    obtain ⟨hcv1, hcv2⟩ := hcv
    clear HO
    cases av with
    | none =>
      obtain ⟨rfl, rfl⟩ := hcv2 rfl
      clear hcv2
      go_wp2
      iterate 3 (refine wp_loop_rounds 1 ?_; rw [rounds_succ]; go_wp2)
      go_ret
      exact ⟨rfl, drewN_below hbw _⟩
    | some aa =>
      clear hcv2
      by_cases hfullc : cv = n0
      · subst hfullc
        go_wp2
        iterate 3 (refine wp_loop_rounds 1 ?_; rw [rounds_succ]; go_wp2)
        go_ret
        exact ⟨rfl, drewN_below hbw _⟩
      · go_wp2
        iterate 3 (refine wp_loop_rounds 1 ?_; rw [rounds_succ]; go_wp2)
        go_ret
        exact ⟨rfl, drewN_below hbw _⟩

theorem zz_over (a b : Option Addr) (n c m d : Nat) (w : World) (hn : n ≤ 9223372036854775807) (hm : m ≤ 9223372036854775807) (h : 1048576 < n + m) :
    Calls Try.prog 8 #[.slice a n c, .slice b m d] w fun e w' => e = .returned (.bool false) ∧ w = w' := by
  by_cases h1 : 1048576 < n
  · go_enter Try.func8, Try.ntmps8
    go_wp2
    go_ret
    exact ⟨rfl, rfl⟩
  · by_cases h2 : 1048576 < m
    · go_enter Try.func8, Try.ntmps8
      go_wp2
      go_ret
      exact ⟨rfl, rfl⟩
    · go_enter Try.func8, Try.ntmps8
      go_wp2
      go_ret
      exact ⟨rfl, rfl⟩

set_option maxRecDepth 100000 in
theorem law_over (a0 a1 : Option Addr) (n0 c0 n1 c1 : Nat) (w : World) (hn : n0 ≤ 9223372036854775807) (hm : n1 ≤ 9223372036854775807) (h : 1048576 < n0 + 2 * n1) :
    Calls Try.prog 3 #[.slice a0 n0 c0, .slice a1 n1 c1] w fun e w' => e = .returned (.bool true) ∧ Below w.heap.size w w' := by
  by_cases h1 : 1048576 < n0 + n1
  · go_enter Try.func3, Try.ntmps3
    go_wp2_with (go_at_call 8; refine (zz_over _ _ _ _ _ _ _ hn hm h1).mono ?_; rintro e w' ⟨rfl, rfl⟩)
    go_ret
    exact ⟨rfl, Below.refl _ _⟩
  · go_enter Try.func3, Try.ntmps3
    go_wp2_with (go_at_call 8; refine (zz_small _ _ _ _ _ _ _ (by omega)).mono ?_; rintro e w' ⟨rfl, rfl⟩)
    go_ret
    exact ⟨rfl, Below.refl _ _⟩

theorem nats_of {ys : List Int} (h : ∀ n ∈ ys, (Lit.int .u16 n).wf = true) : ∃ xs : List Nat, xs.length = ys.length ∧ (∀ i, xs.getD i 0 < 65536) ∧ ∀ i, ys.getD i 0 = ((xs.getD i 0 : Nat) : Int) := by
  refine ⟨ys.map Int.toNat, by simp, fun i => ?_, fun i => ?_⟩
  · by_cases hi : i < ys.length
    · have := bounds_u16 (h ys[i] (List.getElem_mem hi))
      simp [List.getD, hi]; omega
    · simp [List.getD, hi]
  · by_cases hi : i < ys.length
    · have := bounds_u16 (h ys[i] (List.getElem_mem hi))
      simp [List.getD, hi]; omega
    · simp [List.getD, hi]

theorem law_any (a0 a1 : Option Addr) (n0 c0 n1 c1 : Nat) (y0 y1 : List Int) (w : World) (h0 : RowIn .u8 w a0 n0 c0 y0) (h1 : RowIn .u16 w a1 n1 c1 y1) :
    Calls Try.prog 3 #[.slice a0 n0 c0, .slice a1 n1 c1] w fun e w' => e = .returned (.bool true) ∧ Below w.heap.size w w' := by
  by_cases hov : 1048576 < n0 + 2 * n1
  · obtain ⟨_, p2, p3, _⟩ := h0
    obtain ⟨_, q2, q3, _⟩ := h1
    unfold maxLen at p3 q3
    exact law_over a0 a1 n0 c0 n1 c1 w (by omega) (by omega) hov
  · obtain ⟨g1, _, _, _, g5, g6⟩ := h1
    by_cases hz : n1 = 0
    · subst hz
      exact law_zero a0 n0 c0 y0 a1 c1 w h0 (by omega)
    · obtain ⟨b, off, rfl, hlt, hc⟩ := g5 (by omega)
      obtain ⟨xs, e1, e2, e3⟩ := nats_of g6
      exact law_pos a0 n0 c0 y0 b off n1 c1 xs w h0 (by omega) (by omega) e2 (fun i hi => by rw [hc i hi, e3 i]) hlt (by omega)

end Go.Proofs.Qxb6000092a
