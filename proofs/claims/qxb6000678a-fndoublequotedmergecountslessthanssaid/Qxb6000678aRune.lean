/-
  zzEncodeRune and FnLineBreakOfRune WALKED over every input.
-/
import Derived.Test.Qxb6000678aBreak
namespace Go.Proofs.Qxb6000678a
open Go.RowKit

/-- The UTF-8 of r. -/
def encR (r : Nat) : List Nat :=
  if r < 128 then [r] else if r < 2048 then [192 + r / 64, 128 + r % 64] else if r < 65536 then [224 + r / 4096, 128 + r / 64 % 64, 128 + r % 64]
  else [240 + r / 262144, 128 + r / 4096 % 64, 128 + r / 64 % 64, 128 + r % 64]

theorem i32_and63 (n : Int) : bits .and .i32 n 63 = n % 64 := by
  have h63 : (BitVec.ofInt 32 63).toNat = 2 ^ 6 - 1 := by decide
  have key : (BitVec.ofInt 32 n &&& BitVec.ofInt 32 63).toNat = (n % ((2 ^ 32 : Nat) : Int)).toNat % 2 ^ 6 := by
    rw [BitVec.toNat_and, BitVec.toNat_ofInt, h63, Nat.and_two_pow_sub_one_eq_mod]
  show IntKind.i32.wrap ((BitVec.ofInt 32 n &&& BitVec.ofInt 32 63).toNat : Nat) = n % 64
  rw [key, IntKind.wrap_i32]
  omega
theorem or_head (h k : Nat) (x : Int) (hh : h < 256) (hk : h % 2 ^ k = 0) (h0 : 0 ≤ x) (h1 : x < ((2 ^ k : Nat) : Int)) (h2 : x < 256) : bits .or .u8 (h : Int) x = (h : Int) + x := by
  obtain ⟨y, rfl⟩ := Int.eq_ofNat_of_zero_le h0
  rw [u8_or_nat h y hh (by omega), nat_join k h y hk (by omega)]
  omega

set_option maxRecDepth 100000 in
theorem enc1 (r : Nat) (w : World) (h : r < 128) : Calls Try.prog 19 #[.int .i32 (r : Int)] w fun e w' => e = .returned (.slice (some ⟨w.heap.size, 0, none⟩) 1 1) ∧ w' = w.alloc (.cells #[.int .u8 (r : Int)] 5) := by
  go_enter Try.func19, Try.ntmps19
  go_wp2
  go_ret
  exact ⟨rfl, rfl⟩
set_option maxRecDepth 100000 in
theorem enc2 (r : Nat) (w : World) (h : 128 ≤ r) (h' : r < 2048) : Calls Try.prog 19 #[.int .i32 (r : Int)] w fun e w' => e = .returned (.slice (some ⟨w.heap.size, 0, none⟩) 2 2) ∧ w' = w.alloc (.cells #[.int .u8 (192 + (r : Int) / 64), .int .u8 (128 + (r : Int) % 64)] 5) := by
  have e1 := i32_and63 (r : Int)
  have e2 : bits .or .u8 192 ((r : Int) / 64) = 192 + (r : Int) / 64 := or_head 192 6 _ (by decide) (by decide) (by omega) (by simp; omega) (by omega)
  have e3 : bits .or .u8 128 ((r : Int) % 64) = 128 + (r : Int) % 64 := or_head 128 7 _ (by decide) (by decide) (by omega) (by simp; omega) (by omega)
  go_enter Try.func19, Try.ntmps19
  go_wp2
  go_ret
  exact ⟨rfl, rfl⟩
set_option maxRecDepth 100000 in
theorem enc3 (r : Int) (w : World) (h : 2048 ≤ r) (h' : r < 65536) : Calls Try.prog 19 #[.int .i32 r] w fun e w' => e = .returned (.slice (some ⟨w.heap.size, 0, none⟩) 3 3) ∧ w' = w.alloc (.cells #[.int .u8 (224 + r / 4096), .int .u8 (128 + r / 64 % 64), .int .u8 (128 + r % 64)] 5) := by
  have e1 := i32_and63 r
  have e1' := i32_and63 (r / 64)
  have e2 : bits .or .u8 224 (r / 4096) = 224 + r / 4096 := or_head 224 4 _ (by decide) (by decide) (by omega) (by simp; omega) (by omega)
  have e3 : bits .or .u8 128 (r % 64) = 128 + r % 64 := or_head 128 7 _ (by decide) (by decide) (by omega) (by simp; omega) (by omega)
  have e4 : bits .or .u8 128 (r / 64 % 64) = 128 + r / 64 % 64 := or_head 128 7 _ (by decide) (by decide) (by omega) (by simp; omega) (by omega)
  go_enter Try.func19, Try.ntmps19
  go_wp2
  go_ret
  exact ⟨rfl, rfl⟩
set_option maxRecDepth 100000 in
theorem enc4 (r : Int) (w : World) (h : 65536 ≤ r) (h' : r ≤ 1114111) : Calls Try.prog 19 #[.int .i32 r] w fun e w' => e = .returned (.slice (some ⟨w.heap.size, 0, none⟩) 4 4) ∧ w' = w.alloc (.cells #[.int .u8 (240 + r / 262144), .int .u8 (128 + r / 4096 % 64), .int .u8 (128 + r / 64 % 64), .int .u8 (128 + r % 64)] 5) := by
  have e1 := i32_and63 r
  have e1' := i32_and63 (r / 64)
  have e1'' := i32_and63 (r / 4096)
  have e2 : bits .or .u8 240 (r / 262144) = 240 + r / 262144 := or_head 240 4 _ (by decide) (by decide) (by omega) (by simp; omega) (by omega)
  have e3 : bits .or .u8 128 (r % 64) = 128 + r % 64 := or_head 128 7 _ (by decide) (by decide) (by omega) (by simp; omega) (by omega)
  have e4 : bits .or .u8 128 (r / 64 % 64) = 128 + r / 64 % 64 := or_head 128 7 _ (by decide) (by decide) (by omega) (by simp; omega) (by omega)
  have e5 : bits .or .u8 128 (r / 4096 % 64) = 128 + r / 4096 % 64 := or_head 128 7 _ (by decide) (by decide) (by omega) (by simp; omega) (by omega)
  go_enter Try.func19, Try.ntmps19
  go_wp2
  go_ret
  exact ⟨rfl, rfl⟩

theorem enc_owns (w : World) (l : List Nat) (cs : Array Value) (hl : l.length ≤ 4) (hcs : cs = (B8 l).toArray) : (w.alloc (.cells cs 5)).ownsRow w.heap.size 5 1 (.slice (some ⟨w.heap.size, 0, none⟩) l.length l.length) l.length (B8 l) ∧ Below w.heap.size w (w.alloc (.cells cs 5)) := by
  subst hcs
  have h := World.ownsRow_lit (base := w.heap.size) (e := 5) (size := 1) w (B8 l).toArray l.length (Nat.le_refl _) (by unfold maxLen; omega) (by simp [B8])
  exact ⟨by simpa using h, (Below.refl _ _).alloc (Nat.le_refl _) _⟩

theorem enc_any (r : Nat) (w : World) (h : r ≤ 1114111) : Calls Try.prog 19 #[.int .i32 (r : Int)] w fun e w' => e = .returned (.slice (some ⟨w.heap.size, 0, none⟩) (encR r).length (encR r).length) ∧ w'.ownsRow w.heap.size 5 1 (.slice (some ⟨w.heap.size, 0, none⟩) (encR r).length (encR r).length) (encR r).length (B8 (encR r)) ∧ Below w.heap.size w w' := by
  unfold encR
  by_cases h1 : r < 128
  · rw [if_pos h1]
    refine (enc1 r w h1).mono ?_
    rintro e w' ⟨rfl, rfl⟩
    exact ⟨rfl, enc_owns w [r] _ (by simp) (by simp [B8])⟩
  · rw [if_neg h1]
    by_cases h2 : r < 2048
    · rw [if_pos h2]
      refine (enc2 r w (by omega) h2).mono ?_
      rintro e w' ⟨rfl, rfl⟩
      exact ⟨rfl, enc_owns w [192 + r / 64, 128 + r % 64] _ (by simp) (by simp [B8])⟩
    · rw [if_neg h2]
      by_cases h3 : r < 65536
      · rw [if_pos h3]
        refine (enc3 r w (by omega) (by omega)).mono ?_
        rintro e w' ⟨rfl, rfl⟩
        exact ⟨rfl, enc_owns w [224 + r / 4096, 128 + r / 64 % 64, 128 + r % 64] _ (by simp) (by simp [B8])⟩
      · rw [if_neg h3]
        refine (enc4 r w (by omega) (by omega)).mono ?_
        rintro e w' ⟨rfl, rfl⟩
        exact ⟨rfl, enc_owns w [240 + r / 262144, 128 + r / 4096 % 64, 128 + r / 64 % 64, 128 + r % 64] _ (by simp) (by simp [B8])⟩

/-! ### the plain law -/
theorem lb1 (a : Nat) (t : List Nat) : lb ([a] ++ t) = lbx a (t.getD 0 0) (t.getD 1 0) := rfl
theorem lb2 (a b : Nat) (t : List Nat) : lb ([a, b] ++ t) = lbx a b (t.getD 0 0) := rfl
theorem lb3 (a b c : Nat) (t : List Nat) : lb ([a, b, c] ++ t) = lbx a b c := rfl
theorem lb4 (a b c d : Nat) (t : List Nat) : lb ([a, b, c, d] ++ t) = lbx a b c := rfl
theorem lb_rune_cr (tl : List Nat) : lb (encR 13 ++ tl) = if tl.getD 0 0 = 10 then 2 else 1 := by
  show lb ([13] ++ tl) = _
  rw [lb1]; rfl
theorem lb_rune (r : Nat) (tl : List Nat) (h : r ≤ 1114111) (h13 : r ≠ 13) : lb (encR r ++ tl) = if r = 10 ∨ r = 133 ∨ r = 8232 ∨ r = 8233 then (encR r).length else 0 := by
  unfold encR
  by_cases h1 : r < 128
  · rw [if_pos h1, lb1]
    by_cases e : r = 10
    · subst e; rfl
    · rw [if_neg (by omega)]
      unfold lbx
      rw [if_neg e, if_neg h13, if_neg (by omega), if_neg (by omega)]
  · rw [if_neg h1]
    by_cases h2 : r < 2048
    · rw [if_pos h2, lb2]
      by_cases e : r = 133
      · subst e; rfl
      · rw [if_neg (by omega)]
        unfold lbx
        rw [if_neg (by omega), if_neg (by omega)]
        split
        · rw [if_neg (by omega)]
        · rw [if_neg (by omega)]
    · rw [if_neg h2]
      by_cases h3 : r < 65536
      · rw [if_pos h3, lb3]
        by_cases e : r = 8232
        · subst e; rfl
        · by_cases e' : r = 8233
          · subst e'; rfl
          · rw [if_neg (by omega)]
            unfold lbx
            rw [if_neg (by omega), if_neg (by omega), if_neg (by omega)]
            split
            · rw [if_neg (by omega)]
            · rfl
      · rw [if_neg h3, if_neg (by omega), lb4]
        unfold lbx
        rw [if_neg (by omega), if_neg (by omega), if_neg (by omega), if_neg (by omega)]

/-! ### the walk of the law -/
theorem nats8 {ys : List Int} (h : ∀ n ∈ ys, (Lit.int .u8 n).wf = true) : ∃ tl : List Nat, ys.map (Value.int .u8) = B8 tl ∧ tl.length = ys.length ∧ ∀ i, tl.getD i 0 < 256 := by
  refine ⟨ys.map Int.toNat, ?_, by simp, fun i => ?_⟩
  · unfold B8
    rw [List.map_map]
    apply List.map_congr_left
    intro n hn
    have := bounds_u8 (h n hn)
    simp only [Function.comp]
    rw [Int.toNat_of_nonneg (by omega)]
  · by_cases hi : i < ys.length
    · have := bounds_u8 (h ys[i] (List.getElem_mem hi))
      simp [List.getD, hi]; omega
    · simp [List.getD, hi]

theorem clone_nat (a : Option Addr) (n c : Nat) (ys : List Int) (tl : List Nat) (w : World) (h : RowIn .u8 w a n c ys) (hn : n ≤ 1048576) (ht : ys.map (Value.int .u8) = B8 tl) :
    Calls Try.prog 13 #[.slice a n c] w fun e w' => ∃ av cv, e = .returned (.slice av n cv) ∧ w'.ownsRow w.heap.size 5 1 (.slice av n cv) n (B8 tl) ∧ (av = none → n = 0 ∧ cv = 0) ∧ Below w.heap.size w w' := by
  refine (clone_any a n c ys w h hn).mono ?_
  rintro e w' ⟨av, cv, rfl, hown, _, hb⟩
  rw [ht] at hown
  refine ⟨av, cv, rfl, hown, ?_, hb⟩
  rcases hown.2 with ⟨h, hz⟩ | ⟨g', cap', cur, h, _, _, hle, _⟩
  · simp at h; exact fun _ => ⟨by omega, h.2.2⟩
  · simp at h; exact fun e => by rw [e] at h; simp at h

theorem lb_at (ao : Option Addr) (n c : Nat) (t : List Nat) (w : World) (hl : t.length = n) (hn : n ≤ 4611686018427387904) (h : Rd w ao t) :
    Calls Try.prog 14 #[.slice ao n c] w fun e w' => e = .returned (.int .i64 ((lb t : Nat) : Int)) ∧ w = w' := by
  subst hl; exact lb_any ao c t w hn h

theorem ownsRow_below {w w' : World} {base : Nat} {e : TypeId} {v : Value} {n : Nat} {xs : List Value} (h : w.ownsRow base e 1 v n xs) (hb : Below w.heap.size w w') : w'.ownsRow base e 1 v n xs := by
  refine ⟨h.1, ?_⟩
  rcases h.2 with h2 | ⟨g, cap, cur, hv, hbase, hg, r⟩
  · exact .inl h2
  · refine .inr ⟨g, cap, cur, hv, hbase, ?_, r⟩
    rw [hb.block g (Array.getElem?_eq_some_iff.1 hg).1]; exact hg

theorem zz18_over (r : Int) (a : Option Addr) (n c : Nat) (w : World) (hn : n ≤ 9223372036854775807) (h : 1048576 < n) : Calls Try.prog 18 #[.int .i32 r, .slice a n c] w fun e w' => e = .returned (.bool false) ∧ w = w' := by
  go_enter Try.func18, Try.ntmps18
  go_wp2
  go_ret
  exact ⟨rfl, rfl⟩
theorem zz18_small (r : Int) (a : Option Addr) (n c : Nat) (w : World) (h : n ≤ 1048576) : Calls Try.prog 18 #[.int .i32 r, .slice a n c] w fun e w' => e = .returned (.bool true) ∧ w = w' := by
  go_enter Try.func18, Try.ntmps18
  go_wp2
  go_ret
  exact ⟨rfl, rfl⟩

set_option maxRecDepth 100000 in
theorem rune_over (r : Int) (a : Option Addr) (n c : Nat) (w : World) (hn : n ≤ 9223372036854775807) (h : 1048576 < n) : Calls Try.prog 5 #[.int .i32 r, .slice a n c] w fun e w' => e = .returned (.bool true) ∧ Below w.heap.size w w' := by
  go_enter Try.func5, Try.ntmps5
  go_wp2_with (go_at_call 18; refine (zz18_over _ _ _ _ _ hn h).mono ?_; rintro e w' ⟨rfl, rfl⟩)
  go_ret
  exact ⟨rfl, Below.refl _ _⟩
set_option maxRecDepth 100000 in
theorem rune_out (r : Int) (a : Option Addr) (n c : Nat) (w : World) (h : n ≤ 1048576) (hr : r < 0 ∨ 1114111 < r) : Calls Try.prog 5 #[.int .i32 r, .slice a n c] w fun e w' => e = .returned (.bool true) ∧ Below w.heap.size w w' := by
  rcases hr with hr | hr
  · go_enter Try.func5, Try.ntmps5
    go_wp2_with (go_at_call 18; refine (zz18_small _ _ _ _ _ h).mono ?_; rintro e w' ⟨rfl, rfl⟩)
    go_ret
    exact ⟨rfl, Below.refl _ _⟩
  · have hr' : ¬ r < 0 := by omega
    go_enter Try.func5, Try.ntmps5
    go_wp2_with (go_at_call 18; refine (zz18_small _ _ _ _ _ h).mono ?_; rintro e w' ⟨rfl, rfl⟩)
    go_ret
    exact ⟨rfl, Below.refl _ _⟩

set_option maxHeartbeats 2000000 in
set_option maxRecDepth 100000 in
theorem rune_in (r : Nat) (a : Option Addr) (n c : Nat) (ys : List Int) (w : World) (h : RowIn .u8 w a n c ys) (hn : n ≤ 1048576) (hr : (r : Int) ≤ 1114111) : Calls Try.prog 5 #[.int .i32 (r : Int), .slice a n c] w fun e w' => e = .returned (.bool true) ∧ Below w.heap.size w w' := by
  obtain ⟨tl, ht, htl, ht256⟩ := nats8 h.2.2.2.2.2
  have HT : Hid (ys.map (Value.int .u8) = B8 tl) := ht
  have HL : Hid (tl.length = n) := by show _ = _; rw [htl, h.1]
  have H0 : Hid (RowIn .u8 w a n c ys) := h
  clear h ht htl
  have hr0 : ¬ (r : Int) < 0 := by omega
  have hm : (encR r).length ≤ 4 := by unfold encR; (repeat' split) <;> simp
  have HM : Hid ((encR r).length ≤ 4) := hm
  go_enter Try.func5, Try.ntmps5
  go_wp2_with (go_at_call 18; refine (zz18_small _ _ _ _ _ hn).mono ?_; rintro e w' ⟨rfl, rfl⟩)
  refine (clone_nat a n c ys tl _ H0.out hn HT.out).mono ?_
  rintro e wc ⟨av, cv, rfl, hown, hnone, hbc⟩
  have HO : Hid (wc.ownsRow w.heap.size 5 1 (.slice av n cv) n (B8 tl)) := hown
  have HN : Hid (av = none → n = 0 ∧ cv = 0) := hnone
  clear hown hnone
  go_wp2_with fail
  refine (enc_any r _ (by omega)).mono ?_
  rintro e we ⟨rfl, howe, hbe⟩
  have hot : we.ownsRow w.heap.size 5 1 (.slice av n cv) n (B8 tl) := ownsRow_below HO.out hbe
  have HOE : Hid (we.ownsRow wc.heap.size 5 1 (.slice (some ⟨wc.heap.size, 0, none⟩) (encR r).length (encR r).length) (encR r).length (B8 (encR r))) := howe
  have HOT : Hid (we.ownsRow w.heap.size 5 1 (.slice av n cv) n (B8 tl)) := hot
  clear hot howe HO
  go_wp2_with fail
  refine (concat_any _ _ _ _ _ _ (encR r) tl we rfl HL.out (by simp) HN.out (Rd.owns HOE.out) (Rd.owns HOT.out) (by omega)).mono ?_
  rintro e wk ⟨g, cc, rfl, howk, hbk⟩
  have HOK : Hid (Rd wk (some ⟨g, 0, none⟩) (encR r ++ tl)) := Rd.owns howk
  clear howk
  go_wp2_with fail
  refine (lb_at _ _ _ (encR r ++ tl) _ (by rw [List.length_append, HL.out]) (by omega) HOK.out).mono ?_
  rintro e w' ⟨rfl, rfl⟩
  have hB : Below w.heap.size w wk := (hbc.trans (hbe.mono hbc.size)).trans (hbk.mono (Nat.le_trans hbc.size hbe.size))
  have hott : wk.ownsRow w.heap.size 5 1 (.slice av n cv) n (B8 tl) := ownsRow_below HOT.out hbk
  have HOK2 : Hid (wk.ownsRow w.heap.size 5 1 (.slice av n cv) n (B8 tl)) := hott
  clear hott hbk hbe hbc HOE HOT H0
  by_cases h13 : r = 13
  · subst h13
    rw [lb_rune_cr]
    by_cases hp : n = 0
    · have hz : tl.getD 0 0 = 0 := by have := HL.out; simp [List.getD, List.eq_nil_of_length_eq_zero (show tl.length = 0 by omega)]
      rw [if_neg (by rw [hz]; decide)]
      have hp' : ¬ (0 : Int) < (n : Int) := by omega
      clear hz
      go_wp2
      go_ret
      exact ⟨rfl, hB⟩
    · obtain ⟨gt, ct, hv, _, _⟩ := (HOK2.out).form (by omega)
      obtain ⟨rfl, rfl⟩ : av = some ⟨gt, 0, none⟩ ∧ cv = ct := by simp at hv; exact hv
      have k0 : wk.cell? ⟨gt, 0, none⟩ = some (.int .u8 ((tl.getD 0 0 : Nat) : Int)) := by
        rw [(HOK2.out).cellAt 0 (by omega), B8_at tl 0 (by rw [HL.out]; omega)]
      have hp' : (0 : Int) < (n : Int) := by omega
      clear hv
      by_cases h10 : tl.getD 0 0 = 10
      · rw [if_pos h10]
        rw [h10] at k0
        clear h10
        go_wp2
        go_ret
        exact ⟨rfl, hB⟩
      · rw [if_neg h10]
        have t1 : (((tl.getD 0 0 : Nat) : Int) == 10) = false := by rw [beq_eq_false_iff_ne]; omega
        generalize tl.getD 0 0 = x at k0 t1 h10
        clear h10
        go_wp2
        go_ret
        exact ⟨rfl, hB⟩
  · rw [lb_rune r tl (by omega) h13]
    have t13 : ((r : Int) == 13) = false := by rw [beq_eq_false_iff_ne]; omega
    by_cases hsp : r = 10 ∨ r = 133 ∨ r = 8232 ∨ r = 8233
    · rw [if_pos hsp]
      rcases hsp with rfl | rfl | rfl | rfl
      all_goals
        go_wp2
        go_ret
        exact ⟨rfl, hB⟩
    · rw [if_neg hsp]
      have t1 : ((r : Int) == 10) = false := by rw [beq_eq_false_iff_ne]; omega
      have t2 : ((r : Int) == 133) = false := by rw [beq_eq_false_iff_ne]; omega
      have t3 : ((r : Int) == 8232) = false := by rw [beq_eq_false_iff_ne]; omega
      have t4 : ((r : Int) == 8233) = false := by rw [beq_eq_false_iff_ne]; omega
      clear hsp h13
      go_wp2
      go_ret
      exact ⟨rfl, hB⟩

theorem rune_any (r : Int) (a : Option Addr) (n c : Nat) (ys : List Int) (w : World) (h : RowIn .u8 w a n c ys) : Calls Try.prog 5 #[.int .i32 r, .slice a n c] w fun e w' => e = .returned (.bool true) ∧ Below w.heap.size w w' := by
  by_cases hov : 1048576 < n
  · obtain ⟨_, p2, p3, _⟩ := h
    unfold maxLen at p3
    exact rune_over r a n c w (by omega) hov
  · by_cases hr : r < 0 ∨ 1114111 < r
    · exact rune_out r a n c w (by omega) hr
    · obtain ⟨r', rfl⟩ := Int.eq_ofNat_of_zero_le (show 0 ≤ r by omega)
      exact rune_in r' a n c ys w h (by omega) (by omega)
end Go.Proofs.Qxb6000678a
