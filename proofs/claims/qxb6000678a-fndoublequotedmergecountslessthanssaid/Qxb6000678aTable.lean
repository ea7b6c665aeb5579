/-
  zzBrk, zzHasPrefix, zzLongestBreak and FnLineBreakMatchesTable WALKED over every input.
-/
import Derived.Test.Qxb6000678aRune
namespace Go.Proofs.Qxb6000678a
open Go.RowKit

/-- The six breaks. -/
def brkL (k : Nat) : List Nat :=
  if k = 0 then [10] else if k = 1 then [13] else if k = 2 then [13, 10] else if k = 3 then [194, 133] else if k = 4 then [226, 128, 168] else [226, 128, 169]
theorem brkL_length (k : Nat) : 1 ≤ (brkL k).length ∧ (brkL k).length ≤ 3 := by unfold brkL; (repeat' split) <;> simp

theorem brk_core (b r : Nat) (w : World) (hr : b % 6 = r) : Calls Try.prog 21 #[.int .u8 (b : Int)] w fun e w' => e = .returned (.slice (some ⟨w.heap.size, 0, none⟩) (brkL r).length (brkL r).length) ∧ w' = w.alloc (.cells (B8 (brkL r)).toArray 5) := by
  have hr' : (b : Int) % 6 = (r : Int) := by omega
  have hlt : r < 6 := by omega
  clear hr
  obtain rfl | rfl | rfl | rfl | rfl | rfl : r = 0 ∨ r = 1 ∨ r = 2 ∨ r = 3 ∨ r = 4 ∨ r = 5 := by omega
  all_goals
    go_enter Try.func21, Try.ntmps21
    go_wp2
    go_ret
    exact ⟨rfl, rfl⟩

theorem brk_any (b : Nat) (w : World) : Calls Try.prog 21 #[.int .u8 (b : Int)] w fun e w' => e = .returned (.slice (some ⟨w.heap.size, 0, none⟩) (brkL (b % 6)).length (brkL (b % 6)).length) ∧ w'.ownsRow w.heap.size 5 1 (.slice (some ⟨w.heap.size, 0, none⟩) (brkL (b % 6)).length (brkL (b % 6)).length) (brkL (b % 6)).length (B8 (brkL (b % 6))) ∧ Below w.heap.size w w' := by
  refine (brk_core b (b % 6) w rfl).mono ?_
  rintro e w' ⟨rfl, rfl⟩
  exact ⟨rfl, enc_owns w _ _ (by have := (brkL_length (b % 6)).2; omega) rfl⟩

def pfx (t p : List Nat) : Bool := decide (p.length ≤ t.length ∧ ∀ i, i < p.length → t.getD i 0 = p.getD i 0)
theorem pfx_long {t p : List Nat} (h : t.length < p.length) : pfx t p = false := decide_eq_false (by omega)
theorem pfx_miss {t p : List Nat} {k : Nat} (hk : k < p.length) (h : t.getD k 0 ≠ p.getD k 0) : pfx t p = false := decide_eq_false fun e => h (e.2 k hk)
theorem pfx_hit {t p : List Nat} (h : p.length ≤ t.length) (h' : ∀ i, i < p.length → t.getD i 0 = p.getD i 0) : pfx t p = true := decide_eq_true ⟨h, h'⟩

set_option maxHeartbeats 1000000 in
theorem prefix_any (sb so sn sc pb po pn pc : Nat) (t p : List Nat) (w : World) (ht : t.length = sn) (hp : p.length = pn) (hs : sn ≤ 4611686018427387904) (_hpn : pn ≤ 4611686018427387904)
    (hcs : ∀ i, i < sn → w.cell? ⟨sb, so + i, none⟩ = some (.int .u8 ((t.getD i 0 : Nat) : Int))) (hcp : ∀ i, i < pn → w.cell? ⟨pb, po + i, none⟩ = some (.int .u8 ((p.getD i 0 : Nat) : Int))) :
    Calls Try.prog 30 #[.slice (some ⟨sb, so, none⟩) sn sc, .slice (some ⟨pb, po, none⟩) pn pc] w fun e w' => e = .returned (.bool (pfx t p)) ∧ ∃ n, w' = w.drewN n := by
  have HS : Hid (∀ i, i < sn → w.cell? ⟨sb, so + i, none⟩ = some (.int .u8 ((t.getD i 0 : Nat) : Int))) := hcs
  have HP : Hid (∀ i, i < pn → w.cell? ⟨pb, po + i, none⟩ = some (.int .u8 ((p.getD i 0 : Nat) : Int))) := hcp
  have HT : Hid (t.length = sn) := ht
  have HQ : Hid (p.length = pn) := hp
  clear hcs hcp ht hp
  by_cases hle : sn < pn
  · rw [pfx_long (by rw [HT.out, HQ.out]; exact hle)]
    go_enter Try.func30, Try.ntmps30
    go_wp2
    go_ret
    exact ⟨rfl, 0, rfl⟩
  · obtain ⟨R, hR⟩ : ∃ R, R = pfx t p := ⟨_, rfl⟩
    rw [← hR]
    have HRR : Hid (R = pfx t p) := hR
    clear hR
    go_enter Try.func30, Try.ntmps30
    go_wp2
    go_loopw [5] (fun i wr => ∃ k : Nat, k ≤ pn ∧ i = .int .i64 k ∧ Hid (∀ j, j < k → t.getD j 0 = p.getD j 0) ∧ ∃ n, wr = w.drewN n) (fun i _ => pn - (intOf i).toNat)
    case atStart => exact ⟨0, Nat.zero_le _, rfl, fun j hj => absurd hj (by omega), 0, rfl⟩
    case round =>
      obtain ⟨k, hk, rfl, HE, n, rfl⟩ := hrel
      by_cases hlt : k < pn
      · have c1 := HS.out k (by omega)
        have c2 := HP.out k hlt
        have e1 : (0 : Int) ≤ (k : Int) := by omega
        have e2 : (k : Int) < (pn : Int) := by omega
        have e3 : (k : Int) < (sn : Int) := by omega
        by_cases hx : t.getD k 0 = p.getD k 0
        · have HX : Hid (t.getD k 0 = p.getD k 0) := hx
          rw [hx] at c1
          clear hx
          generalize p.getD k 0 = x at c1 c2
          go_wp2
          go_quiet (fail)
          go_wp2
          go_roundw
          case rel =>
            refine ⟨k + 1, by omega, by go_num, fun j hj => ?_, _, rfl⟩
            by_cases h : j < k
            · exact HE.out j h
            · obtain rfl : j = k := by omega
              exact HX.out
          case measure => simp [intOf]; omega
        · have hRf : R = false := by rw [HRR.out]; exact pfx_miss (by rw [HQ.out]; exact hlt) hx
          generalize t.getD k 0 = x at c1 hx
          generalize p.getD k 0 = y at c2 hx
          have t1 : ((x : Int) != (y : Int)) = true := by simp; omega
          clear hx
          go_wp2
          go_quiet (fail)
          go_wp2
          go_ret
          rw [hRf]
          exact ⟨rfl, n + nq, by rw [World.drewN_drewN]⟩
      · have hRt : R = true := by rw [HRR.out]; exact pfx_hit (by rw [HT.out, HQ.out]; omega) (fun i hi => HE.out i (by rw [HQ.out] at hi; omega))
        go_wp2
        go_ret
        rw [hRt]
        exact ⟨rfl, n, rfl⟩

/-- The same where the text is empty. -/
theorem prefix_none (ao : Option Addr) (sc pb po pn pc : Nat) (w : World) (hp : 0 < pn) (_hpn : pn ≤ 4611686018427387904) : Calls Try.prog 30 #[.slice ao 0 sc, .slice (some ⟨pb, po, none⟩) pn pc] w fun e w' => e = .returned (.bool false) ∧ w = w' := by
  go_enter Try.func30, Try.ntmps30
  go_wp2
  go_ret
  exact ⟨rfl, rfl⟩
theorem prefix_rd (ao : Option Addr) (sn sc g pn pc : Nat) (t p : List Nat) (w : World) (ht : t.length = sn) (hs : sn ≤ 4611686018427387904) (hpos : 0 < p.length) (hp : p.length = pn) (hp3 : pn ≤ 3) (r1 : Rd w ao t) (r2 : Rd w (some ⟨g, 0, none⟩) p) :
    Calls Try.prog 30 #[.slice ao sn sc, .slice (some ⟨g, 0, none⟩) pn pc] w fun e w' => e = .returned (.bool (pfx t p)) ∧ ∃ n, w' = w.drewN n := by
  by_cases h0 : sn = 0
  · subst h0
    rw [pfx_long (by omega)]
    refine (prefix_none ao sc g 0 pn pc w (by omega) (by omega)).mono ?_
    rintro e w' ⟨rfl, rfl⟩
    exact ⟨rfl, 0, rfl⟩
  · obtain ⟨b, o, rfl, hc⟩ := r1 (by omega)
    obtain ⟨b', o', e, hc'⟩ := r2 hpos
    simp only [Option.some.injEq, Addr.mk.injEq, and_true] at e
    obtain ⟨rfl, rfl⟩ := e
    exact prefix_any b o sn sc g 0 pn pc t p w ht hp hs (by omega) (fun i hi => hc i (by omega)) (fun i hi => hc' i (by omega))

/-! ### the longest -/
def lon (t : List Nat) : Nat → Nat
  | 0 => 0
  | k + 1 => if pfx t (brkL k) = true ∧ lon t k < (brkL k).length then (brkL k).length else lon t k
theorem lon_le (t : List Nat) (k : Nat) : lon t k ≤ 3 := by
  induction k with
  | zero => simp [lon]
  | succ k ih => unfold lon; split; · exact (brkL_length k).2
                 · exact ih

theorem pfx1 (t : List Nat) (a : Nat) (ha : a ≠ 0) : pfx t [a] = decide (t.getD 0 0 = a) := by
  rw [Bool.eq_iff_iff, decide_eq_true_iff]
  unfold pfx
  rw [decide_eq_true_iff]
  constructor
  · rintro ⟨_, h⟩; exact h 0 (by simp)
  · intro h
    refine ⟨?_, fun i hi => ?_⟩
    · cases t with
      | nil => exact absurd h.symm ha
      | cons x s => simp
    · obtain rfl : i = 0 := by simp at hi; exact hi
      exact h
theorem lt_of_getD {t : List Nat} {i : Nat} (h : t.getD i 0 ≠ 0) : i < t.length := by
  rcases Nat.lt_or_ge i t.length with h' | h'
  · exact h'
  · exact absurd (by simp [List.getD, h']) h
theorem pfx2 (t : List Nat) (a b : Nat) (hb : b ≠ 0) : pfx t [a, b] = decide (t.getD 0 0 = a ∧ t.getD 1 0 = b) := by
  rw [Bool.eq_iff_iff, decide_eq_true_iff]
  unfold pfx
  rw [decide_eq_true_iff]
  constructor
  · rintro ⟨_, h⟩; exact ⟨h 0 (by simp), h 1 (by simp)⟩
  · rintro ⟨h0, h1⟩
    have := lt_of_getD (t := t) (i := 1) (by rw [h1]; exact hb)
    refine ⟨by simp; omega, fun i hi => ?_⟩
    obtain rfl | rfl : i = 0 ∨ i = 1 := by simp at hi; omega
    · exact h0
    · exact h1
theorem pfx3 (t : List Nat) (a b c : Nat) (hc : c ≠ 0) : pfx t [a, b, c] = decide (t.getD 0 0 = a ∧ t.getD 1 0 = b ∧ t.getD 2 0 = c) := by
  rw [Bool.eq_iff_iff, decide_eq_true_iff]
  unfold pfx
  rw [decide_eq_true_iff]
  constructor
  · rintro ⟨_, h⟩; exact ⟨h 0 (by simp), h 1 (by simp), h 2 (by simp)⟩
  · rintro ⟨h0, h1, h2⟩
    have := lt_of_getD (t := t) (i := 2) (by rw [h2]; exact hc)
    refine ⟨by simp; omega, fun i hi => ?_⟩
    obtain rfl | rfl | rfl : i = 0 ∨ i = 1 ∨ i = 2 := by simp at hi; omega
    · exact h0
    · exact h1
    · exact h2
theorem lon_lb (t : List Nat) : lon t 6 = lb t := by
  have e0 : pfx t (brkL 0) = decide (t.getD 0 0 = 10) := pfx1 t 10 (by decide)
  have e1 : pfx t (brkL 1) = decide (t.getD 0 0 = 13) := pfx1 t 13 (by decide)
  have e2 : pfx t (brkL 2) = decide (t.getD 0 0 = 13 ∧ t.getD 1 0 = 10) := pfx2 t 13 10 (by decide)
  have e3 : pfx t (brkL 3) = decide (t.getD 0 0 = 194 ∧ t.getD 1 0 = 133) := pfx2 t 194 133 (by decide)
  have e4 : pfx t (brkL 4) = decide (t.getD 0 0 = 226 ∧ t.getD 1 0 = 128 ∧ t.getD 2 0 = 168) := pfx3 t 226 128 168 (by decide)
  have e5 : pfx t (brkL 5) = decide (t.getD 0 0 = 226 ∧ t.getD 1 0 = 128 ∧ t.getD 2 0 = 169) := pfx3 t 226 128 169 (by decide)
  have l0 : (brkL 0).length = 1 := rfl
  have l1 : (brkL 1).length = 1 := rfl
  have l2 : (brkL 2).length = 2 := rfl
  have l3 : (brkL 3).length = 2 := rfl
  have l4 : (brkL 4).length = 3 := rfl
  have l5 : (brkL 5).length = 3 := rfl
  unfold lb lbx
  simp only [lon, e0, e1, e2, e3, e4, e5, l0, l1, l2, l3, l4, l5, decide_eq_true_iff]
  generalize t.getD 0 0 = x
  generalize t.getD 1 0 = y
  generalize t.getD 2 0 = z
  by_cases h1 : x = 10
  · subst h1; simp
  by_cases h2 : x = 13
  · subst h2
    by_cases h3 : y = 10 <;> simp [h3]
  by_cases h4 : x = 194
  · subst h4
    by_cases h5 : y = 133 <;> simp [h5]
  by_cases h6 : x = 226
  · subst h6
    by_cases h7 : y = 128
    · subst h7
      by_cases h8 : z = 168
      · subst h8; simp
      · by_cases h9 : z = 169
        · subst h9; simp
        · simp [h8, h9]
    · simp [h7]
  simp [h1, h2, h4, h6]

theorem drewN_below {B : Nat} {a w : World} (h : Below B a w) (n : Nat) : Below B a (w.drewN n) := h.trans ⟨rfl, rfl, rfl, Nat.le_refl _, fun _ _ => rfl⟩

set_option maxHeartbeats 1000000 in
theorem longest_any (ao : Option Addr) (sn sc : Nat) (t : List Nat) (w : World) (ht : t.length = sn) (hs : sn ≤ 4611686018427387904) (r : Rd w ao t) :
    Calls Try.prog 15 #[.slice ao sn sc] w fun e w' => e = .returned (.int .i64 ((lb t : Nat) : Int)) ∧ Below w.heap.size w w' := by
  have R : Hid (Rd w ao t) := r
  have HT : Hid (t.length = sn) := ht
  clear r ht
  go_enter Try.func15, Try.ntmps15
  go_wp2
  go_loopw [3, 4] (fun b i wr => ∃ k : Nat, k ≤ 6 ∧ i = .int .u8 (k : Int) ∧ b = .int .i64 ((lon t k : Nat) : Int) ∧ Below w.heap.size w wr) (fun _ i _ => 6 - (intOf i).toNat)
  case atStart => exact ⟨0, by omega, rfl, rfl, Below.refl _ _⟩
  case round =>
    obtain ⟨k, hk, rfl, rfl, hb⟩ := hrel
    have hl3 := lon_le t k
    by_cases hlt : k < 6
    · have hbl := brkL_length k
      have hmod : k % 6 = k := Nat.mod_eq_of_lt hlt
      have hlon : Hid (lon t (k + 1) = if pfx t (brkL k) = true ∧ lon t k < (brkL k).length then (brkL k).length else lon t k) := by show _ = _; rw [lon]
      generalize lon t k = L at *
      go_wp2_with fail
      refine (brk_any k wr).mono ?_
      rw [hmod]
      rintro e wb ⟨rfl, hown, hbb⟩
      have HO : Hid (Rd wb (some ⟨wr.heap.size, 0, none⟩) (brkL k)) := Rd.owns hown
      have hbw : Below w.heap.size w wb := hb.trans (hbb.mono hb.size)
      have HR : Hid (Rd wb ao t) := R.out.kept hbw
      clear hown hmod
      go_wp2_with fail
      refine (prefix_rd ao sn sc wr.heap.size _ _ t (brkL k) wb HT.out hs (by omega) rfl (by omega) HR.out HO.out).mono ?_
      rintro e wp ⟨rfl, nq, rfl⟩
      by_cases hp : pfx t (brkL k) = true
      · rw [hp]
        by_cases hL : L < (brkL k).length
        · have hnew : lon t (k + 1) = (brkL k).length := by rw [hlon.out, if_pos ⟨hp, hL⟩]
          have HN : Hid (lon t (k + 1) = (brkL k).length) := hnew
          clear hnew hp hbb hb
          generalize (brkL k).length = M at *
          go_wp2
          go_roundw
          case rel => exact ⟨k + 1, by omega, by go_num, by rw [HN.out], drewN_below hbw _⟩
          case measure => simp [intOf]; omega
        · have hnew : lon t (k + 1) = L := by rw [hlon.out, if_neg (by omega)]
          have HN : Hid (lon t (k + 1) = L) := hnew
          clear hnew hp hbb hb
          generalize (brkL k).length = M at *
          go_wp2
          go_roundw
          case rel => exact ⟨k + 1, by omega, by go_num, by rw [HN.out], drewN_below hbw _⟩
          case measure => simp [intOf]; omega
      · have hp' : pfx t (brkL k) = false := by simpa using hp
        rw [hp']
        have hnew : lon t (k + 1) = L := by rw [hlon.out, if_neg (fun h => hp h.1)]
        have HN : Hid (lon t (k + 1) = L) := hnew
        clear hnew hp hp' hbb hb
        generalize (brkL k).length = M at *
        go_wp2
        go_roundw
        case rel => exact ⟨k + 1, by omega, by go_num, by rw [HN.out], drewN_below hbw _⟩
        case measure => simp [intOf]; omega
    · have hk6 : k = 6 := by omega
      have hfin : lon t k = lb t := by rw [hk6]; exact lon_lb t
      rw [hfin]
      clear hk6 hfin hl3
      go_wp2
      go_ret
      exact ⟨rfl, hb⟩

theorem zz12_over (a : Option Addr) (n c : Nat) (w : World) (hn : n ≤ 9223372036854775807) (h : 1048576 < n) : Calls Try.prog 12 #[.slice a n c] w fun e w' => e = .returned (.bool false) ∧ w = w' := by
  go_enter Try.func12, Try.ntmps12
  go_wp2
  go_ret
  exact ⟨rfl, rfl⟩
theorem zz12_small (a : Option Addr) (n c : Nat) (w : World) (h : n ≤ 1048576) : Calls Try.prog 12 #[.slice a n c] w fun e w' => e = .returned (.bool true) ∧ w = w' := by
  go_enter Try.func12, Try.ntmps12
  go_wp2
  go_ret
  exact ⟨rfl, rfl⟩

set_option maxRecDepth 100000 in
theorem table_any (a : Option Addr) (n c : Nat) (ys : List Int) (w : World) (h : RowIn .u8 w a n c ys) : Calls Try.prog 3 #[.slice a n c] w fun e w' => e = .returned (.bool true) ∧ Below w.heap.size w w' := by
  by_cases hov : 1048576 < n
  · obtain ⟨_, p2, p3, _⟩ := h
    unfold maxLen at p3
    have hn : n ≤ 9223372036854775807 := by omega
    go_enter Try.func3, Try.ntmps3
    go_wp2_with (go_at_call 12; refine (zz12_over _ _ _ _ hn hov).mono ?_; rintro e w' ⟨rfl, rfl⟩)
    go_ret
    exact ⟨rfl, Below.refl _ _⟩
  · obtain ⟨tl, ht, htl, _⟩ := nats8 h.2.2.2.2.2
    have HT : Hid (ys.map (Value.int .u8) = B8 tl) := ht
    have HL : Hid (tl.length = n) := by show _ = _; rw [htl, h.1]
    have H0 : Hid (RowIn .u8 w a n c ys) := h
    clear h ht htl
    have hn : n ≤ 1048576 := by omega
    go_enter Try.func3, Try.ntmps3
    go_wp2_with (go_at_call 12; refine (zz12_small _ _ _ _ hn).mono ?_; rintro e w' ⟨rfl, rfl⟩)
    refine (clone_nat a n c ys tl _ H0.out hn HT.out).mono ?_
    rintro e wc ⟨av, cv, rfl, hown, hnone, hbc⟩
    have HO : Hid (Rd wc av tl) := Rd.owns hown
    clear hown hnone
    go_wp2_with fail
    refine (lb_at _ _ _ tl _ HL.out (by omega) HO.out).mono ?_
    rintro e w' ⟨rfl, rfl⟩
    go_wp2_with fail
    refine (longest_any _ _ _ tl _ HL.out (by omega) HO.out).mono ?_
    rintro e wl ⟨rfl, hbl⟩
    generalize lb tl = N
    go_wp2
    go_ret
    exact ⟨by simp, hbc.trans (hbl.mono hbc.size)⟩
end Go.Proofs.Qxb6000678a
