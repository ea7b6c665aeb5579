import Derived.Test.Qxb6601459aAfter
import Derived.Deep.AppendLies
namespace Go.Proofs.Qxb6601459a
open Go.RowKit

def B8 (l : List Nat) : List Value := l.map fun b => .int .u8 ((b : Nat) : Int)
theorem B8_length (a : List Nat) : (B8 a).length = a.length := List.length_map _
theorem B8_at (a : List Nat) (i : Nat) (h : i < a.length) : (B8 a)[i]? = some (.int .u8 ((a.getD i 0 : Nat) : Int)) := by simp [B8, List.getD, h]
theorem nats8 {ys : List Int} (h : ∀ n ∈ ys, (Lit.int .u8 n).wf = true) : ∃ tl : List Nat, ys.map (Value.int .u8) = B8 tl ∧ tl.length = ys.length := by
  refine ⟨ys.map Int.toNat, ?_, by simp⟩
  unfold B8
  rw [List.map_map]
  apply List.map_congr_left
  intro n hn
  have := bounds_u8 (h n hn)
  simp only [Function.comp]
  rw [Int.toNat_of_nonneg (by omega)]
def Rd (w : World) (ao : Option Addr) (t : List Nat) : Prop := 0 < t.length → ∃ b, ao = some ⟨b, 0, none⟩ ∧ ∀ i, i < t.length → w.cell? ⟨b, i, none⟩ = some (.int .u8 ((t.getD i 0 : Nat) : Int))
theorem Rd.owns {w : World} {base : Nat} {ao : Option Addr} {n c : Nat} {t : List Nat} (h : w.ownsRow base 5 1 (.slice ao n c) n (B8 t)) : Rd w ao t := by
  intro hp
  have hl := h.1
  rw [B8_length] at hl
  obtain ⟨g, cap, hv, _, _⟩ := h.form (by omega)
  obtain ⟨rfl, rfl⟩ : ao = some ⟨g, 0, none⟩ ∧ c = cap := by simp at hv; exact hv
  exact ⟨g, rfl, fun i hi => by rw [h.cellAt i (by omega), B8_at t i hi]⟩

theorem after_any (ao : Option Addr) (n c : Nat) (xs : List Nat) (G : Bool) (w : World) (hn : (n : Int) ≤ 1048576) (hl : xs.length = n) (h : Rd w ao xs) (hG : gram xs = G) :
    Calls Try.prog 21 #[.slice ao n c] w fun e w' => e = .returned (.bool G) ∧ w = w' := by
  subst hG
  by_cases h0 : n = 0
  · subst h0
    obtain rfl : xs = [] := List.eq_nil_of_length_eq_zero hl
    exact after_empty ao c w
  · obtain ⟨g, rfl, hc⟩ := h (by omega)
    exact after_some g n c xs w (by omega) hn hl (fun i hi => hc i (by omega))

def St (s : Nat) : Prop := s = 12 ∨ s = 13 ∨ s = 14 ∨ s = 15 ∨ s = 16 ∨ s = 17 ∨ s = 18 ∨ s = 19
theorem nb_st {s x : Nat} (ht : (nb s x).2 = true) (h20 : ¬ (nb s x).1 = 20) : St (nb s x).1 := by
  unfold St at *
  unfold nb at *
  revert ht h20
  (repeat' split) <;> simp <;> omega
theorem nb32_t {s : Nat} (h : fin s = true) : nb s 32 = (6, false) := by
  simp [fin] at h
  rcases h with rfl | rfl | rfl | rfl <;> decide
theorem nb32_f {s : Nat} (hs : St s) (h : fin s = false) : nb s 32 = (20, true) := by
  unfold St at hs
  rcases hs with rfl | rfl | rfl | rfl | rfl | rfl | rfl | rfl <;> first | decide | (exact absurd h (by decide))

theorem zz19_over (a : Option Addr) (n c : Nat) (w : World) (hn : n ≤ 9223372036854775807) (h : 1048576 < n) : Calls Try.prog 19 #[.slice a n c] w fun e w' => e = .returned (.bool false) ∧ w = w' := by
  go_enter Try.func19, Try.ntmps19
  go_wp2
  go_ret
  exact ⟨rfl, rfl⟩
theorem zz19_small (a : Option Addr) (n c : Nat) (w : World) (h : n ≤ 1048576) : Calls Try.prog 19 #[.slice a n c] w fun e w' => e = .returned (.bool true) ∧ w = w' := by
  go_enter Try.func19, Try.ntmps19
  go_wp2
  go_ret
  exact ⟨rfl, rfl⟩

set_option maxHeartbeats 4000000 in
set_option maxRecDepth 100000 in
theorem law_any (a : Option Addr) (n c : Nat) (ys : List Int) (w : World) (h : RowIn .u8 w a n c ys) : Calls Try.prog 7 #[.slice a n c] w fun e w' => e = .returned (.bool true) ∧ Below w.heap.size w w' := by
  by_cases hov : 1048576 < n
  · obtain ⟨_, p2, p3, _⟩ := h
    unfold maxLen at p3
    have hn : n ≤ 9223372036854775807 := by omega
    go_enter Try.func7, Try.ntmps7
    go_wp2_with (go_at_call 19; refine (zz19_over _ _ _ _ hn hov).mono ?_; rintro e w' ⟨rfl, rfl⟩)
    go_ret
    exact ⟨rfl, Below.refl _ _⟩
  · obtain ⟨xs, ht, htl⟩ := nats8 h.2.2.2.2.2
    have HT : Hid (ys.map (Value.int .u8) = B8 xs) := ht
    have HL : Hid (xs.length = n) := by show _ = _; rw [htl, h.1]
    have H0 : Hid (RowIn .u8 w a n c ys) := h
    clear h ht htl
    have hn : n ≤ 1048576 := by omega
    have hni : (n : Int) ≤ 1048576 := by omega
    have HN : Hid (n ≤ 1048576) := hn
    clear hov
    go_enter Try.func7, Try.ntmps7
    go_wp2_with (go_at_call 19; refine (zz19_small _ _ _ _ hn).mono ?_; rintro e w' ⟨rfl, rfl⟩)
    refine (clone_any a n c ys _ H0.out HN.out).mono ?_
    rintro e wc ⟨av, cv, rfl, hown, _, hbc⟩
    rw [HT.out] at hown
    have HO : Hid (Rd wc av xs) := Rd.owns hown
    have HB : Hid (Below w.heap.size w wc) := hbc
    clear hown hbc hn H0 HT
    go_wp2_with fail
    go_loopw [3, 4, 5] (fun s3 s4 s5 wr => wc = wr ∧ s4 = .bool true ∧ ∃ k s : Nat, k ≤ n ∧ s5 = .int .i64 k ∧ s3 = .int .u8 s ∧ Hid (St s) ∧ Hid (gram xs = run s (xs.drop k))) (fun _ _ i _ => n - (intOf i).toNat)
    case atStart => exact ⟨rfl, rfl, 0, 12, Nat.zero_le _, rfl, rfl, .inl rfl, by show _ = _; rw [List.drop_zero, run12]⟩
    case round =>
      obtain ⟨rfl, rfl, k, s, hk, rfl, rfl, HS, HR⟩ := hrel
      by_cases hlt : k < n
      · obtain ⟨g, rfl, hc⟩ := HO.out (by rw [HL.out]; omega)
        have c1 := hc k (by rw [HL.out]; exact hlt)
        clear hc
        obtain ⟨x, hx⟩ : ∃ x, xs.getD k 0 = x := ⟨_, rfl⟩
        rw [hx] at c1
        have HK : Hid (k < n) := hlt
        have p1 : (0 : Int) ≤ (k : Int) := by omega
        have p2 : (k : Int) < (n : Int) := by omega
        have kn := fun w => num_any s x w HS.out
        have e := HR.out
        rw [drop_cons xs k (by rw [HL.out]; exact hlt), hx, run] at e
        have hst := nb_st (s := s) (x := x)
        unfold nbV at kn
        generalize (nb s x).1 = s' at kn e hst
        generalize (nb s x).2 = t at kn e hst
        have HST : Hid (t = true → ¬ s' = 20 → St s') := hst
        clear hst hx hlt HR
        cases t with
        | false =>
          have HE : Hid (gram xs = false) := by show _ = _; rw [e]; simp
          clear e
          go_wp2_with (go_at_call 20; refine (kn _).mono ?_; rintro e w' ⟨rfl, rfl⟩)
          refine (after_any _ _ _ xs false _ hni HL.out HO.out HE.out).mono ?_
          rintro e w' ⟨rfl, rfl⟩
          go_wp2
          go_ret
          exact ⟨rfl, HB.out⟩
        | true =>
          by_cases h20 : s' = 20
          · have HE : Hid (gram xs = false) := by show _ = _; rw [e]; simp [h20]
            clear e
            subst h20
            go_wp2_with (go_at_call 20; refine (kn _).mono ?_; rintro e w' ⟨rfl, rfl⟩)
            refine (after_any _ _ _ xs false _ hni HL.out HO.out HE.out).mono ?_
            rintro e w' ⟨rfl, rfl⟩
            go_wp2
            go_ret
            exact ⟨rfl, HB.out⟩
          · have HE : Hid (gram xs = run s' (xs.drop (k + 1))) := by show _ = _; rw [e]; simp [h20]
            have HS' : Hid (St s') := HST.out rfl h20
            have t1 : ((s' : Int) == 20) = false := by rw [beq_eq_false_iff_ne]; omega
            clear e HST h20
            go_wp2_with (go_at_call 20; refine (kn _).mono ?_; rintro e w' ⟨rfl, rfl⟩)
            go_roundw
            case rel => exact ⟨by trivial, rfl, k + 1, s', HK.out, by go_num, rfl, HS', HE⟩
            case measure => have := HK.out; simp [intOf]; omega
      · have e := HR.out
        rw [List.drop_eq_nil_of_le (by rw [HL.out]; omega), run] at e
        have kn := fun w => num_any s 32 w HS.out
        obtain ⟨f, hf⟩ : ∃ f, fin s = f := ⟨_, rfl⟩
        rw [hf] at e
        have HE : Hid (gram xs = f) := e
        clear e HR
        cases f with
        | true =>
          rw [nb32_t hf] at kn
          unfold nbV at kn
          clear hf
          go_wp2_with (go_at_call 20; refine (kn _).mono ?_; rintro e w' ⟨rfl, rfl⟩)
          refine (after_any _ _ _ xs true _ hni HL.out HO.out HE.out).mono ?_
          rintro e w' ⟨rfl, rfl⟩
          go_wp2
          go_ret
          exact ⟨rfl, HB.out⟩
        | false =>
          rw [nb32_f HS.out hf] at kn
          unfold nbV at kn
          clear hf
          go_wp2_with (go_at_call 20; refine (kn _).mono ?_; rintro e w' ⟨rfl, rfl⟩)
          refine (after_any _ _ _ xs false _ hni HL.out HO.out HE.out).mono ?_
          rintro e w' ⟨rfl, rfl⟩
          go_wp2
          go_ret
          exact ⟨rfl, HB.out⟩
end Go.Proofs.Qxb6601459a
