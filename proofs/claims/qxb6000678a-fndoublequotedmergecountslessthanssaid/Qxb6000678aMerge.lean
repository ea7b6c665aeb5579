import Derived.Test.Qxb6000678aEsc
namespace Go.Proofs.Qxb6000678a
open Go.RowKit

/-- m tokens, a closing quote and whatever follows; the last number counts the signs 60. -/
def GoodN : Nat → List Nat → Nat → Prop
  | 0, T, c => (∃ tl, T = 34 :: tl) ∧ c = 0
  | m + 1, T, c => (∃ r T' c', GoodN m T' c' ∧ T = ltL r ++ T' ∧ c = c' + 1) ∨ ∃ k ws T', GoodN m T' c ∧ (∀ x ∈ ws, x = 32 ∨ x = 9) ∧ T = 92 :: (brkL k ++ (ws ++ T'))
def Good (T : List Nat) (c : Nat) : Prop := ∃ m, GoodN m T c
theorem Good.stop (tl : List Nat) : Good (34 :: tl) 0 := ⟨0, ⟨tl, rfl⟩, rfl⟩
theorem Good.less (r : Nat) (T : List Nat) (c : Nat) (h : Good T c) : Good (ltL r ++ T) (c + 1) := by
  obtain ⟨m, hm⟩ := h
  exact ⟨m + 1, .inl ⟨r, T, c, hm, rfl, rfl⟩⟩
theorem Good.brk (k : Nat) (ws T : List Nat) (c : Nat) (hw : ∀ x ∈ ws, x = 32 ∨ x = 9) (h : Good T c) : Good (92 :: (brkL k ++ (ws ++ T))) c := by
  obtain ⟨m, hm⟩ := h
  exact ⟨m + 1, .inr ⟨k, ws, T, hm, hw, rfl⟩⟩
theorem Good.parts {T : List Nat} {c : Nat} (h : Good T c) : (∃ tl, T = 34 :: tl ∧ c = 0) ∨ (∃ r T' c', Good T' c' ∧ T = ltL r ++ T' ∧ c = c' + 1) ∨ ∃ k ws T', Good T' c ∧ (∀ x ∈ ws, x = 32 ∨ x = 9) ∧ T = 92 :: (brkL k ++ (ws ++ T')) := by
  obtain ⟨m, hm⟩ := h
  cases m with
  | zero => obtain ⟨⟨tl, rfl⟩, rfl⟩ := hm; exact .inl ⟨tl, rfl, rfl⟩
  | succ m =>
    obtain ⟨r, T', c', h1, h2, h3⟩ | ⟨k, ws, T', h1, h2, h3⟩ := hm
    · exact .inr (.inl ⟨r, T', c', ⟨m, h1⟩, h2, h3⟩)
    · exact .inr (.inr ⟨k, ws, T', ⟨m, h1⟩, h2, h3⟩)
theorem less_parts (r : Nat) (T : List Nat) : ltL r ++ T = 60 :: T ∨ (∃ l, (l = 99 ∨ l = 67) ∧ ltL r ++ T = 92 :: 120 :: 51 :: l :: T) ∨ (∃ l, (l = 99 ∨ l = 67) ∧ ltL r ++ T = 92 :: 117 :: 48 :: 48 :: 51 :: l :: T) ∨ ∃ l, (l = 99 ∨ l = 67) ∧ ltL r ++ T = 92 :: 85 :: 48 :: 48 :: 48 :: 48 :: 48 :: 48 :: 51 :: l :: T := by
  unfold ltL
  (repeat' split) <;> simp

theorem Good.head {T : List Nat} {c : Nat} (h : Good T c) : ∃ x R, T = x :: R ∧ (x = 34 ∨ x = 60 ∨ x = 92) := by
  obtain ⟨tl, rfl, _⟩ | ⟨r, T', c', _, rfl, _⟩ | ⟨k, ws, T', _, _, rfl⟩ := h.parts
  · exact ⟨_, _, rfl, .inl rfl⟩
  · unfold ltL; (repeat' split) <;> exact ⟨_, _, rfl, by simp⟩
  · exact ⟨_, _, rfl, by simp⟩

theorem lb_brk (k : Nat) (S : List Nat) (h : ¬ S.getD 0 0 = 10) : lb (brkL k ++ S) = (brkL k).length := by
  simp only [List.getD_eq_getElem?_getD] at h
  unfold brkL
  (repeat' split) <;> simp [lb, lbx, h]

theorem drop_at {T R : List Nat} {i : Nat} (h : T.drop i = R) (j : Nat) (hj : j < R.length) : i + j < T.length ∧ T.getD (i + j) 0 = R.getD j 0 := by
  subst h
  rw [List.length_drop] at hj
  refine ⟨by omega, ?_⟩
  simp [List.getD, List.getElem?_drop]

def Cells (w : World) (g : Nat) (T : List Nat) : Prop := ∀ i, i < T.length → w.cell? ⟨g, i, none⟩ = some (.int .u8 ((T.getD i 0 : Nat) : Int))
theorem Cells.at {w : World} {g : Nat} {T R : List Nat} {i : Nat} (hc : Cells w g T) (h : T.drop i = R) (j : Nat) (hj : j < R.length) : w.cell? ⟨g, i + j, none⟩ = some (.int .u8 ((R.getD j 0 : Nat) : Int)) := by
  obtain ⟨h1, h2⟩ := drop_at h j hj
  rw [← h2]; exact hc _ h1
theorem Cells.rd {w : World} {g : Nat} {T : List Nat} (hc : Cells w g T) (i : Nat) : Rd w (some ⟨g, i, none⟩) (T.drop i) := by
  intro _
  exact ⟨g, i, rfl, fun j hj => hc.at rfl j hj⟩

def Grel (T : List Nat) (c a i : Nat) : Prop := ∃ b, Good (T.drop i) b ∧ a + b = c

set_option maxHeartbeats 8000000 in
set_option maxRecDepth 100000 in
theorem merge_core (g n cap c : Nat) (T : List Nat) (w : World) (hl : T.length = n) (hn : (n : Int) ≤ 4611686018427387904) (hcap : n ≤ cap) (hcap2 : cap ≤ 9223372036854775807) (hc : Cells w g T) (hG : Good T c) :
    Calls Try.prog 31 #[.slice (some ⟨g, 0, none⟩) n cap] w fun e w' => e = .returned (.bool (decide (c = 2))) ∧ w = w' := by
  have HC : Hid (Cells w g T) := hc
  have HL : Hid (T.length = n) := hl
  have HG : Hid (Grel T c 0 0) := ⟨c, by simpa using hG, by simp⟩
  clear hc hl hG
  go_enter Try.func31, Try.ntmps31
  go_wp2_with fail
  go_loopw [3, 4] (fun s3 s4 wr => w = wr ∧ ∃ a i : Nat, a ≤ i ∧ i ≤ n ∧ s3 = .int .i64 a ∧ s4 = .int .i64 i ∧ Hid (Grel T c a i)) (fun _ s4 _ => n - (intOf s4).toNat)
  case atStart => exact ⟨rfl, 0, 0, Nat.le_refl _, Nat.zero_le _, rfl, rfl, HG⟩
  case round =>
    obtain ⟨rfl, a, i, hai, hin, rfl, rfl, H1⟩ := hrel
    clear HG
    obtain ⟨b, hb, hab⟩ := H1.out
    clear H1
    obtain ⟨R, hR⟩ : ∃ R, T.drop i = R := ⟨_, rfl⟩
    have HR : Hid (T.drop i = R) := hR
    rw [hR] at hb
    clear hR
    have p0 : (0 : Int) ≤ (i : Int) := by omega
    obtain ⟨tl, rfl, rfl⟩ | ⟨r, T', b', hb', hRT, rfl⟩ | ⟨k, ws, T', hb', hws, rfl⟩ := hb.parts
    · clear hb
      have c0 : w.cell? ⟨g, i, none⟩ = some (.int .u8 34) := HC.out.at HR.out 0 (by simp)
      have l0 := (drop_at HR.out 0 (by simp)).1
      rw [HL.out] at l0
      have p1 : (i : Int) < (n : Int) := by omega
      go_wp2_with fail
      go_ret
      obtain rfl : a = c := by omega
      refine ⟨?_, rfl⟩
      by_cases h2 : a = 2
      · subst h2; simp
      · have : ((a : Int) == 2) = false := by rw [beq_eq_false_iff_ne]; omega
        simp [h2, this]
    · clear hb
      have HB : Hid (Good T' b') := hb'
      have L0 : 0 < T'.length := by obtain ⟨x, R, rfl, _⟩ := hb'.head; simp
      have hR := HR.out
      rw [hRT] at hR
      have hlen := congrArg List.length hR
      rw [List.length_drop, HL.out] at hlen
      clear hb' HR hRT
      clear R
      obtain h | ⟨l, hl, h⟩ | ⟨l, hl, h⟩ | ⟨l, hl, h⟩ := less_parts r T'
      · rw [h] at hR hlen
        simp only [List.length_cons] at hlen
        have HR : Hid (T.drop i = 60 :: T') := hR
        have HN : Hid (Grel T c (a + 1) (i + 1)) := ⟨b', by rw [← List.drop_drop, HR.out]; exact HB.out, by omega⟩
        have c0 : w.cell? ⟨g, i, none⟩ = some (.int .u8 60) := HC.out.at HR.out 0 (by simp)
        have hk : i + 1 ≤ n := by omega
        have HK : Hid (i + 1 ≤ n) := hk
        have p1 : (i : Int) < (n : Int) := by omega
        have p2 : (a : Int) ≤ (i : Int) := by omega
        clear h hR HB L0 hlen hk
        go_wp2_with fail
        go_roundw
        case rel => exact ⟨by trivial, a + 1, i + 1, by omega, HK.out, by go_num, by go_num, HN⟩
        case measure => have := HK.out; simp [intOf]; omega
      · rw [h] at hR hlen
        simp only [List.length_cons] at hlen
        have HR : Hid (T.drop i = 92 :: 120 :: 51 :: l :: T') := hR
        have HN : Hid (Grel T c (a + 1) (i + 4)) := ⟨b', by rw [← List.drop_drop, HR.out]; exact HB.out, by omega⟩
        have c0 : w.cell? ⟨g, i, none⟩ = some (.int .u8 92) := HC.out.at HR.out 0 (by simp)
        have c1 : w.cell? ⟨g, i + 1, none⟩ = some (.int .u8 120) := HC.out.at HR.out 1 (by simp)
        have d0 : w.cell? ⟨g, i + 2, none⟩ = some (.int .u8 51) := HC.out.at HR.out 2 (by simp)
        have d1 : w.cell? ⟨g, i + 2 + 1, none⟩ = some (.int .u8 (l : Int)) := HC.out.at HR.out 3 (by simp)
        have kl := lb_at (some ⟨g, i + 1, none⟩) (n - (i + 1)) (cap - (i + 1)) (T.drop (i + 1)) w (by rw [List.length_drop, HL.out]) (by omega) (HC.out.rd (i + 1))
        have e0 : lb (T.drop (i + 1)) = 0 := by rw [← List.drop_drop, HR.out]; simp [lb, lbx]
        rw [e0] at kl
        have ke := esc_x g i (n - i) (cap - i) l w (by omega) (by omega) (by omega) hl c1 d0 d1
        have hk : i + 4 ≤ n := by omega
        have HK : Hid (i + 4 ≤ n) := hk
        have p1 : (i : Int) < (n : Int) := by omega
        have p2 : (a : Int) ≤ (i : Int) := by omega
        have p3 : (i : Int) + 1 < (n : Int) := by omega
        have p4 : (n : Int) ≤ (cap : Int) := by omega
        have q1 : ¬ cap = i + 1 := by omega
        have q2 : ¬ cap = i := by omega
        clear h hR HB L0 hlen hk c1 d0 d1 e0
        go_wp2_with (first | (go_at_call 14; refine kl.mono ?_; rintro e w' ⟨rfl, rfl⟩) | (go_at_call 34; refine ke.mono ?_; rintro e w' ⟨rfl, rfl⟩))
        go_roundw
        case rel => exact ⟨by trivial, a + 1, i + 4, by omega, HK.out, by go_num, by go_num, HN⟩
        case measure => have := HK.out; simp [intOf]; omega
      · rw [h] at hR hlen
        simp only [List.length_cons] at hlen
        have HR : Hid (T.drop i = 92 :: 117 :: 48 :: 48 :: 51 :: l :: T') := hR
        have HN : Hid (Grel T c (a + 1) (i + 6)) := ⟨b', by rw [← List.drop_drop, HR.out]; exact HB.out, by omega⟩
        have c0 : w.cell? ⟨g, i, none⟩ = some (.int .u8 92) := HC.out.at HR.out 0 (by simp)
        have c1 : w.cell? ⟨g, i + 1, none⟩ = some (.int .u8 117) := HC.out.at HR.out 1 (by simp)
        have d0 : w.cell? ⟨g, i + 2, none⟩ = some (.int .u8 48) := HC.out.at HR.out 2 (by simp)
        have d1 : w.cell? ⟨g, i + 2 + 1, none⟩ = some (.int .u8 48) := HC.out.at HR.out 3 (by simp)
        have d2 : w.cell? ⟨g, i + 2 + 2, none⟩ = some (.int .u8 51) := HC.out.at HR.out 4 (by simp)
        have d3 : w.cell? ⟨g, i + 2 + 3, none⟩ = some (.int .u8 (l : Int)) := HC.out.at HR.out 5 (by simp)
        have kl := lb_at (some ⟨g, i + 1, none⟩) (n - (i + 1)) (cap - (i + 1)) (T.drop (i + 1)) w (by rw [List.length_drop, HL.out]) (by omega) (HC.out.rd (i + 1))
        have e0 : lb (T.drop (i + 1)) = 0 := by rw [← List.drop_drop, HR.out]; simp [lb, lbx]
        rw [e0] at kl
        have ke := esc_u g i (n - i) (cap - i) l w (by omega) (by omega) (by omega) hl c1 d0 d1 d2 d3
        have hk : i + 6 ≤ n := by omega
        have HK : Hid (i + 6 ≤ n) := hk
        have p1 : (i : Int) < (n : Int) := by omega
        have p2 : (a : Int) ≤ (i : Int) := by omega
        have p3 : (i : Int) + 1 < (n : Int) := by omega
        have p4 : (n : Int) ≤ (cap : Int) := by omega
        have q1 : ¬ cap = i + 1 := by omega
        have q2 : ¬ cap = i := by omega
        clear h hR HB L0 hlen hk c1 d0 d1 d2 d3 e0
        go_wp2_with (first | (go_at_call 14; refine kl.mono ?_; rintro e w' ⟨rfl, rfl⟩) | (go_at_call 34; refine ke.mono ?_; rintro e w' ⟨rfl, rfl⟩))
        go_roundw
        case rel => exact ⟨by trivial, a + 1, i + 6, by omega, HK.out, by go_num, by go_num, HN⟩
        case measure => have := HK.out; simp [intOf]; omega
      · rw [h] at hR hlen
        simp only [List.length_cons] at hlen
        have HR : Hid (T.drop i = 92 :: 85 :: 48 :: 48 :: 48 :: 48 :: 48 :: 48 :: 51 :: l :: T') := hR
        have HN : Hid (Grel T c (a + 1) (i + 10)) := ⟨b', by rw [← List.drop_drop, HR.out]; exact HB.out, by omega⟩
        have c0 : w.cell? ⟨g, i, none⟩ = some (.int .u8 92) := HC.out.at HR.out 0 (by simp)
        have c1 : w.cell? ⟨g, i + 1, none⟩ = some (.int .u8 85) := HC.out.at HR.out 1 (by simp)
        have d0 : w.cell? ⟨g, i + 2, none⟩ = some (.int .u8 48) := HC.out.at HR.out 2 (by simp)
        have d1 : w.cell? ⟨g, i + 2 + 1, none⟩ = some (.int .u8 48) := HC.out.at HR.out 3 (by simp)
        have d2 : w.cell? ⟨g, i + 2 + 2, none⟩ = some (.int .u8 48) := HC.out.at HR.out 4 (by simp)
        have d3 : w.cell? ⟨g, i + 2 + 3, none⟩ = some (.int .u8 48) := HC.out.at HR.out 5 (by simp)
        have d4 : w.cell? ⟨g, i + 2 + 4, none⟩ = some (.int .u8 48) := HC.out.at HR.out 6 (by simp)
        have d5 : w.cell? ⟨g, i + 2 + 5, none⟩ = some (.int .u8 48) := HC.out.at HR.out 7 (by simp)
        have d6 : w.cell? ⟨g, i + 2 + 6, none⟩ = some (.int .u8 51) := HC.out.at HR.out 8 (by simp)
        have d7 : w.cell? ⟨g, i + 2 + 7, none⟩ = some (.int .u8 (l : Int)) := HC.out.at HR.out 9 (by simp)
        have kl := lb_at (some ⟨g, i + 1, none⟩) (n - (i + 1)) (cap - (i + 1)) (T.drop (i + 1)) w (by rw [List.length_drop, HL.out]) (by omega) (HC.out.rd (i + 1))
        have e0 : lb (T.drop (i + 1)) = 0 := by rw [← List.drop_drop, HR.out]; simp [lb, lbx]
        rw [e0] at kl
        have ke := esc_U g i (n - i) (cap - i) l w (by omega) (by omega) (by omega) hl c1 d0 d1 d2 d3 d4 d5 d6 d7
        have hk : i + 10 ≤ n := by omega
        have HK : Hid (i + 10 ≤ n) := hk
        have p1 : (i : Int) < (n : Int) := by omega
        have p2 : (a : Int) ≤ (i : Int) := by omega
        have p3 : (i : Int) + 1 < (n : Int) := by omega
        have p4 : (n : Int) ≤ (cap : Int) := by omega
        have q1 : ¬ cap = i + 1 := by omega
        have q2 : ¬ cap = i := by omega
        clear h hR HB L0 hlen hk c1 d0 d1 d2 d3 d4 d5 d6 d7 e0
        go_wp2_with (first | (go_at_call 14; refine kl.mono ?_; rintro e w' ⟨rfl, rfl⟩) | (go_at_call 34; refine ke.mono ?_; rintro e w' ⟨rfl, rfl⟩))
        go_roundw
        case rel => exact ⟨by trivial, a + 1, i + 10, by omega, HK.out, by go_num, by go_num, HN⟩
        case measure => have := HK.out; simp [intOf]; omega
    · clear hb
      have HB : Hid (Good T' b) := hb'
      obtain ⟨x0, R0, hx0, hxx⟩ := hb'.head
      have HW : Hid (∀ x ∈ ws, x = 32 ∨ x = 9) := hws
      obtain ⟨L, hL⟩ : ∃ L, (brkL k).length = L := ⟨_, rfl⟩
      have hL1 : 1 ≤ L := by have := (brkL_length k).1; omega
      have hL3 : L ≤ 3 := by have := (brkL_length k).2; omega
      have hlen := congrArg List.length HR.out
      rw [List.length_drop, HL.out] at hlen
      simp only [List.length_cons, List.length_append, hL] at hlen
      have HT : Hid (T.drop (i + 1 + L) = ws ++ T') := by
        show _ = _
        rw [← List.drop_drop, ← List.drop_drop, HR.out]
        simp only [List.drop_succ_cons, List.drop_zero]
        rw [← hL, List.drop_left]
      have e0 : lb (T.drop (i + 1)) = L := by
        rw [← List.drop_drop, HR.out]
        simp only [List.drop_succ_cons, List.drop_zero]
        rw [lb_brk _ _ ?_, hL]
        cases ws with
        | nil => rw [hx0]; simp; omega
        | cons y ys => have := HW.out y (by simp); simp; omega
      have hT' : 0 < T'.length := by rw [hx0]; simp
      have c0 : w.cell? ⟨g, i, none⟩ = some (.int .u8 92) := HC.out.at HR.out 0 (by simp)
      have kl := lb_at (some ⟨g, i + 1, none⟩) (n - (i + 1)) (cap - (i + 1)) (T.drop (i + 1)) w (by rw [List.length_drop, HL.out]) (by omega) (HC.out.rd (i + 1))
      rw [e0] at kl
      have p1 : (i : Int) < (n : Int) := by omega
      have p2 : (a : Int) ≤ (i : Int) := by omega
      have p3 : (i : Int) + 1 < (n : Int) := by omega
      have p4 : (n : Int) ≤ (cap : Int) := by omega
      have p5 : (0 : Int) < (L : Int) := by omega
      have q1 : ¬ cap = i + 1 := by omega
      have q2 : ¬ cap = i := by omega
      obtain ⟨N, hN⟩ : ∃ N, ws.length = N := ⟨_, rfl⟩
      have HLen : Hid (i + 1 + L + N + T'.length = n) := by show _ = _; rw [← hN]; omega
      have HX : Hid (T' = x0 :: R0) := hx0
      have HXX : Hid (x0 = 34 ∨ x0 = 60 ∨ x0 = 92) := hxx
      have HWN : Hid (ws.length = N) := hN
      have HEnd : Hid (Grel T c a (i + 1 + L + N)) := ⟨b, by rw [← List.drop_drop, HT.out, ← hN, List.drop_left]; exact HB.out, hab⟩
      have p6 : (i : Int) + 1 + (L : Int) + (N : Int) < (n : Int) := by omega
      clear hx0 hxx hws hlen e0 hT' hb' hab hN hL HR
      go_wp2_with (go_at_call 14; refine kl.mono ?_; rintro e w' ⟨rfl, rfl⟩)
      clear kl c0
      go_loopw [6] (fun s6 wr => w = wr ∧ ∃ j : Nat, j ≤ N ∧ s6 = .int .i64 ((1 + L + j : Nat) : Int)) (fun s6 _ => N + 1 + L - (intOf s6).toNat)
      case atStart => exact ⟨rfl, 0, Nat.zero_le _, by go_num⟩
      case round =>
        obtain ⟨rfl, j, hj, rfl⟩ := hrel
        obtain ⟨m, hm⟩ : ∃ m, 1 + L + j = m := ⟨_, rfl⟩
        have hm' : i + m = i + 1 + L + j := by omega
        rw [hm]
        obtain ⟨x, hx⟩ : ∃ x, (ws ++ T').getD j 0 = x := ⟨_, rfl⟩
        have c1 : w.cell? ⟨g, i + m, none⟩ = some (.int .u8 (x : Int)) := by
          rw [hm', ← hx]
          exact HC.out.at HT.out j (by rw [List.length_append, HWN.out, HX.out]; simp; omega)
        have r1 : (i : Int) + (m : Int) < (n : Int) := by omega
        have r2 : (0 : Int) ≤ (i : Int) + (m : Int) := by omega
        have r3 : (m : Int) ≤ (n : Int) := by omega
        have kw := white_any x w
        have HM : Hid (1 + L + j = m) := hm
        clear hm hm'
        by_cases hjN : j < N
        · have hwx : decide (x = 32 ∨ x = 9) = true := by
            apply decide_eq_true
            have e : (ws ++ T').getD j 0 = ws.getD j 0 := by
              have := HWN.out
              simp [List.getD, List.getElem?_append, show j < ws.length by omega]
            rw [← hx, e]
            have := HWN.out
            exact HW.out _ (by simp [List.getD, show j < ws.length by omega])
          rw [hwx] at kw
          have HJ : Hid (j < N) := hjN
          clear hwx hx hjN
          go_wp2_with (go_at_call 33; refine kw.mono ?_; rintro e w' ⟨rfl, rfl⟩)
          go_roundw
          case rel => exact ⟨by trivial, j + 1, HJ.out, by rw [show 1 + L + (j + 1) = m + 1 by have := HM.out; omega]; go_num⟩
          case measure => have := HJ.out; have := HM.out; simp [intOf]; omega
        · obtain rfl : j = N := by omega
          have hwx : decide (x = 32 ∨ x = 9) = false := by
            apply decide_eq_false
            have e : (ws ++ T').getD j 0 = x0 := by
              rw [HX.out]
              have := HWN.out
              simp [List.getD, List.getElem?_append, show ¬ j < ws.length by omega, show j - ws.length = 0 by omega]
            rw [← hx, e]
            have := HXX.out
            omega
          rw [hwx] at kw
          clear hwx hx hjN
          go_wp2_with (go_at_call 33; refine kw.mono ?_; rintro e w' ⟨rfl, rfl⟩)
          go_roundw
          case rel => exact ⟨by trivial, a, i + 1 + L + j, by omega, by have := HLen.out; omega, rfl, by rw [show i + 1 + L + j = i + m by have := HM.out; omega]; go_num, HEnd⟩
          case measure => have := HM.out; simp [intOf]; omega
end Go.Proofs.Qxb6000678a
