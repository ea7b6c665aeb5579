import Derived.Test.Qxb6601459aByte
import Derived.Deep.CutRange
import Derived.Deep.DeepCutAuto
namespace Go.Proofs.Qxb6601459a
open Go.RowKit

theorem drop_cons (xs : List Nat) (k : Nat) (h : k < xs.length) : xs.drop k = xs.getD k 0 :: xs.drop (k + 1) := by
  rw [List.drop_eq_getElem_cons h]; simp [List.getD, h]
theorem skip_digit (xs : List Nat) (k : Nat) (h : k < xs.length) (hd : dg (xs.getD k 0) = true) : skip (xs.drop k) = skip (xs.drop (k + 1)) := by
  rw [drop_cons xs k h, skip, if_pos hd]
theorem skip_stop (xs : List Nat) (k : Nat) (h : k < xs.length) (hd : dg (xs.getD k 0) = false) : skip (xs.drop k) = xs.drop k := by
  rw [drop_cons xs k h, skip, if_neg (by rw [hd]; simp)]
theorem skip_end (xs : List Nat) (k : Nat) (h : xs.length ≤ k) : skip (xs.drop k) = xs.drop k := by
  rw [List.drop_eq_nil_of_le h]; rfl

def nl (l : List Nat) : Bool := decide (l = [])

theorem after_empty (a : Option Addr) (c : Nat) (w : World) : Calls Try.prog 21 #[.slice a 0 c] w fun e w' => e = .returned (.bool false) ∧ w = w' := by
  go_enter Try.func21, Try.ntmps21
  go_wp2
  go_ret
  exact ⟨rfl, rfl⟩

set_option maxHeartbeats 4000000 in
set_option maxRecDepth 100000 in
theorem after_some (g n c : Nat) (xs : List Nat) (w : World) (hn : 0 < n) (hn2 : (n : Int) ≤ 1048576) (hl : xs.length = n) (hc : ∀ i, i < n → w.cell? ⟨g, i, none⟩ = some (.int .u8 ((xs.getD i 0 : Nat) : Int))) :
    Calls Try.prog 21 #[.slice (some ⟨g, 0, none⟩) n c] w fun e w' => e = .returned (.bool (gram xs)) ∧ w = w' := by
  have HC : Hid (∀ i, i < n → w.cell? ⟨g, i, none⟩ = some (.int .u8 ((xs.getD i 0 : Nat) : Int))) := hc
  have HL : Hid (xs.length = n) := hl
  clear hc hl
  generalize hG : gram xs = G
  have HG : Hid (gram xs = G) := hG
  clear hG
  have hn' : (0 : Int) < (n : Int) := by omega
  have c0 := HC.out 0 hn
  obtain ⟨x0, hx0⟩ : ∃ x0, xs.getD 0 0 = x0 := ⟨_, rfl⟩
  rw [hx0] at c0
  have HX0 : Hid (xs.getD 0 0 = x0) := hx0
  clear hx0
  go_enter Try.func21, Try.ntmps21
  go_upto_if 14 with fail
  go_cut [4] (fun s4 wx => w = wx ∧ ∃ k : Nat, k ≤ n ∧ s4 = .int .i64 k ∧ Hid (G = frac (xs.drop k)))
  case first =>
    by_cases h48 : x0 = 48
    · have HR : Hid (G = frac (xs.drop 1)) := by
        show _ = _
        have e : xs = x0 :: xs.drop 1 := by have := drop_cons xs 0 (by rw [HL.out]; exact hn); rw [HX0.out] at this; simpa using this
        rw [← HG.out, e, gram, if_pos h48]; rfl
      subst h48
      go_wp2
      go_meet
      case rel => exact ⟨rfl, 1, by omega, rfl, HR⟩
    · have t1 : ((x0 : Int) == 48) = false := by rw [beq_eq_false_iff_ne]; omega
      have kd := fun w => digit_any x0 w
      obtain ⟨d, hd⟩ : ∃ d, dg x0 = d := ⟨_, rfl⟩
      rw [hd] at kd
      cases d with
      | true =>
        have HR : Hid (G = frac (skip (xs.drop 0))) := by
          show _ = _
          have e : xs = x0 :: xs.drop 1 := by have := drop_cons xs 0 (by rw [HL.out]; exact hn); rw [HX0.out] at this; simpa using this
          rw [← HG.out, List.drop_zero, e, gram, if_neg h48, if_pos hd, skip, if_pos hd]
        clear h48 hd HX0
        go_wp2_with (go_at_call 26; refine (kd _).mono ?_; rintro e w' ⟨rfl, rfl⟩)
        clear kd t1 c0 
        go_loopw [4] (fun s4 wr => w = wr ∧ ∃ k : Nat, k ≤ n ∧ s4 = .int .i64 k ∧ Hid (G = frac (skip (xs.drop k)))) (fun i _ => n - (intOf i).toNat)
        case atStart => exact ⟨rfl, 0, Nat.zero_le _, rfl, HR⟩
        case round =>
          obtain ⟨rfl, k, hk, rfl, HR'⟩ := hrel
          clear HR
          by_cases hlt : k < n
          · have c1 := HC.out k hlt
            have HK : Hid (k < n) := hlt
            have p1 : (0 : Int) ≤ (k : Int) := by omega
            have p2 : (k : Int) < (n : Int) := by omega
            obtain ⟨x, hx⟩ : ∃ x, xs.getD k 0 = x := ⟨_, rfl⟩
            rw [hx] at c1
            have kd := fun w => digit_any x w
            obtain ⟨d, hd⟩ : ∃ d, dg x = d := ⟨_, rfl⟩
            rw [hd] at kd
            rw [← hx] at hd
            clear hx hlt
            cases d with
            | true =>
              have HR2 : Hid (G = frac (skip (xs.drop (k + 1)))) := by
                show _ = _
                rw [HR'.out, skip_digit xs k (by rw [HL.out]; exact HK.out) hd]
              clear hd HR'
              go_wp2_with (go_at_call 26; refine (kd _).mono ?_; rintro e w' ⟨rfl, rfl⟩)
              go_roundw
              case rel => exact ⟨by trivial, k + 1, HK.out, by go_num, HR2⟩
              case measure => have := HK.out; simp [intOf]; omega
            | false =>
              have HR2 : Hid (G = frac (xs.drop k)) := by
                show _ = _
                rw [HR'.out, skip_stop xs k (by rw [HL.out]; exact HK.out) hd]
              clear hd HR'
              go_wp2_with (go_at_call 26; refine (kd _).mono ?_; rintro e w' ⟨rfl, rfl⟩)
              go_meet
              case rel => exact ⟨rfl, k, by omega, rfl, HR2⟩
          · have HR2 : Hid (G = frac (xs.drop k)) := by
              show _ = _
              rw [HR'.out, skip_end xs k (by rw [HL.out]; omega)]
            clear HR'
            go_wp2
            go_meet
            case rel => exact ⟨rfl, k, by omega, rfl, HR2⟩
      | false =>
        have HR : Hid (G = false) := by
          show _ = _
          have e : xs = x0 :: xs.drop 1 := by have := drop_cons xs 0 (by rw [HL.out]; exact hn); rw [HX0.out] at this; simpa using this
          rw [← HG.out, e, gram, if_neg h48, if_neg (by simp [hd])]
        clear h48 hd HX0
        go_wp2_with (go_at_call 26; refine (kd _).mono ?_; rintro e w' ⟨rfl, rfl⟩)
        go_ret
        rw [HR.out]
        exact ⟨rfl, rfl⟩
  case rest =>
    obtain ⟨rfl, k, hk, rfl, HR⟩ := hcut
    go_upto_region 11 with fail
    go_cut [43] (fun s43 wx => w = wx ∧ ∃ b : Bool, s43 = .bool b ∧ Hid (b = true ∧ k < n ∧ G = pnt (xs.drop (k + 1)) ∨ b = false ∧ G = ex (xs.drop k)))
    case first =>
      by_cases hlt : k < n
      · have c1 := HC.out k hlt
        have p1 : (0 : Int) ≤ (k : Int) := by omega
        have p2 : (k : Int) < (n : Int) := by omega
        obtain ⟨x, hx⟩ : ∃ x, xs.getD k 0 = x := ⟨_, rfl⟩
        rw [hx] at c1
        have e := HR.out
        rw [drop_cons xs k (by rw [HL.out]; exact hlt), hx, frac] at e
        by_cases h46 : x = 46
        · rw [if_pos h46] at e
          have HE : Hid (G = pnt (xs.drop (k + 1))) := e
          subst h46
          clear e hx
          go_wp2
          go_meet
          case rel => exact ⟨by trivial, true, rfl, .inl ⟨rfl, hlt, HE.out⟩⟩
        · rw [if_neg h46] at e
          have HE : Hid (G = ex (xs.drop k)) := by show _ = _; rw [e, drop_cons xs k (by rw [HL.out]; exact hlt), hx]
          have t1 : ((x : Int) == 46) = false := by rw [beq_eq_false_iff_ne]; omega
          clear e hx h46
          go_wp2
          go_meet
          case rel => exact ⟨by trivial, false, by first | rfl | rw [t1], .inr ⟨rfl, HE.out⟩⟩
      · have HE : Hid (G = ex (xs.drop k)) := by
          show _ = _
          rw [HR.out, List.drop_eq_nil_of_le (by rw [HL.out]; omega)]; rfl
        go_wp2
        go_meet
        case rel => exact ⟨by trivial, false, rfl, .inr ⟨rfl, HE.out⟩⟩
    case rest =>
      obtain ⟨rfl, b, rfl, H1⟩ := hcut
      clear HR
      go_upto_if 43 with fail
      go_cut [4] (fun s4 wx => w = wx ∧ ∃ k : Nat, k ≤ n ∧ s4 = .int .i64 k ∧ Hid (G = ex (xs.drop k)))
      case first =>
        cases b with
        | true =>
          obtain ⟨_, hkn, hG⟩ | ⟨hb, _⟩ := H1.out
          · have HM : Hid (G = pnt (xs.drop (k + 1))) := hG
            clear hG H1
            go_upto_region 13 with fail
            obtain ⟨m, hm⟩ : ∃ m : Nat, m = k + 1 := ⟨_, rfl⟩
            have hm' : (k : Int) + 1 = (m : Int) := by omega
            rw [hm']
            rw [← hm] at HM
            have hmn : m ≤ n := by omega
            clear hm hm' hkn hk
            by_cases hlt : m < n
            · have c1 := HC.out m hlt
              have p1 : (0 : Int) ≤ (m : Int) := by omega
              have p2 : ¬ (n : Int) ≤ (m : Int) := by omega
              have p3 : (m : Int) < (n : Int) := by omega
              obtain ⟨x, hx⟩ : ∃ x, xs.getD m 0 = x := ⟨_, rfl⟩
              rw [hx] at c1
              have kd := fun w => digit_any x w
              obtain ⟨d, hd⟩ : ∃ d, dg x = d := ⟨_, rfl⟩
              rw [hd] at kd
              cases d with
              | true =>
                have HR : Hid (G = ex (skip (xs.drop m))) := by
                  show _ = _
                  rw [HM.out, drop_cons xs m (by rw [HL.out]; exact hlt), hx]
                  simp [pnt, skip, hd]
                clear hd hx HM
                go_wp2_with (go_at_call 26; refine (kd _).mono ?_; rintro e w' ⟨rfl, rfl⟩)
                clear kd c1
                go_loopw [4] (fun s4 wr => w = wr ∧ ∃ k : Nat, k ≤ n ∧ s4 = .int .i64 k ∧ Hid (G = ex (skip (xs.drop k)))) (fun i _ => n - (intOf i).toNat)
                case atStart => exact ⟨rfl, m, by omega, by first | rfl | go_num, HR⟩
                case round =>
                  obtain ⟨rfl, k, hk, rfl, HR'⟩ := hrel
                  clear HR
                  by_cases hlt : k < n
                  · have c1 := HC.out k hlt
                    have HK : Hid (k < n) := hlt
                    have p1 : (0 : Int) ≤ (k : Int) := by omega
                    have p2 : (k : Int) < (n : Int) := by omega
                    obtain ⟨x, hx⟩ : ∃ x, xs.getD k 0 = x := ⟨_, rfl⟩
                    rw [hx] at c1
                    have kd := fun w => digit_any x w
                    obtain ⟨d, hd⟩ : ∃ d, dg x = d := ⟨_, rfl⟩
                    rw [hd] at kd
                    rw [← hx] at hd
                    clear hx hlt
                    cases d with
                    | true =>
                      have HR2 : Hid (G = ex (skip (xs.drop (k + 1)))) := by
                        show _ = _
                        rw [HR'.out, skip_digit xs k (by rw [HL.out]; exact HK.out) hd]
                      clear hd HR'
                      go_wp2_with (go_at_call 26; refine (kd _).mono ?_; rintro e w' ⟨rfl, rfl⟩)
                      go_roundw
                      case rel => exact ⟨by trivial, k + 1, HK.out, by go_num, HR2⟩
                      case measure => have := HK.out; simp [intOf]; omega
                    | false =>
                      have HR2 : Hid (G = ex (xs.drop k)) := by
                        show _ = _
                        rw [HR'.out, skip_stop xs k (by rw [HL.out]; exact HK.out) hd]
                      clear hd HR'
                      go_wp2_with (go_at_call 26; refine (kd _).mono ?_; rintro e w' ⟨rfl, rfl⟩)
                      go_meet
                      case rel => exact ⟨by trivial, k, by omega, rfl, HR2⟩
                  · have HR2 : Hid (G = ex (xs.drop k)) := by
                      show _ = _
                      rw [HR'.out, skip_end xs k (by rw [HL.out]; omega)]
                    clear HR'
                    go_wp2
                    go_meet
                    case rel => exact ⟨by trivial, k, by omega, rfl, HR2⟩
              | false =>
                have HR : Hid (G = false) := by
                  show _ = _
                  rw [HM.out, drop_cons xs m (by rw [HL.out]; exact hlt), hx]
                  simp [pnt, hd]
                clear hd hx HM
                go_wp2_with (go_at_call 26; refine (kd _).mono ?_; rintro e w' ⟨rfl, rfl⟩)
                go_ret
                rw [HR.out]
                exact ⟨rfl, rfl⟩
            · have HR : Hid (G = false) := by
                show _ = _
                rw [HM.out, List.drop_eq_nil_of_le (by rw [HL.out]; omega)]
                rfl
              have p2 : (n : Int) ≤ (m : Int) := by omega
              clear HM
              go_wp2
              go_ret
              rw [HR.out]
              exact ⟨rfl, rfl⟩
          · exact absurd hb (by simp)
        | false =>
          obtain ⟨hb, _⟩ | ⟨_, hG⟩ := H1.out
          · exact absurd hb (by simp)
          · have HM : Hid (G = ex (xs.drop k)) := hG
            clear hG H1
            go_wp2
            go_meet
            case rel => exact ⟨by trivial, k, hk, rfl, HM⟩
      case rest =>
        clear H1 hk
        clear k
        obtain ⟨rfl, k, hk, rfl, HR⟩ := hcut
        go_upto_region 17 with fail
        go_cut [85] (fun s85 wx => w = wx ∧ ∃ b : Bool, s85 = .bool b ∧ Hid (b = true ∧ k < n ∧ G = sgn (xs.drop (k + 1)) ∨ b = false ∧ G = nl (xs.drop k)))
        case first =>
          by_cases hlt : k < n
          · have c1 := HC.out k hlt
            have p1 : (0 : Int) ≤ (k : Int) := by omega
            have p2 : (k : Int) < (n : Int) := by omega
            obtain ⟨x, hx⟩ : ∃ x, xs.getD k 0 = x := ⟨_, rfl⟩
            rw [hx] at c1
            have e := HR.out
            rw [drop_cons xs k (by rw [HL.out]; exact hlt), hx, ex] at e
            by_cases h1 : x = 101
            · rw [if_pos (.inl h1)] at e
              have HE : Hid (G = sgn (xs.drop (k + 1))) := e
              subst h1
              clear e hx
              go_wp2
              go_meet
              case rel => exact ⟨by trivial, true, rfl, .inl ⟨rfl, hlt, HE.out⟩⟩
            have t1 : ((x : Int) == 101) = false := by rw [beq_eq_false_iff_ne]; omega
            by_cases h2 : x = 69
            · rw [if_pos (.inr h2)] at e
              have HE : Hid (G = sgn (xs.drop (k + 1))) := e
              subst h2
              clear e hx h1 t1
              go_wp2
              go_meet
              case rel => exact ⟨by trivial, true, rfl, .inl ⟨rfl, hlt, HE.out⟩⟩
            have t2 : ((x : Int) == 69) = false := by rw [beq_eq_false_iff_ne]; omega
            rw [if_neg (by omega)] at e
            have HE : Hid (G = nl (xs.drop k)) := by show _ = _; rw [e, drop_cons xs k (by rw [HL.out]; exact hlt)]; rfl
            clear e hx h1 h2
            go_wp2
            go_meet
            case rel => exact ⟨by trivial, false, by first | rfl | rw [t2], .inr ⟨rfl, HE.out⟩⟩
          · have HE : Hid (G = nl (xs.drop k)) := by
              show _ = _
              rw [HR.out, List.drop_eq_nil_of_le (by rw [HL.out]; omega)]; rfl
            go_wp2
            go_meet
            case rel => exact ⟨by trivial, false, rfl, .inr ⟨rfl, HE.out⟩⟩
        case rest =>
          obtain ⟨rfl, b, rfl, H1⟩ := hcut
          clear HR
          go_upto_if 85 with fail
          go_cut [4] (fun s4 wx => w = wx ∧ ∃ k : Nat, k ≤ n ∧ s4 = .int .i64 k ∧ Hid (G = nl (xs.drop k)))
          case first =>
            cases b with
            | true =>
              obtain ⟨_, hkn, hG⟩ | ⟨hb, _⟩ := H1.out
              · have HM : Hid (G = sgn (xs.drop (k + 1))) := hG
                clear hG H1
                go_upto_region 19 with fail
                obtain ⟨m, hm⟩ : ∃ m : Nat, m = k + 1 := ⟨_, rfl⟩
                have hm' : (k : Int) + 1 = (m : Int) := by omega
                rw [hm']
                rw [← hm] at HM
                have hmn : m ≤ n := by omega
                clear hm hm' hkn hk
                go_cut [104] (fun s104 wx => w = wx ∧ ∃ b : Bool, s104 = .bool b ∧ Hid (b = true ∧ m < n ∧ G = dig (xs.drop (m + 1)) ∨ b = false ∧ G = dig (xs.drop m)))
                case first =>
                  by_cases hlt : m < n
                  · have c1 := HC.out m hlt
                    have p1 : (0 : Int) ≤ (m : Int) := by omega
                    have p2 : (m : Int) < (n : Int) := by omega
                    obtain ⟨x, hx⟩ : ∃ x, xs.getD m 0 = x := ⟨_, rfl⟩
                    rw [hx] at c1
                    have e := HM.out
                    rw [drop_cons xs m (by rw [HL.out]; exact hlt), hx, sgn] at e
                    by_cases h1 : x = 43
                    · rw [if_pos (.inl h1)] at e
                      have HE : Hid (G = dig (xs.drop (m + 1))) := e
                      subst h1
                      clear e hx
                      go_wp2
                      go_meet
                      case rel => exact ⟨by trivial, true, rfl, .inl ⟨rfl, hlt, HE.out⟩⟩
                    have t1 : ((x : Int) == 43) = false := by rw [beq_eq_false_iff_ne]; omega
                    by_cases h2 : x = 45
                    · rw [if_pos (.inr h2)] at e
                      have HE : Hid (G = dig (xs.drop (m + 1))) := e
                      subst h2
                      clear e hx h1 t1
                      go_wp2
                      go_meet
                      case rel => exact ⟨by trivial, true, rfl, .inl ⟨rfl, hlt, HE.out⟩⟩
                    have t2 : ((x : Int) == 45) = false := by rw [beq_eq_false_iff_ne]; omega
                    rw [if_neg (by omega)] at e
                    have HE : Hid (G = dig (xs.drop m)) := by show _ = _; rw [e, drop_cons xs m (by rw [HL.out]; exact hlt), hx]
                    clear e hx h1 h2
                    go_wp2
                    go_meet
                    case rel => exact ⟨by trivial, false, by first | rfl | rw [t2], .inr ⟨rfl, HE.out⟩⟩
                  · have HE : Hid (G = dig (xs.drop m)) := by
                      show _ = _
                      rw [HM.out, List.drop_eq_nil_of_le (by rw [HL.out]; omega)]; rfl
                    go_wp2
                    go_meet
                    case rel => exact ⟨by trivial, false, rfl, .inr ⟨rfl, HE.out⟩⟩
                case rest =>
                  obtain ⟨rfl, b, rfl, H1⟩ := hcut
                  clear HM
                  go_upto_if 104 with fail
                  go_cut [4] (fun s4 wx => w = wx ∧ ∃ k : Nat, k ≤ n ∧ s4 = .int .i64 k ∧ Hid (G = dig (xs.drop k)))
                  case first =>
                    cases b with
                    | true =>
                      obtain ⟨_, hkn, hG⟩ | ⟨hb, _⟩ := H1.out
                      · have HM : Hid (G = dig (xs.drop (m + 1))) := hG
                        clear hG H1
                        go_wp2
                        go_meet
                        case rel => exact ⟨by trivial, m + 1, hkn, by go_num, HM⟩
                      · exact absurd hb (by simp)
                    | false =>
                      obtain ⟨hb, _⟩ | ⟨_, hG⟩ := H1.out
                      · exact absurd hb (by simp)
                      · have HM : Hid (G = dig (xs.drop m)) := hG
                        clear hG H1
                        go_wp2
                        go_meet
                        case rel => exact ⟨by trivial, m, hmn, rfl, HM⟩
                  case rest =>
                    clear H1 hmn
                    clear m
                    obtain ⟨rfl, m, hmn, rfl, HM⟩ := hcut
                    by_cases hlt : m < n
                    · have c1 := HC.out m hlt
                      have p1 : (0 : Int) ≤ (m : Int) := by omega
                      have p2 : ¬ (n : Int) ≤ (m : Int) := by omega
                      have p3 : (m : Int) < (n : Int) := by omega
                      obtain ⟨x, hx⟩ : ∃ x, xs.getD m 0 = x := ⟨_, rfl⟩
                      rw [hx] at c1
                      have kd := fun w => digit_any x w
                      obtain ⟨d, hd⟩ : ∃ d, dg x = d := ⟨_, rfl⟩
                      rw [hd] at kd
                      cases d with
                      | true =>
                        have HR : Hid (G = nl (skip (xs.drop m))) := by
                          show _ = _
                          rw [HM.out, drop_cons xs m (by rw [HL.out]; exact hlt), hx]
                          simp [dig, skip, hd, nl]
                        clear hd hx HM
                        go_wp2_with (go_at_call 26; refine (kd _).mono ?_; rintro e w' ⟨rfl, rfl⟩)
                        clear kd c1
                        go_loopw [4] (fun s4 wr => w = wr ∧ ∃ k : Nat, k ≤ n ∧ s4 = .int .i64 k ∧ Hid (G = nl (skip (xs.drop k)))) (fun i _ => n - (intOf i).toNat)
                        case atStart => exact ⟨rfl, m, by omega, by first | rfl | go_num, HR⟩
                        case round =>
                          obtain ⟨rfl, k, hk, rfl, HR'⟩ := hrel
                          clear HR
                          by_cases hlt : k < n
                          · have c1 := HC.out k hlt
                            have HK : Hid (k < n) := hlt
                            have p1 : (0 : Int) ≤ (k : Int) := by omega
                            have p2 : (k : Int) < (n : Int) := by omega
                            obtain ⟨x, hx⟩ : ∃ x, xs.getD k 0 = x := ⟨_, rfl⟩
                            rw [hx] at c1
                            have kd := fun w => digit_any x w
                            obtain ⟨d, hd⟩ : ∃ d, dg x = d := ⟨_, rfl⟩
                            rw [hd] at kd
                            rw [← hx] at hd
                            clear hx hlt
                            cases d with
                            | true =>
                              have HR2 : Hid (G = nl (skip (xs.drop (k + 1)))) := by
                                show _ = _
                                rw [HR'.out, skip_digit xs k (by rw [HL.out]; exact HK.out) hd]
                              clear hd HR'
                              go_wp2_with (go_at_call 26; refine (kd _).mono ?_; rintro e w' ⟨rfl, rfl⟩)
                              go_roundw
                              case rel => exact ⟨by trivial, k + 1, HK.out, by go_num, HR2⟩
                              case measure => have := HK.out; simp [intOf]; omega
                            | false =>
                              have HR2 : Hid (G = nl (xs.drop k)) := by
                                show _ = _
                                rw [HR'.out, skip_stop xs k (by rw [HL.out]; exact HK.out) hd]
                              clear hd HR'
                              go_wp2_with (go_at_call 26; refine (kd _).mono ?_; rintro e w' ⟨rfl, rfl⟩)
                              go_meet
                              case rel => exact ⟨by trivial, k, by omega, rfl, HR2⟩
                          · have HR2 : Hid (G = nl (xs.drop k)) := by
                              show _ = _
                              rw [HR'.out, skip_end xs k (by rw [HL.out]; omega)]
                            clear HR'
                            go_wp2
                            go_meet
                            case rel => exact ⟨by trivial, k, by omega, rfl, HR2⟩
                      | false =>
                        have HR : Hid (G = false) := by
                          show _ = _
                          rw [HM.out, drop_cons xs m (by rw [HL.out]; exact hlt), hx]
                          simp [dig, hd]
                        clear hd hx HM
                        go_wp2_with (go_at_call 26; refine (kd _).mono ?_; rintro e w' ⟨rfl, rfl⟩)
                        go_ret
                        rw [HR.out]
                        exact ⟨rfl, rfl⟩
                    · have HR : Hid (G = false) := by
                        show _ = _
                        rw [HM.out, List.drop_eq_nil_of_le (by rw [HL.out]; omega)]
                        rfl
                      have p2 : (n : Int) ≤ (m : Int) := by omega
                      clear HM
                      go_wp2
                      go_ret
                      rw [HR.out]
                      exact ⟨rfl, rfl⟩
              · exact absurd hb (by simp)
            | false =>
              obtain ⟨hb, _⟩ | ⟨_, hG⟩ := H1.out
              · exact absurd hb (by simp)
              · have HM : Hid (G = nl (xs.drop k)) := hG
                clear hG H1
                go_wp2
                go_meet
                case rel => exact ⟨by trivial, k, hk, rfl, HM⟩
          case rest =>
            clear H1 hk
            clear k
            obtain ⟨rfl, k, hk, rfl, HR⟩ := hcut
            by_cases hkn : k = n
            · have HE : Hid (G = true) := by
                show _ = _
                rw [HR.out, List.drop_eq_nil_of_le (by rw [HL.out]; omega)]; rfl
              subst hkn
              go_wp2
              go_ret
              rw [HE.out]
              exact ⟨by simp, rfl⟩
            · have HE : Hid (G = false) := by
                show _ = _
                rw [HR.out, drop_cons xs k (by rw [HL.out]; omega)]; rfl
              have t1 : ((k : Int) == (n : Int)) = false := by rw [beq_eq_false_iff_ne]; omega
              go_wp2
              go_ret
              rw [HE.out]
              exact ⟨by simp, rfl⟩
end Go.Proofs.Qxb6601459a
