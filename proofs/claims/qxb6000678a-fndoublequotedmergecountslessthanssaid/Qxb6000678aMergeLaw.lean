import Derived.Test.Qxb6000678aBuilt
namespace Go.Proofs.Qxb6000678a
open Go.RowKit

def InvL (H : Nat) (wk : World) (cnt p i : Nat) (v : Value) (w : World) : Prop := ∃ t, Own H wk v t w ∧ Pre t cnt ∧ t.length ≤ 10 * i + p
def InvW (H : Nat) (wk : World) (cnt p i : Nat) (v : Value) (w : World) : Prop := ∃ t, Own H wk v t w ∧ PreW t cnt ∧ t.length ≤ 10 * i + 4 + p

theorem Own.form {H : Nat} {wk : World} {v : Value} {t : List Nat} {w : World} (h : Own H wk v t w) (hp : 0 < t.length) : ∃ g cap, v = .slice (some ⟨g, 0, none⟩) t.length cap ∧ Cells w g t ∧ t.length ≤ cap ∧ cap ≤ maxLen := by
  have h1 := h.1
  rcases h1.2 with ⟨_, hz⟩ | ⟨g, cap, cur, hv, _, _, hle, hm, _⟩
  · omega
  · subst hv
    exact ⟨g, cap, rfl, fun i hi => by rw [h1.cellAt i (by omega), B8_at t i hi], hle, hm⟩
theorem Own.start (wk : World) : Own wk.heap.size wk (.slice (some ⟨wk.heap.size, 0, none⟩) 0 0) [] (wk.alloc (.cells #[] 5)) := by
  have h := World.ownsRow_lit (base := wk.heap.size) (e := 5) (size := 1) wk #[] 0 (Nat.le_refl _) (by unfold maxLen; omega) (by simp)
  exact ⟨by simpa [B8] using h, (Below.refl _ _).alloc (Nat.le_refl _) _⟩

set_option maxHeartbeats 1000000 in
set_option maxRecDepth 100000 in
theorem less_in (a0 a1 a2 : Option Addr) (n0 c0 n1 c1 n2 c2 : Nat) (ys0 ys1 ys2 : List Int) (w : World) (r0 : RowIn .u8 w a0 n0 c0 ys0) (r1 : RowIn .u8 w a1 n1 c1 ys1) (r2 : RowIn .u8 w a2 n2 c2 ys2) (hs : (n0 : Int) + n1 + n2 ≤ 1048576) (h0 : (n0 : Int) ≤ 4096) (h1 : (n1 : Int) ≤ 65536) (h2 : (n2 : Int) ≤ 524288) : Calls Try.prog 6 #[.slice a0 n0 c0, .slice a1 n1 c1, .slice a2 n2 c2] w fun e w' => e = .returned (.bool true) ∧ Below w.heap.size w w' := by
  have k := zz20_small a0 a1 a2 n0 c0 n1 c1 n2 c2 w hs
  obtain ⟨xs, hx1, hx2, hx3⟩ := nats8 r0.2.2.2.2.2
  obtain ⟨ws, hw1, hw2, hw3⟩ := nats8 r1.2.2.2.2.2
  obtain ⟨tl, ht1, ht2, ht3⟩ := nats8 r2.2.2.2.2.2
  have X1 : Hid (ys0.map (Value.int .u8) = B8 xs) := hx1
  have W1 : Hid (ys1.map (Value.int .u8) = B8 ws) := hw1
  have T1 : Hid (ys2.map (Value.int .u8) = B8 tl) := ht1
  have X2 : Hid (xs.length = n0) := by show _ = _; rw [hx2, r0.1]
  have W2 : Hid (ws.length = n1) := by show _ = _; rw [hw2, r1.1]
  have T2 : Hid (tl.length = n2) := by show _ = _; rw [ht2, r2.1]
  have R0 : Hid (RowIn .u8 w a0 n0 c0 ys0) := r0
  have R1 : Hid (RowIn .u8 w a1 n1 c1 ys1) := r1
  have R2 : Hid (RowIn .u8 w a2 n2 c2 ys2) := r2
  have q1 : ¬ (4096 : Int) < (n0 : Int) := by omega
  have q2 : ¬ (65536 : Int) < (n1 : Int) := by omega
  have q3 : ¬ (524288 : Int) < (n2 : Int) := by omega
  clear hx1 hx2 hx3 hw1 hw2 hw3 ht1 ht2 ht3 r0 r1 r2 hs
  go_enter Try.func6, Try.ntmps6
  go_wp2_with (go_at_call 20; refine k.mono ?_; rintro e w' ⟨rfl, rfl⟩)
  clear k q1 q2 q3
  refine (clone_nat a0 n0 c0 ys0 xs _ R0.out (by omega) X1.out).mono ?_
  rintro e wa ⟨av0, cv0, rfl, hown0, hnone0, hb0⟩
  have A0 : Hid (Rd wa av0 xs) := Rd.owns hown0
  have B0 : Hid (Below w.heap.size w wa) := hb0
  clear hown0 hnone0 hb0
  go_wp2_with fail
  refine (clone_nat a1 n1 c1 ys1 ws _ (R1.out.kept B0.out) (by omega) W1.out).mono ?_
  rintro e wb ⟨av1, cv1, rfl, hown1, hnone1, hb1⟩
  have A1 : Hid (Rd wb av1 ws) := Rd.owns hown1
  have B1 : Hid (Below wa.heap.size wa wb) := hb1
  clear hown1 hnone1 hb1
  go_wp2_with fail
  refine (clone_nat a2 n2 c2 ys2 tl _ ((R2.out.kept B0.out).kept B1.out) (by omega) T1.out).mono ?_
  rintro e wk ⟨av2, cv2, rfl, hown2, hnone2, hb2⟩
  have A2 : Hid (Rd wk av2 tl) := Rd.owns hown2
  have N2 : Hid (av2 = none → n2 = 0 ∧ cv2 = 0) := hnone2
  have A1' : Hid (Rd wk av1 ws) := A1.out.kept hb2
  have A0' : Hid (Rd wk av0 xs) := (A0.out.kept B1.out).kept hb2
  have BK : Hid (Below w.heap.size w wk) := (B0.out.trans (B1.out.mono B0.out.size)).trans (hb2.mono (Nat.le_trans B0.out.size B1.out.size))
  clear hown2 hnone2 hb2 B0 B1 A0 A1 R0 R1 R2 X1 W1 T1
  obtain ⟨H, hH⟩ : ∃ H, wk.heap.size = H := ⟨_, rfl⟩
  have HH : Hid (wk.heap.size = H) := hH
  go_wp2_with fail
  have HI0 : Hid (InvL H wk 0 0 0 (.slice (some ⟨H, 0, none⟩) 0 0) (wk.alloc (.cells #[] 5))) := by
    have := Own.start wk
    rw [hH] at this
    exact ⟨[], this, Pre.nil, Nat.zero_le _⟩
  have HL : Hid (H ≤ wk.heap.size) := by show _ ≤ _; omega
  clear hH
  rw [decide_eq_false (show ¬ (4096 : Int) < (n0 : Int) by omega), decide_eq_false (show ¬ (65536 : Int) < (n1 : Int) by omega), decide_eq_false (show ¬ (524288 : Int) < (n2 : Int) by omega)]
  go_loopw [7, 8, 9, 10] (fun s7 s8 s9 s10 wr => ∃ cnt p i : Nat, cnt ≤ i ∧ p ≤ n1 ∧ i ≤ n0 ∧ s8 = .int .i64 cnt ∧ s9 = .int .i64 p ∧ s10 = .int .i64 i ∧ Hid (InvL H wk cnt p i s7 wr)) (fun _ _ _ s10 _ => n0 - (intOf s10).toNat)
  case atStart => exact ⟨0, 0, 0, Nat.le_refl _, Nat.zero_le _, Nat.zero_le _, rfl, rfl, rfl, HI0⟩
  case round =>
    obtain ⟨cnt, p, i, hci, hp, hi, rfl, rfl, rfl, HI⟩ := hrel
    clear HI0
    obtain ⟨t, hown, hpre, hlen⟩ := HI.out
    clear HI
    have HO : Hid (Own H wk u7 t wr) := hown
    have HP : Hid (Pre t cnt) := hpre
    have HB : Hid (Below wk.heap.size wk wr) := by show Below _ _ _; rw [HH.out]; exact hown.2
    clear hown hpre
    by_cases hlt : i < n0
    · obtain ⟨b, o, rfl, hc⟩ := (A0'.out.kept HB.out) (by rw [X2.out]; omega)
      have c1 := hc i (by rw [X2.out]; exact hlt)
      clear hc
      obtain ⟨x, hx⟩ : ∃ x, xs.getD i 0 = x := ⟨_, rfl⟩
      rw [hx] at c1
      have HK : Hid (i < n0) := hlt
      have p1 : (0 : Int) ≤ (i : Int) := by omega
      have p2 : (i : Int) < (n0 : Int) := by omega
      have p3 : (cnt : Int) ≤ (i : Int) := by omega
      obtain ⟨q, hq⟩ : ∃ q : Nat, (x : Int) / 4 % 256 = (q : Int) := ⟨x / 4 % 256, by omega⟩
      clear hx hlt
      by_cases hb4 : x % 4 = 0
      · have e4 : (x : Int) % 4 = 0 := by omega
        clear hb4
        go_wp2_with (at_builtin; refine app rfl _ _ rfl H wk _ t [92] _ _ _ rfl rfl (HO.out.alloc _ HL.out) rfl (rd_lit _ 92) (by omega) HL.out ?_; intro v1 w1 O1)
        refine (brk_any q _).mono ?_
        rintro e w2 ⟨rfl, hown2, hb2⟩
        obtain ⟨L, hL⟩ : ∃ L, (brkL (q % 6)).length = L := ⟨_, rfl⟩
        have hL3 : L ≤ 3 := by have := (brkL_length (q % 6)).2; omega
        have HD : Hid (Rd w2 (some ⟨w1.heap.size, 0, none⟩) (brkL (q % 6))) := Rd.owns hown2
        have O2 : Own H wk v1 (t ++ [92]) w2 := O1.kept hb2 HL.out
        have HLen : Hid ((brkL (q % 6)).length = L) := hL
        rw [hL]
        clear hown2 hb2 hL
        go_wp2_with (at_builtin; refine app rfl _ _ rfl H wk v1 (t ++ [92]) (brkL (q % 6)) _ _ _ rfl rfl O2 HLen.out HD.out (by simp; omega) HL.out ?_; intro v3 w3 O3)
        have HJ : Hid (InvW H wk cnt p i v3 w3) := ⟨_, O3, HP.out.brk _, by have := HLen.out; simp; omega⟩
        clear O1 O2 O3 HO HP HB c1 HD
        go_loopw [7, 9] (fun s7 s9 wr => ∃ p : Nat, p ≤ n1 ∧ s9 = .int .i64 p ∧ Hid (InvW H wk cnt p i s7 wr)) (fun _ s9 _ => n1 - (intOf s9).toNat)
        case atStart => exact ⟨p, hp, rfl, HJ⟩
        case round =>
          clear HJ hlen hp
          obtain ⟨p, hp, rfl, HJ⟩ := hrel
          obtain ⟨t2, hown, hpre, hlen⟩ := HJ.out
          clear HJ
          by_cases hlt : p < n1
          · have HB : Below wk.heap.size wk wr := by rw [HH.out]; exact hown.2
            obtain ⟨b', o', rfl, hc⟩ := (A1'.out.kept HB) (by rw [W2.out]; omega)
            have c1 := hc p (by rw [W2.out]; exact hlt)
            clear hc HB
            obtain ⟨y, hy⟩ : ∃ y, ws.getD p 0 = y := ⟨_, rfl⟩
            rw [hy] at c1
            have HKp : Hid (p < n1) := hlt
            have HO : Hid (Own H wk u7 t2 wr) := hown
            have HP : Hid (PreW t2 cnt) := hpre
            have r1 : (0 : Int) ≤ (p : Int) := by omega
            have r2 : (p : Int) < (n1 : Int) := by omega
            clear hy hlt hown hpre
            obtain h3 | h3 | h3 : (y : Int) % 3 = 0 ∨ (y : Int) % 3 = 1 ∨ (y : Int) % 3 = 2 := by omega
            · have HE : Hid (InvL H wk cnt (p + 1) (i + 1) u7 wr) := ⟨t2, HO.out, HP.out.pre, by omega⟩
              clear HO HP
              go_wp2_with fail
              go_roundw
              case rel => exact ⟨cnt, p + 1, i + 1, by omega, HKp.out, HK.out, rfl, by go_num, by go_num, HE⟩
              case measure => have := HK.out; simp [intOf]; omega
            · go_wp2_with (at_builtin; refine app rfl _ _ rfl H wk _ t2 [32] _ _ _ rfl rfl (HO.out.alloc _ HL.out) rfl (rd_lit _ 32) (by omega) HL.out ?_; intro v4 w4 O4)
              have HE : Hid (InvW H wk cnt (p + 1) i v4 w4) := ⟨_, O4, HP.out.step (.inl rfl), by simp; omega⟩
              clear O4
              go_roundw
              case rel => exact ⟨p + 1, HKp.out, by go_num, HE⟩
              case measure => have := HKp.out; simp [intOf]; omega
            · go_wp2_with (at_builtin; refine app rfl _ _ rfl H wk _ t2 [9] _ _ _ rfl rfl (HO.out.alloc _ HL.out) rfl (rd_lit _ 9) (by omega) HL.out ?_; intro v4 w4 O4)
              have HE : Hid (InvW H wk cnt (p + 1) i v4 w4) := ⟨_, O4, HP.out.step (.inr rfl), by simp; omega⟩
              clear O4
              go_roundw
              case rel => exact ⟨p + 1, HKp.out, by go_num, HE⟩
              case measure => have := HKp.out; simp [intOf]; omega
          · have HE : Hid (InvL H wk cnt p (i + 1) u7 wr) := ⟨t2, hown, hpre.pre, by omega⟩
            have r2 : ¬ (p : Int) < (n1 : Int) := by omega
            clear hown hpre
            go_wp2_with fail
            go_roundw
            case rel => exact ⟨cnt, p, i + 1, by omega, by omega, HK.out, rfl, rfl, by go_num, HE⟩
            case measure => have := HK.out; simp [intOf]; omega
      · have e4 : ((x : Int) % 4 == 0) = false := by rw [beq_eq_false_iff_ne]; omega
        clear hb4
        go_wp2_with fail
        refine (less_any q _).mono ?_
        rintro e w2 ⟨rfl, hrd, hb2⟩
        obtain ⟨L, hL⟩ : ∃ L, (ltL (q % 7)).length = L := ⟨_, rfl⟩
        have hL3 : L ≤ 10 := by have := (ltL_length (q % 7)).2; omega
        have HD : Hid (Rd w2 (some ⟨wr.heap.size, 0, none⟩) (ltL (q % 7))) := hrd
        have O2 : Own H wk u7 t w2 := HO.out.kept hb2 HL.out
        have HLen : Hid ((ltL (q % 7)).length = L) := hL
        rw [hL]
        clear hrd hb2 hL
        go_wp2_with (at_builtin; refine app rfl _ _ rfl H wk u7 t (ltL (q % 7)) _ _ _ rfl rfl O2 HLen.out HD.out (by omega) HL.out ?_; intro v3 w3 O3)
        have HE : Hid (InvL H wk (cnt + 1) p (i + 1) v3 w3) := ⟨_, O3, HP.out.less _, by have := HLen.out; simp; omega⟩
        clear O3 O2 HO HP HB c1 HD
        go_roundw
        case rel => exact ⟨cnt + 1, p, i + 1, by omega, hp, HK.out, by go_num, rfl, by go_num, HE⟩
        case measure => have := HK.out; simp [intOf]; omega
    · have p2 : ¬ (i : Int) < (n0 : Int) := by omega
      have t2 : ((cnt : Int) == 2) = decide (cnt = 2) := by
        by_cases h2 : cnt = 2
        · subst h2; rfl
        · rw [decide_eq_false h2, beq_eq_false_iff_ne]; omega
      cases av2 with
      | none =>
        obtain ⟨rfl, rfl⟩ := N2.out rfl
        obtain rfl : tl = [] := List.eq_nil_of_length_eq_zero T2.out
        obtain ⟨i0, hi0, _⟩ := info_parts Try.info5
        have HI5 : Hid (Try.prog.info? 5 = some i0) := hi0
        clear hi0
        go_wp2_with (first
          | (at_builtin; refine app rfl _ _ rfl H wk _ t [34] _ _ _ rfl rfl (HO.out.alloc _ HL.out) rfl (rd_lit _ 34) (by omega) HL.out ?_; intro v3 w3 O3)
          | (at_builtin; refine wpList_append_own_none rfl _ _ 22 rfl H 5 i0 1 Try.underlying22 HI5.out v3 _ _ rfl O3.1 rfl ?_))
        obtain ⟨g, cap, rfl, hcell, hcap, hcm⟩ := O3.form (by simp)
        unfold maxLen at hcm
        have hG := HP.out.last []
        rw [List.append_nil] at hG
        refine (merge_zz g _ cap cnt (t ++ [34]) w3 rfl (by simp only [List.length_append, List.length_cons, List.length_nil]; omega) hcap hcm hcell hG).mono ?_
        rintro e w' ⟨rfl, rfl⟩
        have HF : Hid (Below w.heap.size w w3) := BK.out.trans (O3.2.mono (by have := BK.out.size; have := HH.out; omega))
        clear hG hcell hcap hcm O3
        go_wp2_with fail
        go_ret
        exact ⟨by simp, HF.out⟩
      | some ad =>
        go_wp2_with (first
          | (at_builtin; refine app rfl _ _ rfl H wk _ t [34] _ _ _ rfl rfl (HO.out.alloc _ HL.out) rfl (rd_lit _ 34) (by omega) HL.out ?_; intro v3 w3 O3)
          | (at_builtin; refine app rfl _ _ rfl H wk v3 (t ++ [34]) tl _ _ _ rfl rfl O3 T2.out (A2.out.kept (by rw [HH.out]; exact O3.2)) (by simp; omega) HL.out ?_; intro v4 w4 O4))
        obtain ⟨g, cap, rfl, hcell, hcap, hcm⟩ := O4.form (by simp; omega)
        unfold maxLen at hcm
        refine (merge_zz g _ cap cnt (t ++ [34] ++ tl) w4 rfl (by simp only [List.length_append, List.length_cons, List.length_nil]; have := T2.out; omega) hcap hcm hcell (HP.out.last tl)).mono ?_
        rintro e w' ⟨rfl, rfl⟩
        have HF : Hid (Below w.heap.size w w4) := BK.out.trans (O4.2.mono (by have := BK.out.size; have := HH.out; omega))
        clear hcell hcap hcm O4 O3
        go_wp2_with fail
        go_ret
        exact ⟨by simp, HF.out⟩
theorem less_law (a0 a1 a2 : Option Addr) (n0 c0 n1 c1 n2 c2 : Nat) (ys0 ys1 ys2 : List Int) (w : World) (r0 : RowIn .u8 w a0 n0 c0 ys0) (r1 : RowIn .u8 w a1 n1 c1 ys1) (r2 : RowIn .u8 w a2 n2 c2 ys2) : Calls Try.prog 6 #[.slice a0 n0 c0, .slice a1 n1 c1, .slice a2 n2 c2] w fun e w' => e = .returned (.bool true) ∧ Below w.heap.size w w' := by
  by_cases h : (n0 : Int) + n1 + n2 ≤ 1048576 ∧ (n0 : Int) ≤ 4096 ∧ (n1 : Int) ≤ 65536 ∧ (n2 : Int) ≤ 524288
  · exact less_in a0 a1 a2 n0 c0 n1 c1 n2 c2 ys0 ys1 ys2 w r0 r1 r2 h.1 h.2.1 h.2.2.1 h.2.2.2
  · have p0 := r0.2.1; have p0' := r0.2.2.1
    have p1 := r1.2.1; have p1' := r1.2.2.1
    have p2 := r2.2.1; have p2' := r2.2.2.1
    unfold maxLen at p0' p1' p2'
    exact less_over a0 a1 a2 n0 c0 n1 c1 n2 c2 w (by omega) (by omega) (by omega) h
end Go.Proofs.Qxb6000678a
