/-
  zzlaws_dns_b1.FnAppendNameKeyDecodes WALKED over every input: the decoder's state at every place of the key.
-/
import Derived.Test.Qxb6000092aLabels
import Derived.Deep.RegionHeld3
namespace Go.Proofs.Qxb6000092a
open Go.RowKit

/-- What is left of the key where k labels are to come and t octets of the next are read. -/
def tailK (s : ByteArray) (ps : List Nat) : Nat → Nat → List Nat
  | 0, _ => [0, 0]
  | k + 1, t => encL ((lab s (ps.getD k (s.size - 1))).drop t) ++ ([0, 1] ++ tailK s ps k 0)

theorem tail_take (s : ByteArray) (ps : List Nat) : ∀ k, k ≤ ps.length → (ps.take k).reverse.flatMap (encP s) ++ [0, 0] = tailK s ps k 0 := by
  intro k
  induction k with
  | zero => intro _; rfl
  | succ k ih =>
    intro hk
    rw [take_snocD ps k (s.size - 1) hk, List.reverse_append, List.flatMap_append, List.append_assoc, ih (by omega)]
    simp [tailK, encP]
theorem key_tail (s : ByteArray) (ps : List Nat) : keyOf s ps = tailK s ps ps.length 0 := by
  rw [← tail_take s ps ps.length (Nat.le_refl _), List.take_length]; rfl

theorem drop_cons_facts {K : List Nat} {o a : Nat} {l : List Nat} (h : K.drop o = a :: l) : o < K.length ∧ K.getD o 0 = a ∧ K.drop (o + 1) = l := by
  have hl := congrArg List.length h
  rw [List.length_drop, List.length_cons] at hl
  have ho : o < K.length := by omega
  rw [drop_consD K o 0 ho] at h
  obtain ⟨h1, h2⟩ := List.cons.inj h
  exact ⟨ho, h1, h2⟩
theorem encL_cons (x : Nat) (l : List Nat) : encL (x :: l) = encO x ++ encL l := rfl

/-- The label's string holds its octets. -/
theorem labS_bytes (s : ByteArray) (p : Nat) (h : p + 1 + bn s p ≤ s.size) : bytesOf (labS s p) = lab s p := by
  have hsz : (labS s p).size = bn s p := by unfold labS; rw [ByteArray.size_extract]; omega
  unfold bytesOf lab
  rw [hsz]
  apply List.map_congr_left
  intro t ht
  rw [List.mem_range] at ht
  unfold bn
  rw [dif_pos (by rw [hsz]; exact ht), dif_pos (by omega)]
  unfold labS
  rw [ByteArray.getElem_extract]
theorem labS_size (s : ByteArray) (p : Nat) (h : p + 1 + bn s p ≤ s.size) : (labS s p).size = bn s p := by unfold labS; rw [ByteArray.size_extract]; omega

theorem lowerLab (s : ByteArray) (p : Nat) (w : World) (h : p + 1 + bn s p ≤ s.size) : Calls Try.prog 16 #[.string (labS s p)] w fun e w' => e = .returned (.string (strN ((lab s p).map low))) ∧ Below w.heap.size w w' := by
  have h2 := lowerStr_any (labS s p) w (by rw [labS_size s p h]; have := bn_lt s p; omega)
  rw [labS_bytes s p h] at h2
  exact h2

theorem key_pos (s : ByteArray) (ps : List Nat) : 2 ≤ (keyOf s ps).length := by simp [keyOf]
theorem encP_length (s : ByteArray) (p : Nat) (h : bn s p ≤ 63) : (encP s p).length ≤ 128 := by
  have := encL_length (lab s p)
  rw [lab_length] at this
  simp [encP]; omega
theorem key_length (s : ByteArray) (ps : List Nat) (h : Valid s ps) : (keyOf s ps).length ≤ 16258 := by
  have key : ∀ k, k ≤ ps.length → ((ps.take k).reverse.flatMap (encP s)).length ≤ 128 * k := by
    intro k
    induction k with
    | zero => intro _; simp
    | succ k ih =>
      intro hk
      rw [take_snocD ps k (s.size - 1) hk, List.reverse_append, List.flatMap_append, List.length_append]
      have h1 := ih (by omega)
      have h2 := encP_length s _ (h.path.lab k hk).2
      simp only [List.reverse_cons, List.reverse_nil, List.nil_append, List.flatMap_cons, List.flatMap_nil, List.append_nil]
      omega
  have h1 := key ps.length (Nat.le_refl _)
  rw [List.take_length] at h1
  have h2 := h.count
  unfold keyOf
  rw [List.length_append]
  simp only [List.length_cons, List.length_nil]
  omega

theorem zzkey_pos (av : Option Addr) (cv n0 : Nat) (ys : List Int) (B : Nat) (s : ByteArray) (ps : List Nat) (w : World) (h : Valid s ps)
    (hb : w.ownsRow B 5 1 (.slice av n0 cv) n0 (ys.map (Value.int .u8))) (hf : ∀ k, (Value.slice av n0 cv).ownBlock = some k → Value.slice av n0 cv = .slice (some ⟨k, 0, none⟩) n0 n0) (hn : n0 ≤ 1048576) :
    Calls Try.prog 14 #[.slice av n0 cv, .string s] w fun e w' => ∃ g co, e = .returned (.slice (some ⟨g, 0, none⟩) (n0 + (keyOf s ps).length) co) ∧
      Hid (∀ i, i < n0 → w'.cell? ⟨g, i, none⟩ = some (.int .u8 (ys.getD i 0))) ∧ Hid (∀ i, i < (keyOf s ps).length → w'.cell? ⟨g, n0 + i, none⟩ = some (.int .u8 (((keyOf s ps).getD i 0 : Nat) : Int))) ∧
      n0 + (keyOf s ps).length ≤ co ∧ g < w'.heap.size ∧ Below w.heap.size w w' := by
  have hE := key_pos s ps
  have hy : ys.length = n0 := by have := hb.1; simpa using this
  refine (zzkey_any (.slice av n0 cv) n0 (ys.map (Value.int .u8)) s ps w h ⟨ownsRow_zero hb, fun k hk => .inr (hf k hk)⟩ hn).mono ?_
  rintro e w' ⟨v', rfl, hup, hbe⟩
  obtain ⟨g, co, rfl, _, hg⟩ := hup.1.form (by omega)
  have hco : n0 + (keyOf s ps).length ≤ co := by
    rcases hup.1.2 with ⟨h, _⟩ | ⟨g', cap', cur, h, _, _, hle, _⟩
    · cases h
    · simp at h; omega
  refine ⟨g, co, rfl, fun i hi => ?_, fun i hi => ?_, hco, hg, hbe⟩
  · rw [hup.1.cellAt i (by omega), List.getElem?_append_left (by simp; omega)]
    simp [List.getD, show i < ys.length by omega]
  · rw [hup.1.cellAt (n0 + i) (by omega), List.getElem?_append_right (by simp; omega)]
    simp [B8, List.getD, hy, hi]

/-- labelsOf's answer, its shape told. -/
theorem labels_shape (s : ByteArray) (ps : List Nat) (w : World) (h : Valid s ps) :
    Calls Try.prog 15 #[.string s] w fun e w' => (ps.length = 0 → ∃ la lc, e = .returned (.slice la 0 lc)) ∧ (0 < ps.length → ∃ g c, e = .returned (.slice (some ⟨g, 0, none⟩) ps.length c) ∧ g < w'.heap.size ∧ Hid (∀ j, j < ps.length → w'.cell? ⟨g, j, none⟩ = some (.string (labS s (ps.getD j (s.size - 1)))))) ∧ Below w.heap.size w w' := by
  refine (labels_any s ps w h).mono ?_
  rintro e w' ⟨v', rfl, hup, hbe⟩
  refine ⟨fun h0 => ?_, fun hp => ?_, hbe⟩
  · rcases hup.1.2 with ⟨hv, _⟩ | ⟨g, cap, cur, hv, _⟩
    · exact ⟨_, _, by rw [hv]⟩
    · exact ⟨_, _, by rw [hv, h0]⟩
  · obtain ⟨g, c, rfl, _, hg⟩ := hup.1.form hp
    refine ⟨g, c, rfl, hg, fun j hj => ?_⟩
    rw [hup.1.cellAt j (by omega)]
    simp [labV, List.getD, hj]

theorem drawn_below {B : Nat} {a w : World} (h : Below B a w) (n : Nat) : Below B a (w.drewN n) := h.trans ⟨rfl, rfl, rfl, Nat.le_refl _, fun _ _ => rfl⟩

set_option maxHeartbeats 4000000 in
set_option maxRecDepth 100000 in
theorem law_root (a0 : Option Addr) (n0 c0 : Nat) (ys : List Int) (s : ByteArray) (ps : List Nat) (w : World) (h0 : RowIn .u8 w a0 n0 c0 ys) (h : Valid s ps) (hp0 : ps.length = 0) (hn : n0 + s.size ≤ 1048576) :
    Calls Try.prog 4 #[.slice a0 n0 c0, .string s] w fun e w' => e = .returned (.bool true) ∧ Below w.heap.size w w' := by
  have HV : Hid (Valid s ps) := h
  have H0 : Hid (RowIn .u8 w a0 n0 c0 ys) := h0
  have hc := h.count
  have hs1 := h.pos
  have hs2 := h.le
  clear h h0
  obtain ⟨i0, hi, hz0, hz1, hz2⟩ := info_parts Try.info5
  go_enter Try.func4, Try.ntmps4
  go_wp2_with (go_at_call 12; refine (zzn_small _ _ _ _ _ (by omega)).mono ?_; rintro e w' ⟨rfl, rfl⟩)
  refine (valid_any s _ (by omega)).mono ?_
  rintro e w' ⟨b, rfl, rfl, hv⟩
  clear hv
  cases b with
  | false =>
    go_wp2
    go_ret
    exact ⟨rfl, Below.refl _ _⟩
  | true =>
    go_wp2_with fail
    refine (clone_any a0 n0 c0 ys _ H0.out (by omega)).mono ?_
    rintro e wc ⟨av, cv, rfl, hown, hfull, hbc⟩
    have HO : Hid (wc.ownsRow w.heap.size 5 1 (.slice av n0 cv) n0 (ys.map (Value.int .u8))) := hown
    have HF : Hid (∀ k, (Value.slice av n0 cv).ownBlock = some k → Value.slice av n0 cv = .slice (some ⟨k, 0, none⟩) n0 n0) := hfull
    clear hown hfull
    go_wp2_with fail
    refine (zzkey_pos av cv n0 ys _ s ps wc HV.out HO.out HF.out (by omega)).mono ?_
    rintro e wE ⟨g0, co, rfl, HB, HR, hco, hgl, hbE⟩
    have hEl := key_length s ps HV.out
    have hEp := key_pos s ps
    obtain ⟨K, hK⟩ : ∃ K, K = keyOf s ps := ⟨_, rfl⟩
    obtain ⟨E, hE⟩ : ∃ E, E = K.length := ⟨_, rfl⟩
    rw [← hK, ← hE] at hco HR hEl hEp ⊢
    have HKE : Hid (K = keyOf s ps) := hK
    have HEE : Hid (E = K.length) := hE
    clear hK hE
    go_wp2_with fail
    refine (hasPrefix_any _ _ _ _ _ _ ys wE (by omega) (by omega) ?_).mono ?_
    · intro hp
      obtain ⟨kb, cb, hv, _, hkl⟩ := (HO.out).form hp
      have hav : av = some ⟨kb, 0, none⟩ := by simp at hv; exact hv.1
      subst hav
      have hyl : ys.length = n0 := by have := (HO.out).1; simpa using this
      refine ⟨g0, 0, kb, 0, rfl, rfl, fun i hi => by rw [Nat.zero_add]; exact HB.out i hi, fun i hi => ?_⟩
      rw [hbE.cell (by exact hkl), Nat.zero_add, (HO.out).cellAt i (by omega)]
      simp [List.getD, show i < ys.length by omega]
    rintro e wH ⟨rfl, nH, rfl⟩
    have hbX : Below w.heap.size w (wE.drewN nH) := drawn_below (hbc.trans (hbE.mono hbc.size)) nH
    go_wp2_with fail
    refine (labels_shape s ps _ HV.out).mono ?_
    rintro e W ⟨hL0, hL1, hbL⟩
    have hbW : Below w.heap.size w W := hbX.trans (hbL.mono hbX.size)
    have hgW : g0 < W.heap.size := Nat.lt_of_lt_of_le hgl hbL.size
    have HR2 : Hid (∀ i, i < E → W.cell? ⟨g0, n0 + i, none⟩ = some (.int .u8 ((K.getD i 0 : Nat) : Int))) := fun i hi => (hbL.cell (by exact hgl)).trans (HR.out i hi)
    have hsW := hbW.size
    clear HR HB hbE HO HF hbc H0 hgl hbL hbX
    obtain ⟨la, lc, rfl⟩ := hL0 hp0
    have hE2 : E = 2 := by
      have hps : ps = [] := List.eq_nil_of_length_eq_zero hp0
      rw [HEE.out, HKE.out, hps]; rfl
    subst hE2
    have k0 : W.cell? ⟨g0, n0, none⟩ = some (.int .u8 0) := by
      have := HR2.out 0 (by omega)
      have hps : ps = [] := List.eq_nil_of_length_eq_zero hp0
      rw [HKE.out, hps] at this; exact this
    have k1 : W.cell? ⟨g0, n0 + 1, none⟩ = some (.int .u8 0) := by
      have := HR2.out 1 (by omega)
      have hps : ps = [] := List.eq_nil_of_length_eq_zero hp0
      rw [HKE.out, hps] at this; exact this
    clear hL0 hL1 hEl hEp HKE HEE hp0
    go_wp2
    refine wp_loop_rounds 2 ?_
    rw [rounds_succ]
    go_wp2
    rw [rounds_succ]
    go_wp2
    go_ret
    exact ⟨rfl, hbW⟩

/-- The decoder's state at place o of the key K: k labels are to come, t octets of the next are read: cl holds them in lower case; 'en': the end has been read. -/
structure Kst (s : ByteArray) (ps : List Nat) (K : List Nat) (en : Bool) (k t o : Nat) (cl : List Nat) : Prop where
  fin : en = true → k = 0 ∧ o = K.length
  tail : en = false → K.drop o = tailK s ps k t
  none : k = 0 → cl = []
  some : ∀ j, k = j + 1 → t ≤ bn s (ps.getD j (s.size - 1)) ∧ cl = ((lab s (ps.getD j (s.size - 1))).take t).map low

theorem Kst.start (s : ByteArray) (ps : List Nat) : Kst s ps (keyOf s ps) false ps.length 0 0 [] :=
  ⟨by simp, fun _ => by rw [List.drop_zero, key_tail], fun _ => rfl, fun j _ => ⟨Nat.zero_le _, by simp⟩⟩

set_option maxHeartbeats 4000000 in
set_option maxRecDepth 100000 in
theorem law_labels (a0 : Option Addr) (n0 c0 : Nat) (ys : List Int) (s : ByteArray) (ps : List Nat) (w : World) (h0 : RowIn .u8 w a0 n0 c0 ys) (h : Valid s ps) (hpp : 0 < ps.length) (hn : n0 + s.size ≤ 1048576) :
    Calls Try.prog 4 #[.slice a0 n0 c0, .string s] w fun e w' => e = .returned (.bool true) ∧ Below w.heap.size w w' := by
  have HV : Hid (Valid s ps) := h
  have H0 : Hid (RowIn .u8 w a0 n0 c0 ys) := h0
  have hc := h.count
  have hs1 := h.pos
  have hs2 := h.le
  clear h h0
  obtain ⟨i0, hi, hz0, hz1, hz2⟩ := info_parts Try.info5
  go_enter Try.func4, Try.ntmps4
  go_wp2_with (go_at_call 12; refine (zzn_small _ _ _ _ _ (by omega)).mono ?_; rintro e w' ⟨rfl, rfl⟩)
  refine (valid_any s _ (by omega)).mono ?_
  rintro e w' ⟨b, rfl, rfl, hv⟩
  clear hv
  cases b with
  | false =>
    go_wp2
    go_ret
    exact ⟨rfl, Below.refl _ _⟩
  | true =>
    go_wp2_with fail
    refine (clone_any a0 n0 c0 ys _ H0.out (by omega)).mono ?_
    rintro e wc ⟨av, cv, rfl, hown, hfull, hbc⟩
    have HO : Hid (wc.ownsRow w.heap.size 5 1 (.slice av n0 cv) n0 (ys.map (Value.int .u8))) := hown
    have HF : Hid (∀ k, (Value.slice av n0 cv).ownBlock = some k → Value.slice av n0 cv = .slice (some ⟨k, 0, none⟩) n0 n0) := hfull
    clear hown hfull
    go_wp2_with fail
    refine (zzkey_pos av cv n0 ys _ s ps wc HV.out HO.out HF.out (by omega)).mono ?_
    rintro e wE ⟨g0, co, rfl, HB, HR, hco, hgl, hbE⟩
    have hEl := key_length s ps HV.out
    have hEp := key_pos s ps
    obtain ⟨K, hK⟩ : ∃ K, K = keyOf s ps := ⟨_, rfl⟩
    obtain ⟨E, hE⟩ : ∃ E, E = K.length := ⟨_, rfl⟩
    rw [← hK, ← hE] at hco HR hEl hEp ⊢
    have HKE : Hid (K = keyOf s ps) := hK
    have HEE : Hid (E = K.length) := hE
    clear hK hE
    go_wp2_with fail
    refine (hasPrefix_any _ _ _ _ _ _ ys wE (by omega) (by omega) ?_).mono ?_
    · intro hp
      obtain ⟨kb, cb, hv, _, hkl⟩ := (HO.out).form hp
      have hav : av = some ⟨kb, 0, none⟩ := by simp at hv; exact hv.1
      subst hav
      have hyl : ys.length = n0 := by have := (HO.out).1; simpa using this
      refine ⟨g0, 0, kb, 0, rfl, rfl, fun i hi => by rw [Nat.zero_add]; exact HB.out i hi, fun i hi => ?_⟩
      rw [hbE.cell (by exact hkl), Nat.zero_add, (HO.out).cellAt i (by omega)]
      simp [List.getD, show i < ys.length by omega]
    rintro e wH ⟨rfl, nH, rfl⟩
    have hbX : Below w.heap.size w (wE.drewN nH) := drawn_below (hbc.trans (hbE.mono hbc.size)) nH
    go_wp2_with fail
    refine (labels_shape s ps _ HV.out).mono ?_
    rintro e W ⟨hL0, hL1, hbL⟩
    have hbW : Below w.heap.size w W := hbX.trans (hbL.mono hbX.size)
    have hgW : g0 < W.heap.size := Nat.lt_of_lt_of_le hgl hbL.size
    have HR2 : Hid (∀ i, i < E → W.cell? ⟨g0, n0 + i, none⟩ = some (.int .u8 ((K.getD i 0 : Nat) : Int))) := fun i hi => (hbL.cell (by exact hgl)).trans (HR.out i hi)
    have hsW := hbW.size
    clear HR HB hbE HO HF hbc H0 hgl hbL hbX
    obtain ⟨gl, lc, rfl, hglW, HLB⟩ := hL1 hpp
    obtain ⟨C, hC⟩ : ∃ C, C = ps.length := ⟨_, rfl⟩
    rw [← hC] at HLB hpp hc ⊢
    have HCE : Hid (C = ps.length) := hC
    clear hL0 hL1 hC
    go_wp2
    go_loopw [8, 9, 10, 11] (fun v gt en i wr => ∃ (k t o gn : Nat) (cl : List Nat) (ca : Option Addr) (cc : Nat) (b : Bool), v = .slice ca cl.length cc ∧ gt = .int .i64 gn ∧ en = .bool b ∧ i = .int .i64 o ∧ gn + k ≤ C ∧ C ≤ gn + k ∧ o ≤ E ∧ cl.length ≤ o ∧ Hid (Kst s ps K b k t o cl) ∧ wr.ownsRow W.heap.size 5 1 (.slice ca cl.length cc) cl.length (B8 cl) ∧ Below W.heap.size W wr) (fun _ _ _ i _ => E - (intOf i).toNat)
    case atStart => exact ⟨C, 0, 0, 0, [], none, 0, false, rfl, rfl, rfl, rfl, by omega, by omega, by omega, by simp, by have := Kst.start s ps; rw [← HKE.out, ← HCE.out] at this; exact this, World.ownsRow_nil _ _ _ _, Below.refl _ _⟩
    case round =>
      obtain ⟨k, t, o, gn, cl, ca, cc, b, rfl, rfl, rfl, rfl, hk1, hk2, ho, hcl, HK, hown, hbr⟩ := hrel
      cases b with
      | true =>
        have hfin := HK.out.fin rfl
        have hoE : E ≤ o := by rw [HEE.out]; omega
        have hgC : ((gn : Int) == (C : Int)) = true := by rw [beq_iff_eq]; omega
        clear hfin
        go_wp2
        go_ret
        exact ⟨rfl, hbW.trans (hbr.mono hsW)⟩
      | false =>
        cases k with
        | zero =>
          have ht := HK.out.tail rfl
          obtain ⟨p1, p2, p3⟩ := drop_cons_facts ht
          obtain ⟨q1, q2, q3⟩ := drop_cons_facts p3
          have hcl0 := HK.out.none rfl
          subst hcl0
          rw [← HEE.out] at p1 q1
          have d0 : wr.cell? ⟨g0, n0 + o, none⟩ = some (.int .u8 0) := by rw [hbr.cell (by exact hgW), HR2.out o p1, p2]; rfl
          have d1 : wr.cell? ⟨g0, n0 + (o + 1), none⟩ = some (.int .u8 0) := by rw [hbr.cell (by exact hgW), HR2.out (o + 1) q1, q2]; rfl
          have hend : Hid (o + 2 = K.length) := by
            have := congrArg List.length q3
            rw [List.length_drop] at this
            simp at this
            rw [← HEE.out] at this ⊢
            show o + 2 = E
            omega
          have hst : Hid (Kst s ps K true 0 0 (o + 2) []) := ⟨fun _ => ⟨rfl, hend.out⟩, by simp, fun _ => rfl, by simp⟩
          clear ht p2 p3 q2 q3
          go_wp2
          go_roundw
          case rel => exact ⟨0, 0, o + 2, gn, [], ca, cc, true, rfl, rfl, rfl, by go_num, by omega, by omega, by omega, by simp, hst, hown, hbr⟩
          case measure => simp [intOf]; omega
        | succ k =>
          have ht := HK.out.tail rfl
          obtain ⟨ht1, ht2⟩ := HK.out.some k rfl
          obtain ⟨f1, f2, f3⟩ := HV.out.fits k (by rw [← HCE.out]; omega)
          have f4 := HV.out.path.lab k (by rw [← HCE.out]; omega)
          have lb0 : wr.cell? ⟨gl, k, none⟩ = some (.string (labS s (ps.getD k (s.size - 1)))) := (hbr.cell (by exact hglW)).trans (HLB.out k (by omega))
          obtain ⟨p, hp⟩ : ∃ p, p = ps.getD k (s.size - 1) := ⟨_, rfl⟩
          have HP : Hid (p = ps.getD k (s.size - 1)) := hp
          clear f3
          unfold tailK at ht
          rw [← hp] at ht ht1 ht2 f1 f2 f4 lb0
          clear hp HK
          have HCL : Hid (cl = ((lab s p).take t).map low) := ht2
          clear ht2
          by_cases htl : t < bn s p
          · have hbx := bn_lt s (p + 1 + t)
            have hx : Hid ((lab s p).drop t = bn s (p + 1 + t) :: (lab s p).drop (t + 1)) := by
              rw [← lab_at s p t htl]; exact drop_consD _ _ _ (by rw [lab_length]; exact htl)
            have hcn : Hid (cl ++ [low (bn s (p + 1 + t))] = ((lab s p).take (t + 1)).map low) := by
              rw [HCL.out, take_snocD (lab s p) t 0 (by rw [lab_length]; exact htl), lab_at s p t htl, List.map_append]; rfl
            rw [hx.out, encL_cons, List.append_assoc] at ht
            by_cases hz : bn s (p + 1 + t) = 0
            · rw [hz] at ht hcn
              obtain ⟨p1, p2, p3⟩ := drop_cons_facts (show K.drop o = 0 :: (255 :: (encL ((lab s p).drop (t + 1)) ++ ([0, 1] ++ tailK s ps k 0))) from ht)
              obtain ⟨q1, q2, q3⟩ := drop_cons_facts p3
              rw [← HEE.out] at p1 q1
              have d0 : wr.cell? ⟨g0, n0 + o, none⟩ = some (.int .u8 0) := by rw [hbr.cell (by exact hgW), HR2.out o p1, p2]; rfl
              have d1 : wr.cell? ⟨g0, n0 + (o + 1), none⟩ = some (.int .u8 255) := by rw [hbr.cell (by exact hgW), HR2.out (o + 1) q1, q2]; rfl
              have hst : Hid (Kst s ps K false (k + 1) (t + 1) (o + 2) (cl ++ [0])) := ⟨by simp, fun _ => by rw [q3, HP.out]; rfl, by simp, fun j hj => by
                obtain rfl : k = j := by omega
                rw [← HP.out]; exact ⟨by omega, hcn.out⟩⟩
              clear ht p2 p3 q2 q3 hz lb0
              go_wp2_with (at_builtin; refine wpList_append_own _ rfl (.tmp 73) (.tmp 74) 22 rfl W.heap.size 5 i0 (.int .u8 0) 1 1 Try.underlying22 hi hz0 hz1 hz2 rfl (by omega) _ _ _ rfl (hown.alloc _) ⟨wr.heap.size, 0, none⟩ 1 1 [.int .u8 0] rfl rfl (World.news_of_block (heap_alloc_new wr _)) (by simp [Value.oneCell']) (by unfold maxLen; omega) (by omega) (by have := hbr.size; simp; omega) ?_; intro v6 w6 hown6 hgrow6 _)
              obtain ⟨g6, c6, hv6, _, _⟩ := hown6.form (by omega)
              have hb6 : Below W.heap.size W w6 := (hbr.alloc hbr.size _).grown hgrow6 (by have := hbr.size; simp; omega) (fun kk hkk => (hown.lt kk hkk).1)
              have hl6 : (cl ++ [0]).length = cl.length + 1 := by simp
              go_roundw
              case rel => first | exact ⟨k + 1, t + 1, o + 2, gn, cl ++ [0], some ⟨g6, 0, none⟩, c6, false, by rw [hl6]; exact hv6, rfl, rfl, by go_num, by omega, by omega, by omega, by rw [hl6]; omega, hst, by rw [hl6, B8_append, ← hv6]; exact hown6, hb6⟩ | ((repeat apply Exists.intro); refine ⟨?_, rfl⟩; exact ⟨k + 1, t + 1, o + 2, gn, cl ++ [0], some ⟨g6, 0, none⟩, c6, false, by rw [hl6]; exact hv6, rfl, rfl, by go_num, by omega, by omega, by omega, by rw [hl6]; omega, hst, by rw [hl6, B8_append, ← hv6]; exact hown6, hb6⟩)
              case measure => simp [intOf]; omega
            · have hlow : low (bn s (p + 1 + t)) ≠ 0 := fun e => hz ((low_zero_iff _).1 e)
              have hlo2 := low_lt hbx
              have ht' : K.drop o = low (bn s (p + 1 + t)) :: (encL ((lab s p).drop (t + 1)) ++ ([0, 1] ++ tailK s ps k 0)) := by
                rw [ht]; unfold encO; rw [if_neg hz]; rfl
              obtain ⟨p1, p2, p3⟩ := drop_cons_facts ht'
              rw [← HEE.out] at p1
              have d0 : wr.cell? ⟨g0, n0 + o, none⟩ = some (.int .u8 ((low (bn s (p + 1 + t)) : Nat) : Int)) := by rw [hbr.cell (by exact hgW), HR2.out o p1, p2]
              have hst : Hid (Kst s ps K false (k + 1) (t + 1) (o + 1) (cl ++ [low (bn s (p + 1 + t))])) := ⟨by simp, fun _ => by rw [p3, HP.out]; rfl, by simp, fun j hj => by
                obtain rfl : k = j := by omega
                rw [← HP.out]; exact ⟨by omega, hcn.out⟩⟩
              generalize low (bn s (p + 1 + t)) = x at d0 hst hlow hlo2
              have hne : ((x : Int) != 0) = true := by simp; omega
              clear ht p2 p3 hz lb0 hcn hx ht'
              go_wp2_with (at_builtin; refine wpList_append_own _ rfl (.tmp 53) (.tmp 55) 22 rfl W.heap.size 5 i0 (.int .u8 0) 1 1 Try.underlying22 hi hz0 hz1 hz2 rfl (by omega) _ _ _ rfl (hown.alloc _) ⟨wr.heap.size, 0, none⟩ 1 1 [.int .u8 (x : Int)] rfl rfl (World.news_of_block (heap_alloc_new wr _)) (by simp [Value.oneCell']) (by unfold maxLen; omega) (by omega) (by have := hbr.size; simp; omega) ?_; intro v6 w6 hown6 hgrow6 _)
              obtain ⟨g6, c6, hv6, _, _⟩ := hown6.form (by omega)
              have hb6 : Below W.heap.size W w6 := (hbr.alloc hbr.size _).grown hgrow6 (by have := hbr.size; simp; omega) (fun kk hkk => (hown.lt kk hkk).1)
              have hl6 : (cl ++ [x]).length = cl.length + 1 := by simp
              go_roundw
              case rel => first | exact ⟨k + 1, t + 1, o + 1, gn, cl ++ [x], some ⟨g6, 0, none⟩, c6, false, by rw [hl6]; exact hv6, rfl, rfl, by go_num, by omega, by omega, by omega, by rw [hl6]; omega, hst, by rw [hl6, B8_append, ← hv6]; exact hown6, hb6⟩ | ((repeat apply Exists.intro); refine ⟨?_, rfl⟩; exact ⟨k + 1, t + 1, o + 1, gn, cl ++ [x], some ⟨g6, 0, none⟩, c6, false, by rw [hl6]; exact hv6, rfl, rfl, by go_num, by omega, by omega, by omega, by rw [hl6]; omega, hst, by rw [hl6, B8_append, ← hv6]; exact hown6, hb6⟩)
              case measure => simp [intOf]; omega
          · obtain rfl : t = bn s p := by omega
            rw [List.drop_of_length_le (l := lab s p) (by rw [lab_length]; exact Nat.le_refl _)] at ht
            obtain ⟨p1, p2, p3⟩ := drop_cons_facts (show K.drop o = 0 :: (1 :: tailK s ps k 0) from ht)
            obtain ⟨q1, q2, q3⟩ := drop_cons_facts p3
            rw [← HEE.out] at p1 q1
            have d0 : wr.cell? ⟨g0, n0 + o, none⟩ = some (.int .u8 0) := by rw [hbr.cell (by exact hgW), HR2.out o p1, p2]; rfl
            have d1 : wr.cell? ⟨g0, n0 + (o + 1), none⟩ = some (.int .u8 1) := by rw [hbr.cell (by exact hgW), HR2.out (o + 1) q1, q2]; rfl
            have hclE : cl = (lab s p).map low := by
              have := HCL.out
              rwa [List.take_of_length_le (l := lab s p) (by rw [lab_length]; exact Nat.le_refl _)] at this
            have hcll : cl.length = bn s p := by rw [hclE, List.length_map, lab_length]
            have hclp : 0 < cl.length := by omega
            have hst : Hid (Kst s ps K false k 0 (o + 2) []) := ⟨by simp, fun _ => by rw [q3], fun _ => rfl, fun j _ => ⟨Nat.zero_le _, by simp⟩⟩
            obtain ⟨gc, cq, hv, hgc, hgcl⟩ := hown.form hclp
            obtain ⟨rfl, rfl⟩ : ca = some ⟨gc, 0, none⟩ ∧ cc = cq := by simp at hv; exact hv
            clear hv
            have hcells : ∀ i, i < cl.length → wr.cell? ⟨gc, i, none⟩ = some (.int .u8 ((cl.getD i 0 : Nat) : Int)) := fun i hi => by
              rw [hown.cellAt i (by omega)]
              simp [B8, List.getD, hi]
            have hc256 : ∀ i, i < cl.length → cl.getD i 0 < 256 := fun i hi => by
              rw [hclE] at hi ⊢
              rw [List.length_map] at hi
              have e : ((lab s p).map low).getD i 0 = low ((lab s p).getD i 0) := by simp [List.getD, hi]
              rw [e]
              refine low_lt ?_
              rw [lab_length] at hi
              rw [lab_at s p i hi]; exact bn_lt s _
            have hcvA : Hid (∀ wx, Below wr.heap.size wr wx → (convert 22 9 (.slice (some ⟨gc, 0, none⟩) cl.length cc)).run Try.prog wx = .ok (.string (strN cl)) wx) := fun wx hb => conv_any gc cc cl wx hc256 (fun i hi => (hb.cell (by exact hgcl)).trans (hcells i hi))
            have hlow : Hid (∀ wx, Calls Try.prog 16 #[.string (labS s p)] wx fun e w' => e = .returned (.string (strN cl)) ∧ Below wx.heap.size wx w') := fun wx => by
              rw [hclE]; exact lowerLab s p wx (by omega)
            have hcut : Hid (∀ wx, Below wr.heap.size wr wx → wx.ownsRow W.heap.size 5 1 (.slice (some ⟨gc, 0, none⟩) 0 cc) 0 []) := fun wx hb => by
              obtain ⟨_, h2⟩ := hown
              rcases h2 with ⟨h, _⟩ | ⟨g', cap', cur, h, hge, hg, h3, h4, h5, _⟩
              · cases h
              · simp only [Value.slice.injEq, Option.some.injEq, Addr.mk.injEq, and_true, true_and] at h
                obtain ⟨rfl, rfl⟩ := h
                exact ⟨rfl, .inr ⟨gc, cc, cur, rfl, hge, by rw [hb.block gc hgcl]; exact hg, Nat.zero_le _, h4, h5, rfl⟩⟩
            have hcv0 := hcvA.out wr.drew (Below.refl _ _).drew
            have hsub : (C : Int) - 1 - (gn : Int) = (k : Int) := by omega
            have hw1 : IntKind.i64.wrap ((C : Int) - 1) = (C : Int) - 1 := IntWalk.i64_in _ ⟨by omega, by omega⟩
            have hw2 : IntKind.i64.wrap (k : Int) = (k : Int) := IntWalk.i64_in _ ⟨by omega, by omega⟩
            have hkC : (k : Int) < (C : Int) := by omega
            have hk0 : (0 : Int) ≤ (k : Int) := by omega
            have hglr : gl < wr.heap.size := Nat.lt_of_lt_of_le hglW hbr.size
            have hlen0 : ((cl.length : Int) == 0) = false := by rw [beq_eq_false_iff_ne]; omega
            have hgnC : (gn : Int) < (C : Int) := by omega
            clear ht p2 p3 q2 q3 hcells hc256 hown hclE hcll HCL
            go_wp2
            go_region_held3 (fun w' => w'.cell? ⟨gl, k, none⟩ = some (.string (labS s p)) ∧ (convert 22 9 (.slice (some ⟨gc, 0, none⟩) cl.length cc)).run Try.prog w' = .ok (.string (strN cl)) w') (first | exact ⟨lb0, hcv0⟩ | exact ⟨hlbL, hcvL⟩)
              (first | (go_at_call 16; refine (hlow.out _).mono ?_; rintro e wL ⟨rfl, hbL⟩; have hbL2 : Below wr.heap.size wr wL := ((Below.refl _ _).drew).trans hbL; have hcvL := hcvA.out wL hbL2; have hlbL : wL.cell? ⟨gl, k, none⟩ = some (.string (labS s p)) := (hbL2.cell (by exact hglr)).trans lb0))
            clear hsub hw1 hw2 hcv0 hcvL hlbL lb0 d0 d1
            go_wp2
            go_roundw
            case rel => exact ⟨k, 0, o + 2, gn + 1, [], some ⟨gc, 0, none⟩, cc, false, rfl, by go_num, rfl, by go_num, by omega, by omega, by omega, by simp, hst, hcut.out wL hbL2, hbr.trans (hbL2.mono hbr.size)⟩
            case measure => simp [intOf]; omega

theorem law_nvalid (a0 : Option Addr) (n0 c0 : Nat) (s : ByteArray) (w : World) (h : ¬ ∃ ps, Valid s ps) (hn : n0 + s.size ≤ 1048576) :
    Calls Try.prog 4 #[.slice a0 n0 c0, .string s] w fun e w' => e = .returned (.bool true) ∧ Below w.heap.size w w' := by
  have H : Hid (¬ ∃ ps, Valid s ps) := h
  clear h
  go_enter Try.func4, Try.ntmps4
  go_wp2_with (go_at_call 12; refine (zzn_small _ _ _ _ _ (by omega)).mono ?_; rintro e w' ⟨rfl, rfl⟩)
  refine (valid_any s _ (by omega)).mono ?_
  rintro e w' ⟨b, rfl, rfl, hv⟩
  cases b with
  | true => exact absurd (hv rfl) H.out
  | false =>
    clear hv
    go_wp2
    go_ret
    exact ⟨rfl, Below.refl _ _⟩

set_option maxRecDepth 100000 in
theorem lawn_over (a0 : Option Addr) (n0 c0 : Nat) (s : ByteArray) (w : World) (hn : n0 ≤ 9223372036854775807) (hm : s.size ≤ 9223372036854775807) (h : 1048576 < n0 + s.size) :
    Calls Try.prog 4 #[.slice a0 n0 c0, .string s] w fun e w' => e = .returned (.bool true) ∧ Below w.heap.size w w' := by
  go_enter Try.func4, Try.ntmps4
  go_wp2_with (go_at_call 12; refine (zzn_over _ _ _ _ _ hn hm h).mono ?_; rintro e w' ⟨rfl, rfl⟩)
  go_ret
  exact ⟨rfl, Below.refl _ _⟩

theorem lawn_any (a0 : Option Addr) (n0 c0 : Nat) (ys : List Int) (s : ByteArray) (w : World) (h0 : RowIn .u8 w a0 n0 c0 ys) (hs : s.size ≤ maxLen) :
    Calls Try.prog 4 #[.slice a0 n0 c0, .string s] w fun e w' => e = .returned (.bool true) ∧ Below w.heap.size w w' := by
  by_cases hov : 1048576 < n0 + s.size
  · obtain ⟨_, p2, p3, _⟩ := h0
    unfold maxLen at p3 hs
    exact lawn_over a0 n0 c0 s w (by omega) (by omega) hov
  · by_cases hv : ∃ ps, Valid s ps
    · obtain ⟨ps, hv⟩ := hv
      by_cases hp : ps.length = 0
      · exact law_root a0 n0 c0 ys s ps w h0 hv hp (by omega)
      · exact law_labels a0 n0 c0 ys s ps w h0 hv (by omega) (by omega)
    · exact law_nvalid a0 n0 c0 s w hv (by omega)
end Go.Proofs.Qxb6000092a
