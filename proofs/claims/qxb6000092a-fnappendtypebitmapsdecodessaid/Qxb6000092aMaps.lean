/-
  zzlaws_dns_b1.FnAppendTypeBitMapsDecodes WALKED over a list that is not empty: each loop by what it holds; the plain side lies in Qxb6000092aPlain, Qxb6000092aDecode.
-/
import Derived.Test.Qxb6000092aEnc
import Derived.Test.Qxb6000092aDecode
namespace Go.Proofs.Qxb6000092a
open Go.RowKit

theorem ne_nil23 (w : World) (a : Option Addr) (n c n' c' : Nat) : (binOp .neq 23 (.slice a n c) (.slice none n' c')).run Try.prog w = .ok (.bool (!a.isNone)) w := run_neq_slice_nil_any w _ _ a n c n' c' Try.underlying23
theorem Try.info28 : (Try.prog.info? 28).map (fun i => (i.zero, i.size, i.bytes)) = some (some (.int .u16 0), 1, 2) := by kernel_rfl

theorem drewN_below {B : Nat} {a w : World} (h : Below B a w) (n : Nat) : Below B a (w.drewN n) := h.trans ⟨rfl, rfl, rfl, Nat.le_refl _, fun _ _ => rfl⟩

/-- tl behind k rounds. -/
def part16 (xs : List Nat) (k : Nat) : List Value := (xs.take k).map (fun x : Nat => Value.int .u16 (x : Int)) ++ List.replicate (xs.length - k) (.int .u16 0)
theorem part16_step (xs : List Nat) (k : Nat) (h : k < xs.length) : (part16 xs k).set k (.int .u16 ((xs.getD k 0 : Nat) : Int)) = part16 xs (k + 1) := by
  unfold part16
  obtain ⟨m, hm⟩ : ∃ m, xs.length - k = m + 1 := ⟨xs.length - k - 1, by omega⟩
  have hm' : xs.length - (k + 1) = m := by omega
  have hl : ((xs.take k).map (fun x : Nat => Value.int .u16 (x : Int))).length = k := by simp; omega
  have e : (xs.take (k + 1)).map (fun x : Nat => Value.int .u16 (x : Int)) = (xs.take k).map (fun x : Nat => Value.int .u16 (x : Int)) ++ [.int .u16 ((xs.getD k 0 : Nat) : Int)] := by
    rw [take_snoc' xs k h, List.map_append]; rfl
  rw [hm, hm', e, List.set_append_right _ _ (by omega), hl, Nat.sub_self, List.replicate_succ, List.set_cons_zero, List.append_assoc]
  rfl
theorem part16_zero (xs : List Nat) : part16 xs 0 = List.replicate xs.length (.int .u16 0) := by simp [part16]
theorem part16_full (xs : List Nat) : part16 xs xs.length = xs.map (fun x : Nat => Value.int .u16 (x : Int)) := by simp [part16]

theorem RowIn.kept {k : IntKind} {w w' : World} {a : Option Addr} {len cap : Nat} {ys : List Int} (h : RowIn k w a len cap ys) (hb : Below w.heap.size w w') : RowIn k w' a len cap ys := by
  obtain ⟨h1, h2, h3, h4, h5, h6⟩ := h
  refine ⟨h1, h2, h3, h4, fun hp => ?_, h6⟩
  obtain ⟨b, off, e, hlt, hc⟩ := h5 hp
  exact ⟨b, off, e, Nat.lt_of_lt_of_le hlt hb.size, fun i hi => (hb.cell (by exact hlt)).trans (hc i hi)⟩

def I64 (l : List Nat) : List Value := l.map fun b => .int .i64 ((b : Nat) : Int)
theorem Try.info3 : (Try.prog.info? 3).map (fun i => (i.zero, i.size, i.bytes)) = some (some (.int .i64 0), 1, 8) := by kernel_rfl

theorem ownsRow_below {w w' : World} {base : Nat} {e : TypeId} {v : Value} {n : Nat} {xs : List Value} (h : w.ownsRow base e 1 v n xs) (hb : Below w.heap.size w w') : w'.ownsRow base e 1 v n xs := by
  refine ⟨h.1, ?_⟩
  rcases h.2 with h2 | ⟨g, cap, cur, hv, hbase, hg, r⟩
  · exact .inl h2
  · refine .inr ⟨g, cap, cur, hv, hbase, ?_, r⟩
    rw [hb.block g (Array.getElem?_eq_some_iff.1 hg).1]; exact hg

theorem and_cell (B t : Nat) (hB : B < 256) (ht : t < 8) : bits BinOp.and IntKind.u8 (B : Int) (128 / 2 ^ t) = ((B &&& 128 / 2 ^ t : Nat) : Int) := by
  have e : (128 / 2 ^ t : Int) = ((128 / 2 ^ t : Nat) : Int) := by simp
  have h := mask_lt t
  rw [Nat.mod_eq_of_lt ht] at h
  rw [e, u8_and_nat B _ hB h]
theorem test_hit {g : List Nat} {h q t : Nat} (hw : ∀ y ∈ g, y / 256 = h) (hq : q < 32) (ht : t < 8) (hit : h * 256 + (8 * q + t) ∈ g) : (bits BinOp.and IntKind.u8 ((byteAt g q : Nat) : Int) (128 / 2 ^ t) != 0) = true := by
  rw [and_cell _ _ (byteAt_lt g q) ht]
  have := (hit_iff hw q t hq ht).2 hit
  simp only [bne_iff_ne, ne_eq]; omega
theorem test_miss {g : List Nat} {h q t : Nat} (hw : ∀ y ∈ g, y / 256 = h) (hq : q < 32) (ht : t < 8) (hit : h * 256 + (8 * q + t) ∉ g) : (bits BinOp.and IntKind.u8 ((byteAt g q : Nat) : Int) (128 / 2 ^ t) != 0) = false := by
  rw [and_cell _ _ (byteAt_lt g q) ht]
  have : byteAt g q &&& (128 / 2 ^ t) = 0 := Classical.byContradiction fun h' => hit ((hit_iff hw q t hq ht).1 h')
  rw [this]; rfl
theorem I64_append (a b : List Nat) : I64 (a ++ b) = I64 a ++ I64 b := List.map_append
theorem up_hit {H : Nat} {w : World} {v : Value} {got g : List Nat} {h q t : Nat} (hit : h * 256 + (8 * q + t) ∈ g) (hup : Up H 3 w v ((got ++ dec h g (8 * q + t)).length + 1) (I64 (got ++ dec h g (8 * q + t)) ++ [.int .i64 ((h : Int) * 256 + (q : Int) * 8 + (t : Int))])) :
    Up H 3 w v (got ++ dec h g (8 * q + (t + 1))).length (I64 (got ++ dec h g (8 * q + (t + 1)))) := by
  have e : 8 * q + (t + 1) = 8 * q + t + 1 := by omega
  have e2 : (h : Int) * 256 + (q : Int) * 8 + (t : Int) = ((h * 256 + (8 * q + t) : Nat) : Int) := by omega
  rw [e, dec_hit h g _ hit, ← List.append_assoc, I64_append, List.length_append]
  rw [e2] at hup
  exact hup
theorem encF_length (f : Nat) : ∀ l : List Nat, l.length ≤ f → (encF f l).length ≤ 34 * l.length := by
  induction f with
  | zero => intro l _; simp [encF]
  | succ f ih =>
    intro l hl
    by_cases h : l = []
    · subst h; simp [encF]
    · have hp := run_pos h
      have hle := run_le l
      have := ih (l.drop (run l).length) (by simp; omega)
      have hs := size_le (run l)
      simp only [encF, if_neg h, List.length_append, win_length]
      rw [List.length_drop] at this
      omega
theorem enc_length (l : List Nat) : (enc l).length ≤ 34 * l.length := encF_length _ _ (Nat.le_refl _)
theorem enc_pos {l : List Nat} (h : l ≠ []) : 0 < (enc l).length := by
  rw [enc_step h, List.length_append, win_length]; omega

theorem up_want {H : Nat} {w : World} {v : Value} {want : List Nat} {x : Nat} (h : Up H 3 w v (want.length + 1) (I64 want ++ [.int .i64 (x : Int)])) : Up H 3 w v (want ++ [x]).length (I64 (want ++ [x])) := by
  rw [I64_append, List.length_append]; exact h
theorem enc_nil_of {l : List Nat} (h : enc l = []) : l = [] := by
  rcases Classical.em (l = []) with h' | h'
  · exact h'
  · have := enc_pos h'; rw [h] at this; simp at this

theorem zzenc_pos (av : Option Addr) (cv n0 : Nat) (ys : List Int) (B lb L : Nat) (xs : List Nat) (w : World) (hL : xs.length = L) (hpos : 0 < L) (hx : ∀ i, xs.getD i 0 < 65536)
    (hc : ∀ i, i < L → w.cell? ⟨lb, i, none⟩ = some (.int .u16 ((xs.getD i 0 : Nat) : Int))) (hlb : lb < w.heap.size)
    (hb : w.ownsRow B 5 1 (.slice av n0 cv) n0 (ys.map (Value.int .u8))) (hf : ∀ k, (Value.slice av n0 cv).ownBlock = some k → Value.slice av n0 cv = .slice (some ⟨k, 0, none⟩) n0 n0) (hn : n0 + 2 * L ≤ 1048576) :
    Calls Try.prog 10 #[.slice av n0 cv, .slice (some ⟨lb, 0, none⟩) L L] w fun e w' => ∃ g co, e = .returned (.slice (some ⟨g, 0, none⟩) (n0 + (enc xs).length) co) ∧
      Hid (∀ i, i < n0 → w'.cell? ⟨g, i, none⟩ = some (.int .u8 (ys.getD i 0))) ∧ Hid (∀ i, i < (enc xs).length → w'.cell? ⟨g, n0 + i, none⟩ = some (.int .u8 (((enc xs).getD i 0 : Nat) : Int))) ∧
      n0 + (enc xs).length ≤ co ∧ g < w'.heap.size ∧ Below w.heap.size w w' := by
  have hE := enc_pos (l := xs) (by intro e; rw [e] at hL; simp at hL; omega)
  have hy : ys.length = n0 := by have := hb.1; simpa using this
  refine (zzenc_any (.slice av n0 cv) n0 (ys.map (Value.int .u8)) lb L xs w hL hx hc hlb ⟨ownsRow_zero hb, fun k hk => .inr (hf k hk)⟩ hn).mono ?_
  rintro e w' ⟨v', rfl, hup, hbe⟩
  obtain ⟨g, co, rfl, _, hg⟩ := hup.1.form (by omega)
  have hco : n0 + (enc xs).length ≤ co := by
    rcases hup.1.2 with ⟨h, _⟩ | ⟨g', cap', cur, h, _, _, hle, _⟩
    · cases h
    · simp at h; omega
  refine ⟨g, co, rfl, fun i hi => ?_, fun i hi => ?_, hco, hg, hbe⟩
  · rw [hup.1.cellAt i (by omega), List.getElem?_append_left (by simp; omega)]
    simp [List.getD, show i < ys.length by omega]
  · rw [hup.1.cellAt (n0 + i) (by omega), List.getElem?_append_right (by simp; omega)]
    simp [B8, List.getD, hy, hi]

set_option maxHeartbeats 4000000 in
set_option maxRecDepth 100000 in
theorem law_pos (a0 : Option Addr) (n0 c0 : Nat) (ys : List Int) (lb lo L c1 : Nat) (xs : List Nat) (w : World) (h0 : RowIn .u8 w a0 n0 c0 ys) (hL : xs.length = L) (hpos : 0 < L) (hx : ∀ i, xs.getD i 0 < 65536)
    (hc : ∀ i, i < L → w.cell? ⟨lb, lo + i, none⟩ = some (.int .u16 ((xs.getD i 0 : Nat) : Int))) (hlb : lb < w.heap.size) (hn : n0 + 2 * L ≤ 1048576) :
    Calls Try.prog 3 #[.slice a0 n0 c0, .slice (some ⟨lb, lo, none⟩) L c1] w fun e w' => e = .returned (.bool true) ∧ Below w.heap.size w w' := by
  have HC : Hid (∀ i, i < L → w.cell? ⟨lb, lo + i, none⟩ = some (.int .u16 ((xs.getD i 0 : Nat) : Int))) := hc
  have HX : Hid (∀ i, xs.getD i 0 < 65536) := hx
  have HL : Hid (xs.length = L) := hL
  have H0 : Hid (RowIn .u8 w a0 n0 c0 ys) := h0
  clear hc hL hx h0
  have q1 := ne_nil23
  obtain ⟨i8, hi8, y80, y81, y82⟩ := info_parts Try.info28
  go_enter Try.func3, Try.ntmps3
  go_wp2_with (go_at_call 8; refine (zz_small _ _ _ _ _ _ _ (by omega)).mono ?_; rintro e w' ⟨rfl, rfl⟩)
  go_loopw [5] (fun i wr => ∃ k : Nat, 1 ≤ k ∧ k ≤ L ∧ i = .int .i64 k ∧ Hid (∀ j, j + 1 < k → xs.getD j 0 ≤ xs.getD (j + 1) 0) ∧ Below w.heap.size w wr) (fun i _ => L - (intOf i).toNat)
  case atStart => exact ⟨1, Nat.le_refl _, by omega, rfl, fun j hj => absurd hj (by omega), Below.refl _ _⟩
  case round =>
    obtain ⟨k, hk1, hk, rfl, HS, hb1⟩ := hrel
    obtain ⟨p, rfl⟩ : ∃ p, k = p + 1 := ⟨k - 1, by omega⟩
    by_cases hlt : p + 1 < L
    · have d0 : wr.cell? ⟨lb, lo + (p + 1), none⟩ = some (.int .u16 ((xs.getD (p + 1) 0 : Nat) : Int)) := (hb1.cell (by exact hlb)).trans (HC.out (p + 1) hlt)
      have d1 : wr.cell? ⟨lb, lo + p, none⟩ = some (.int .u16 ((xs.getD p 0 : Nat) : Int)) := (hb1.cell (by exact hlb)).trans (HC.out p (by omega))
      obtain ⟨x, hxe⟩ : ∃ x, x = xs.getD (p + 1) 0 := ⟨_, rfl⟩
      obtain ⟨y, hye⟩ : ∃ y, y = xs.getD p 0 := ⟨_, rfl⟩
      rw [← hxe] at d0
      rw [← hye] at d1
      have HE : Hid (x = xs.getD (p + 1) 0) := hxe
      have HF : Hid (y = xs.getD p 0) := hye
      clear hxe hye
      have e1 : (p : Int) + 1 < (L : Int) := by omega
      have e2 : (p : Int) < (L : Int) := by omega
      by_cases ht : x < y
      · have ht' : (x : Int) < (y : Int) := by omega
        go_wp2
        go_quiet (fail)
        go_wp2
        go_ret
        exact ⟨rfl, drewN_below hb1 _⟩
      · have ht' : (y : Int) ≤ (x : Int) := by omega
        go_wp2
        go_quiet (fail)
        go_wp2
        go_roundw
        case rel =>
          refine ⟨p + 1 + 1, by omega, by omega, by go_num, fun j hj => ?_, drewN_below hb1 _⟩
          by_cases hjp : j < p
          · exact HS.out j (by omega)
          · obtain rfl : j = p := by omega
            rw [← HE.out, ← HF.out]; omega
        case measure => simp [intOf]; omega
    · have hS : Hid (Sorted xs) := fun j hj => HS.out j (by have := HL.out; omega)
      have hpL : L ≤ p + 1 := by omega
      clear HS
      go_wp2_with fail
      refine (clone_any a0 n0 c0 ys wr (H0.out.kept hb1) (by omega)).mono ?_
      rintro e wc ⟨av, cv, rfl, hown, hfull, hbc⟩
      have HO : Hid (wc.ownsRow wr.heap.size 5 1 (.slice av n0 cv) n0 (ys.map (Value.int .u8))) := hown
      have HF : Hid (∀ k, (Value.slice av n0 cv).ownBlock = some k → Value.slice av n0 cv = .slice (some ⟨k, 0, none⟩) n0 n0) := hfull
      have hbw : Below w.heap.size w wc := hb1.trans (hbc.mono hb1.size)
      have hsw := hb1.size
      have hsc := hbc.size
      clear hown hfull
      go_wp2_with (at_make; refine wpList_make_full _ rfl _ _ 27 rfl wc.heap.size 28 i8 (.int .u16 0) 1 Try.underlying27 hi8 y80 y81 _ _ _ _ L rfl rfl rfl rfl (by rw [y82]; omega) (by unfold maxLen; omega) (Nat.le_refl _) ?_; intro wt hownt hgrowt)
      have hown1 : wt.ownsRow wc.heap.size 28 1 (.slice (some ⟨wc.heap.size, 0, none⟩) L L) L (part16 xs 0) := by
        rw [part16_zero, HL.out]
        have e : (madeCells (Value.int .u16 0).cells (L * 1)).toList = List.replicate L (.int .u16 0) := by
          rw [Nat.mul_one]; exact toList_madeCells_one _ _
        rw [e] at hownt; exact hownt
      have hbt : Below wc.heap.size wc wt := (Below.refl _ _).grown hgrowt (Nat.le_refl _) (by simp)
      clear hownt hgrowt hi8 y80 y81 y82
      go_wp2
      go_loopw [7] (fun i wr => ∃ k : Nat, k ≤ L ∧ i = .int .i64 k ∧ wr.ownsRow wc.heap.size 28 1 (.slice (some ⟨wc.heap.size, 0, none⟩) L L) L (part16 xs k) ∧ Below wc.heap.size wc wr) (fun i _ => L - (intOf i).toNat)
      case atStart => exact ⟨0, Nat.zero_le _, rfl, hown1, hbt⟩
      case round =>
        obtain ⟨k, hk, rfl, hown, hb⟩ := hrel
        by_cases hkl : k < L
        · have d0 : wr.cell? ⟨lb, lo + k, none⟩ = some (.int .u16 ((xs.getD k 0 : Nat) : Int)) := (hb.cell (by show lb < _; omega)).trans ((hbw.cell (by exact hlb)).trans (HC.out k hkl))
          have d1 : wr.cell? ⟨wc.heap.size, k, none⟩ = (part16 xs k)[k]? := hown.cellAt k (by omega)
          obtain ⟨u, hu⟩ : ∃ u, (part16 xs k)[k]? = some u := by
            have hl := hown.1
            exact ⟨_, List.getElem?_eq_getElem (by omega)⟩
          rw [hu] at d1
          have f1 := hown.frozenAt k
          have st := hown.stored k (.int .u16 ((xs.getD k 0 : Nat) : Int))
          rw [part16_step xs k (by have := HL.out; omega)] at st
          have HK : Hid ((wr.setCell ⟨wc.heap.size, k, none⟩ (.int .u16 ((xs.getD k 0 : Nat) : Int))).ownsRow wc.heap.size 28 1 (.slice (some ⟨wc.heap.size, 0, none⟩) L L) L (part16 xs (k + 1))) := st.1
          have hb' := hb.setCell (p := ⟨wc.heap.size, k, none⟩) (Nat.le_refl _) (.int .u16 ((xs.getD k 0 : Nat) : Int))
          clear st hown hu hbt hown1
          go_wp2
          go_roundw
          case rel => exact ⟨k + 1, by omega, by go_num, HK.out, hb'⟩
          case measure => simp [intOf]; omega
        · obtain ⟨wk, rfl⟩ : ∃ wk : World, wk = wr := ⟨_, rfl⟩
          have hcells : Hid (∀ i, i < L → wk.cell? ⟨wc.heap.size, i, none⟩ = some (.int .u16 ((xs.getD i 0 : Nat) : Int))) := fun i hi => by
            have hl := HL.out
            obtain rfl : k = xs.length := by omega
            rw [hown.cellAt i (by omega), part16_full]
            simp [List.getD, show i < xs.length by omega]
          have hkL : L ≤ k := by omega
          have hsk : wc.heap.size < wk.heap.size := (hown.lt wc.heap.size rfl).2
          clear hown hown1 hbt
          have hownk : wk.ownsRow wr.heap.size 5 1 (.slice av n0 cv) n0 (ys.map (Value.int .u8)) := ownsRow_below HO.out hb
          go_wp2_with fail
          refine (zzenc_pos av cv n0 ys wr.heap.size wc.heap.size L xs wk HL.out hpos HX.out hcells.out hsk hownk HF.out hn).mono ?_
          rintro e wE ⟨g0, co, rfl, HB, HR, hco, hgl, hbE⟩
          have hEl := enc_length xs
          have hEp := enc_pos (l := xs) (by intro e; have := HL.out; rw [e] at this; simp at this; omega)
          rw [HL.out] at hEl
          obtain ⟨R, hR⟩ : ∃ R, R = enc xs := ⟨_, rfl⟩
          obtain ⟨E, hE⟩ : ∃ E, E = R.length := ⟨_, rfl⟩
          rw [← hR, ← hE] at hco HR hEl hEp ⊢
          have HRE : Hid (R = enc xs) := hR
          have HEE : Hid (E = R.length) := hE
          clear hR hE
          go_wp2_with fail
          refine (hasPrefix_any _ _ _ _ _ _ ys wE (by omega) (by omega) ?_).mono ?_
          · intro hp
            obtain ⟨kb, cb, hv, _, hkl⟩ := hownk.form hp
            have hav : av = some ⟨kb, 0, none⟩ := by simp at hv; exact hv.1
            subst hav
            have hyl : ys.length = n0 := by have := hownk.1; simpa using this
            refine ⟨g0, 0, kb, 0, rfl, rfl, fun i hi => by rw [Nat.zero_add]; exact HB.out i hi, fun i hi => ?_⟩
            rw [hbE.cell (by exact hkl), Nat.zero_add, hownk.cellAt i (by omega)]
            simp [List.getD, show i < ys.length by omega]
          rintro e wH ⟨rfl, nH, rfl⟩
          have hbX : Below w.heap.size w (wE.drewN nH) := drewN_below ((hbw.trans (hb.mono (by omega))).trans (hbE.mono (by have := hb.size; omega))) nH
          obtain ⟨W, hWe⟩ : ∃ W, W = wE.drewN nH := ⟨_, rfl⟩
          have HC2 : Hid (∀ i, i < L → W.cell? ⟨lb, lo + i, none⟩ = some (.int .u16 ((xs.getD i 0 : Nat) : Int))) := fun i hi => by
            rw [hWe]; exact (hbX.cell (by exact hlb)).trans (HC.out i hi)
          have HR2 : Hid (∀ i, i < E → W.cell? ⟨g0, n0 + i, none⟩ = some (.int .u8 ((R.getD i 0 : Nat) : Int))) := fun i hi => by
            rw [hWe]; exact HR.out i hi
          have hgW : g0 < W.heap.size := by rw [hWe]; exact hgl
          rw [← hWe] at hbX ⊢
          have hsW := hbX.size
          clear hWe HR HB hownk hb hbE hcells HO HF hbw hbc HC H0 hsc hsk hgl
          obtain ⟨i3, hi3, y30, y31, y32⟩ := info_parts Try.info3
          go_wp2
          go_loopw [10, 11, 12] (fun v p i wr => ∃ (m o : Nat) (prev : Int) (got : List Nat), m ≤ L ∧ o ≤ E ∧ i = .int .i64 o ∧ p = .int .i64 prev ∧ -1 ≤ prev ∧ prev ≤ 255 ∧ Hid (R.drop o = enc (xs.drop m)) ∧ Hid (Dst xs m prev got) ∧ got.length ≤ 8 * o ∧ Up W.heap.size 3 wr v got.length (I64 got) ∧ Below W.heap.size W wr) (fun _ _ i _ => E - (intOf i).toNat)
          case atStart => exact ⟨0, 0, -1, [], Nat.zero_le _, Nat.zero_le _, rfl, rfl, by omega, by omega, HRE.out, Dst.start xs, by simp, Up.of_owns (World.ownsRow_nil _ _ _ _), Below.refl _ _⟩
          case round =>
            obtain ⟨m, o, prev, got, hm, ho, rfl, rfl, hp1, hp2, HD, HT, hgo, hup, hbr⟩ := hrel
            by_cases hoE : o < E
            · have hmL : m < L := by
                rcases Nat.lt_or_ge m L with h | h
                · exact h
                · have hd := HD.out
                  rw [List.drop_of_length_le (l := xs) (by have := HL.out; omega), enc_nil] at hd
                  have := congrArg List.length hd
                  rw [List.length_drop, ← HEE.out] at this
                  simp at this; omega
              obtain ⟨r1, r2, r3, r4, r5⟩ := win_read HD.out (by rw [HL.out]; exact hmL)
              have hne : run (xs.drop m) ≠ [] := by
                intro e
                have hp := run_pos (l := xs.drop m) (by intro e'; have h1 := congrArg List.length e'; have h2 := HL.out; simp at h1; omega)
                rw [e] at hp; simp at hp
              have hs1 := size_pos (run (xs.drop m))
              have hs2 := size_le (run (xs.drop m))
              have hlast := last_byte hne
              have hx0 := HX.out m
              have hnx := HT.out.next (by rw [HL.out]; exact hmL)
              have hstep := HT.out.step hS.out (by rw [HL.out]; exact hmL)
              have hwin : ∀ y ∈ run (xs.drop m), y / 256 = xs.getD m 0 / 256 := fun y hy => by rw [← headD_drop]; exact run_window y hy
              rw [← HEE.out] at r4
              have hgl' := run_le (xs.drop m)
              rw [List.length_drop, HL.out] at hgl'
              generalize run (xs.drop m) = g at *
              obtain ⟨s, hs⟩ : ∃ s, size g = s + 1 := ⟨size g - 1, by omega⟩
              obtain ⟨h, hh⟩ : ∃ h, h = xs.getD m 0 / 256 := ⟨_, rfl⟩
              rw [← hh] at r1 hnx hstep hwin
              have hh255 : h ≤ 255 := by omega
              rw [hs] at r2 r3 r4 r5 hs1 hs2 hlast hstep
              rw [Nat.add_sub_cancel] at hlast
              have k0 : wr.cell? ⟨g0, n0 + o, none⟩ = some (.int .u8 (h : Int)) := by rw [hbr.cell (by exact hgW), HR2.out o (by omega), r1]
              have k1 : wr.cell? ⟨g0, n0 + (o + 1), none⟩ = some (.int .u8 ((s + 1 : Nat) : Int)) := by rw [hbr.cell (by exact hgW), HR2.out (o + 1) (by omega), r2]
              have k2 : wr.cell? ⟨g0, n0 + (o + 2 + s), none⟩ = some (.int .u8 ((byteAt g s : Nat) : Int)) := by rw [hbr.cell (by exact hgW), HR2.out (o + 2 + s) (by omega), r3 s (by omega)]
              have hl2 : ((byteAt g s : Int) == 0) = false := by simpa using hlast
              have HR3 : Hid (∀ k, k < s + 1 → R.getD (o + 2 + k) 0 = byteAt g k) := r3
              have HR5 : Hid (R.drop (o + (2 + (s + 1))) = enc (xs.drop (m + g.length))) := r5
              have HST : Hid (Dst xs (m + g.length) (h : Int) (got ++ dec h g (8 * (s + 1)))) := hstep
              have HW : Hid (∀ y ∈ g, y / 256 = h) := hwin
              clear r1 r2 r3 r5 hstep hwin hh hs hlast hne HT HD
              go_wp2
              clear k0 k1 k2 hl2
              rw [show o + 2 + (s + 1) - 1 = o + 2 + s by omega]
              obtain ⟨wo, rfl⟩ : ∃ wo : World, wo = wr := ⟨_, rfl⟩
              go_loopw [10, 15] (fun v k wr => ∃ q : Nat, q ≤ s + 1 ∧ k = .int .i64 q ∧ Up W.heap.size 3 wr v (got ++ dec h g (8 * q)).length (I64 (got ++ dec h g (8 * q))) ∧ Below W.heap.size W wr) (fun _ k _ => s + 1 - (intOf k).toNat)
              case atStart => exact ⟨0, by omega, rfl, by simpa [dec_zero] using hup, hbr⟩
              case round =>
                obtain ⟨q, hq, rfl, hup4, hb4⟩ := hrel
                by_cases hqs : q < s + 1
                · have k3 : wr.cell? ⟨g0, n0 + (o + 2 + q), none⟩ = some (.int .u8 ((byteAt g q : Nat) : Int)) := by rw [hb4.cell (by exact hgW), HR2.out (o + 2 + q) (by omega), HR3.out q hqs]
                  have hB := byteAt_lt g q
                  obtain ⟨w4, rfl⟩ : ∃ w4 : World, w4 = wr := ⟨_, rfl⟩
                  go_wp2
                  rw [show decide ((q : Int) < (s : Int) + 1) = true from decide_eq_true (by omega)]
                  go_loopw [10, 17] (fun v b wr => ∃ t : Nat, t ≤ 8 ∧ b = .int .i64 t ∧ Up W.heap.size 3 wr v (got ++ dec h g (8 * q + t)).length (I64 (got ++ dec h g (8 * q + t))) ∧ Below W.heap.size W wr) (fun _ b _ => 8 - (intOf b).toNat)
                  case atStart => exact ⟨0, by omega, rfl, hup4, hb4⟩
                  case round =>
                    obtain ⟨t, ht, rfl, hup5, hb5⟩ := hrel
                    clear k3
                    by_cases ht8 : t < 8
                    · by_cases hit : h * 256 + (8 * q + t) ∈ g
                      · have t1 := test_hit HW.out (by omega) ht8 hit
                        have hdl := dec_length h g (8 * q + t)
                        have hlen : (got ++ dec h g (8 * q + t)).length ≤ 8 * o + (8 * q + t) := by rw [List.length_append]; omega
                        go_wp2_with (at_builtin; refine append_up _ rfl (.tmp 146) (.tmp 154) 31 rfl W.heap.size 3 i3 (.int .i64 0) 8 Try.underlying31 hi3 y30 y31 y32 rfl _ _ _ rfl (hup5.kept fun kk hkk => heap_alloc_old _ _ (hup5.lt kk hkk)) ⟨wr.heap.size, 0, none⟩ 1 1 [.int .i64 ((h : Int) * 256 + (q : Int) * 8 + (t : Int))] rfl rfl (World.news_of_block (heap_alloc_new wr _)) (by simp [Value.oneCell']) (by omega) (by omega) (by unfold maxLen; omega) (by have := hb5.size; simp; omega) ?_; intro v6 w6 hup6 hb6 hfar6)
                        go_roundw
                        case rel => first | exact ⟨t + 1, by omega, by go_num, up_hit hit hup6, (hb5.alloc hb5.size _).trans hb6⟩ | ((repeat apply Exists.intro); refine ⟨?_, rfl⟩; exact ⟨t + 1, by omega, by go_num, up_hit hit hup6, (hb5.alloc hb5.size _).trans hb6⟩)
                        case measure => simp [intOf]; omega
                      · have t1 := test_miss HW.out (by omega) ht8 hit
                        go_wp2
                        go_roundw
                        case rel =>
                          refine ⟨t + 1, by omega, by go_num, ?_, hb5⟩
                          rw [show 8 * q + (t + 1) = 8 * q + t + 1 by omega, dec_miss h g _ hit]; exact hup5
                        case measure => simp [intOf]; omega
                    · go_wp2
                      go_roundw
                      case rel =>
                        refine ⟨q + 1, by omega, by go_num, ?_, hb5⟩
                        rw [show 8 * (q + 1) = 8 * q + t by omega]; exact hup5
                      case measure => simp [intOf]; omega
                · have hqe : q = s + 1 := by omega
                  have hdl := dec_length h g (8 * (s + 1))
                  have hup7 : Up W.heap.size 3 wr u10 (got ++ dec h g (8 * (s + 1))).length (I64 (got ++ dec h g (8 * (s + 1)))) := by rw [← hqe]; exact hup4
                  have HQ : Hid (q = s + 1) := hqe
                  clear hqe hup4
                  go_wp2
                  go_roundw
                  case rel => exact ⟨m + g.length, o + (2 + (s + 1)), h, _, by omega, by omega, by go_num, rfl, by omega, by omega, HR5, HST, by rw [List.length_append]; omega, hup7, hb4⟩
                  case measure => simp [intOf]; omega
            · -- all windows are read
              have hmL : m = L := by
                have hd := HD.out
                rw [List.drop_of_length_le (l := R) (by rw [← HEE.out]; omega)] at hd
                have h1 := congrArg List.length (enc_nil_of hd.symm)
                have h2 := HL.out
                simp at h1; omega
              have HT2 : Hid (Dst xs xs.length prev got) := by have h := HT.out; rw [hmL, ← HL.out] at h; exact h
              have hgp : 0 < got.length := by
                have hmem := (HT2.out.mem (xs.getD 0 0)).2 (by rw [List.take_length]; exact getD_mem (by rw [HL.out]; exact hpos))
                exact List.length_pos_of_mem hmem
              clear hmL HT HD HR2
              obtain ⟨wx, rfl⟩ : ∃ wx : World, wx = wr := ⟨_, rfl⟩
              obtain ⟨gg, gc, rfl, _, hgg⟩ := hup.1.form hgp
              have hbx : Below w.heap.size w wx := hbX.trans (hbr.mono (by omega))
              have hsx := hbr.size
              have HG : Hid (∀ i, i < got.length → wx.cell? ⟨gg, i, none⟩ = some (.int .i64 ((got.getD i 0 : Nat) : Int))) := fun i hi => by
                rw [hup.1.cellAt i (by omega)]
                simp [I64, List.getD, hi]
              have HC3 : Hid (∀ i, i < L → wx.cell? ⟨lb, lo + i, none⟩ = some (.int .u16 ((xs.getD i 0 : Nat) : Int))) := fun i hi => (hbr.cell (by show lb < _; omega)).trans (HC2.out i hi)
              clear hup hbr
              go_wp2
              go_loopw [18, 19] (fun v j wr => ∃ (k : Nat) (want : List Nat), k ≤ L ∧ j = .int .i64 k ∧ Hid (Wst xs k want) ∧ want.length ≤ k ∧ Up wx.heap.size 3 wr v want.length (I64 want) ∧ Below wx.heap.size wx wr) (fun _ j _ => L - (intOf j).toNat)
              case atStart => exact ⟨0, [], Nat.zero_le _, rfl, Wst.start xs, by simp, Up.of_owns (World.ownsRow_nil _ _ _ _), Below.refl _ _⟩
              case round =>
                obtain ⟨k, want, hk, rfl, HWS, hwl, hup, hbr⟩ := hrel
                by_cases hkL : k < L
                · have hupA : ∀ nn (ob : Obj), Up wx.heap.size 3 ((wr.drewN nn).alloc ob) u18 want.length (I64 want) := fun nn ob => hup.kept fun kk hkk => heap_alloc_old _ _ (hup.lt kk hkk)
                  rcases Nat.eq_zero_or_pos k with hk0 | hk0
                  · subst hk0
                    have hst := HWS.out.hit hS.out (by rw [HL.out]; exact hkL) (.inl rfl)
                    have d0 : wr.cell? ⟨lb, lo, none⟩ = some (.int .u16 ((xs.getD 0 0 : Nat) : Int)) := (hbr.cell (by show lb < _; omega)).trans (HC3.out 0 hkL)
                    have x0 := HX.out 0
                    generalize xs.getD 0 0 = x at hst d0 x0
                    have HST : Hid (Wst xs (0 + 1) (want ++ [x])) := hst
                    clear hst
                    go_wp2
                    go_quiet (fail)
                    go_wp2_with (at_builtin; refine append_up _ rfl (.tmp 181) (.tmp 187) 31 rfl wx.heap.size 3 i3 (.int .i64 0) 8 Try.underlying31 hi3 y30 y31 y32 rfl _ _ _ rfl (hupA _ _) ⟨wr.heap.size, 0, none⟩ 1 1 [.int .i64 (x : Int)] rfl rfl (World.news_of_block (heap_alloc_new _ _)) (by simp [Value.oneCell']) (by omega) (by omega) (by unfold maxLen; omega) (by have := hbr.size; simp; omega) ?_; intro v6 w6 hup6 hb6 hfar6)
                    go_roundw
                    case rel => exact ⟨1, want ++ [x], by omega, rfl, HST, by rw [List.length_append, List.length_singleton]; omega, up_want hup6, ((drewN_below hbr _).alloc hbr.size _).trans hb6⟩
                    case measure => simp [intOf]; omega
                  · obtain ⟨r, rfl⟩ : ∃ r, k = r + 1 := ⟨k - 1, by omega⟩
                    have d0 : wr.cell? ⟨lb, lo + (r + 1), none⟩ = some (.int .u16 ((xs.getD (r + 1) 0 : Nat) : Int)) := (hbr.cell (by show lb < _; omega)).trans (HC3.out (r + 1) (by omega))
                    have d1 : wr.cell? ⟨lb, lo + r, none⟩ = some (.int .u16 ((xs.getD r 0 : Nat) : Int)) := (hbr.cell (by show lb < _; omega)).trans (HC3.out r (by omega))
                    have x0 := HX.out (r + 1)
                    have y0 := HX.out r
                    have e1 : (r : Int) + 1 < (L : Int) := by omega
                    have e2 : (r : Int) < (L : Int) := by omega
                    have e3 : ((r : Int) + 1 == 0) = false := by simp; omega
                    by_cases hd : xs.getD (r + 1) 0 = xs.getD r 0
                    · have HST : Hid (Wst xs (r + 1 + 1) want) := HWS.out.miss (by rw [HL.out]; exact hkL) (by omega) hd
                      rw [hd] at d0
                      clear hd x0
                      generalize xs.getD r 0 = y at d0 d1 y0
                      go_wp2
                      go_quiet (fail)
                      go_wp2
                      go_roundw
                      case rel => exact ⟨r + 1 + 1, want, by omega, by go_num, HST, by omega, hup.kept fun _ _ => rfl, drewN_below hbr _⟩
                      case measure => simp [intOf]; omega
                    · have hst := HWS.out.hit hS.out (by rw [HL.out]; exact hkL) (.inr (by simpa using hd))
                      generalize xs.getD (r + 1) 0 = x at hst d0 x0 hd
                      generalize xs.getD r 0 = y at d1 y0 hd
                      have HST : Hid (Wst xs (r + 1 + 1) (want ++ [x])) := hst
                      have t1 : ((x : Int) != (y : Int)) = true := by simp; omega
                      clear hd hst
                      go_wp2
                      go_quiet (fail)
                      go_wp2_with (at_builtin; refine append_up _ rfl (.tmp 181) (.tmp 187) 31 rfl wx.heap.size 3 i3 (.int .i64 0) 8 Try.underlying31 hi3 y30 y31 y32 rfl _ _ _ rfl (hupA _ _) ⟨wr.heap.size, 0, none⟩ 1 1 [.int .i64 (x : Int)] rfl rfl (World.news_of_block (heap_alloc_new _ _)) (by simp [Value.oneCell']) (by omega) (by omega) (by unfold maxLen; omega) (by have := hbr.size; simp; omega) ?_; intro v6 w6 hup6 hb6 hfar6)
                      go_roundw
                      case rel => first | exact ⟨(r + 1) + 1, want ++ [x], by omega, by go_num, HST, by simp; omega, up_want hup6, ((drewN_below hbr _).alloc hbr.size _).trans hb6⟩ | ((repeat apply Exists.intro); refine ⟨?_, rfl⟩; exact ⟨(r + 1) + 1, want ++ [x], by omega, by go_num, HST, by simp; omega, up_want hup6, ((drewN_below hbr _).alloc hbr.size _).trans hb6⟩)
                      case measure => simp [intOf]; omega
                · -- the last loop: the two lists are one
                  have hkL' : k = L := by omega
                  have hgw : got = want := same HT2.out (by have h := HWS.out; rw [hkL', ← HL.out] at h; exact h)
                  subst hgw
                  clear hkL' HWS
                  obtain ⟨wy, rfl⟩ : ∃ wy : World, wy = wr := ⟨_, rfl⟩
                  obtain ⟨ww, wwc, rfl, _, _⟩ := hup.1.form hgp
                  have HG2 : Hid (∀ i, i < got.length → wy.cell? ⟨gg, i, none⟩ = some (.int .i64 ((got.getD i 0 : Nat) : Int))) := fun i hi => (hbr.cell (by exact hgg)).trans (HG.out i hi)
                  have HV2 : Hid (∀ i, i < got.length → wy.cell? ⟨ww, i, none⟩ = some (.int .i64 ((got.getD i 0 : Nat) : Int))) := fun i hi => by
                    rw [hup.1.cellAt i (by omega)]
                    simp [I64, List.getD, hi]
                  have hby : Below w.heap.size w wy := hbx.trans (hbr.mono (by omega))
                  have hgl : got.length ≤ 8 * o := hgo
                  clear hup hbr HG
                  generalize hN : got.length = N at *
                  have HN : Hid (got.length = N) := hN
                  clear hN
                  go_wp2
                  go_loopw [20] (fun j wr => ∃ k : Nat, k ≤ N ∧ j = .int .i64 k ∧ ∃ nn, wr = wy.drewN nn) (fun j _ => N - (intOf j).toNat)
                  case atStart => exact ⟨0, Nat.zero_le _, rfl, 0, rfl⟩
                  case round =>
                    obtain ⟨k, hk, rfl, nn, rfl⟩ := hrel
                    by_cases hkN : k < N
                    · have d0 := HG2.out k hkN
                      have d1 := HV2.out k hkN
                      have e1 : (k : Int) < (N : Int) := by omega
                      generalize got.getD k 0 = x at d0 d1
                      go_wp2
                      go_quiet (fail)
                      go_wp2
                      go_roundw
                      case rel => exact ⟨k + 1, by omega, by go_num, _, rfl⟩
                      case measure => simp [intOf]; omega
                    · go_wp2
                      go_ret
                      exact ⟨rfl, drewN_below hby _⟩
end Go.Proofs.Qxb6000092a
