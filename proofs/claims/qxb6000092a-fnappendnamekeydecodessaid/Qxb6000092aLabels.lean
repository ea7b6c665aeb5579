/-
  zzlaws_dns_b1.labelsOf, lowerStr WALKED; the key as a tail that a decoder reads.
-/
import Derived.Test.Qxb6000092aKey
namespace Go.Proofs.Qxb6000092a
open Go.RowKit

theorem zzkey_any (vb : Value) (nb : Nat) (bs : List Value) (s : ByteArray) (ps : List Nat) (w : World) (h : Valid s ps) (hb : Up w.heap.size 5 w vb nb bs) (hn : nb ≤ 1048576) :
    Calls Try.prog 14 #[vb, .string s] w fun e w' => ∃ v' : Value, e = .returned v' ∧ Up w.heap.size 5 w' v' (nb + (keyOf s ps).length) (bs ++ B8 (keyOf s ps)) ∧ Below w.heap.size w w' := by
  go_enter Try.func14, Try.ntmps14
  go_wp2_with fail
  refine (key_any vb nb bs s ps _ h hb hn).mono ?_
  rintro e w' ⟨v', rfl, hup, hbe⟩
  go_wp2
  go_ret
  exact ⟨v', rfl, hup, hbe⟩

theorem zzn_over (a : Option Addr) (n c : Nat) (s : ByteArray) (w : World) (hn : n ≤ 9223372036854775807) (hm : s.size ≤ 9223372036854775807) (h : 1048576 < n + s.size) :
    Calls Try.prog 12 #[.slice a n c, .string s] w fun e w' => e = .returned (.bool false) ∧ w = w' := by
  by_cases h1 : 1048576 < n
  · go_enter Try.func12, Try.ntmps12
    go_wp2
    go_ret
    exact ⟨rfl, rfl⟩
  · by_cases h2 : 1048576 < s.size
    · go_enter Try.func12, Try.ntmps12
      go_wp2
      go_ret
      exact ⟨rfl, rfl⟩
    · go_enter Try.func12, Try.ntmps12
      go_wp2
      go_ret
      exact ⟨rfl, rfl⟩
theorem zzn_small (a : Option Addr) (n c : Nat) (s : ByteArray) (w : World) (h : n + s.size ≤ 1048576) :
    Calls Try.prog 12 #[.slice a n c, .string s] w fun e w' => e = .returned (.bool true) ∧ w = w' := by
  go_enter Try.func12, Try.ntmps12
  go_wp2
  go_ret
  exact ⟨rfl, rfl⟩

theorem Try.info9 : (Try.prog.info? 9).map (fun i => (i.zero, i.size, i.bytes)) = some (some (.string ByteArray.empty), 1, 16) := by kernel_rfl

/-- The label that begins at p, as a string. -/
def labS (s : ByteArray) (p : Nat) : ByteArray := s.extract (p + 1) (p + 1 + bn s p)
def labV (s : ByteArray) (ps : List Nat) : List Value := ps.map fun p => .string (labS s p)

set_option maxHeartbeats 1000000 in
set_option maxRecDepth 100000 in
theorem labels_any (s : ByteArray) (ps : List Nat) (w : World) (h : Valid s ps) :
    Calls Try.prog 15 #[.string s] w fun e w' => ∃ v' : Value, e = .returned v' ∧ Up w.heap.size 9 w' v' ps.length (labV s ps) ∧ Below w.heap.size w w' := by
  have hg := get_bn s
  have HV : Hid (Valid s ps) := h
  have hc := h.count
  have hs1 := h.pos
  have hs2 := h.le
  clear h
  obtain ⟨i0, hi, hz0, hz1, hz2⟩ := info_parts Try.info9
  go_enter Try.func15, Try.ntmps15
  go_wp2
  go_loopw [3, 4] (fun v i wr => ∃ k : Nat, k ≤ ps.length ∧ i = .int .i64 ((ps.getD k (s.size - 1) : Nat) : Int) ∧ Up w.heap.size 9 wr v k (labV s (ps.take k)) ∧ Below w.heap.size w wr) (fun _ i _ => s.size - (intOf i).toNat)
  case atStart => exact ⟨0, Nat.zero_le _, by rw [HV.out.path.first]; rfl, Up.of_owns (World.ownsRow_nil _ _ _ _), Below.refl _ _⟩
  case round =>
    obtain ⟨k, hk, rfl, hup, hb⟩ := hrel
    by_cases hlt : k < ps.length
    · obtain ⟨f1, f2, f3⟩ := HV.out.fits k hlt
      have f4 := HV.out.path.lab k hlt
      have HF3 : Hid (ps.getD (k + 1) (s.size - 1) = ps.getD k (s.size - 1) + 1 + bn s (ps.getD k (s.size - 1))) := f3
      have HT : Hid (ps.take (k + 1) = ps.take k ++ [ps.getD k (s.size - 1)]) := take_snocD ps k _ hlt
      clear f3
      generalize ps.getD k (s.size - 1) = p at *
      have hz : ((bn s p : Int) != 0) = true := by simp; omega
      have hsl : ∀ wx, (Instr.slice 9 (.string s) (some (.int .i64 ((p : Int) + 1))) (some (.int .i64 ((p : Int) + 1 + (bn s p : Int)))) none).run Try.prog wx = .ok (.string (labS s p)) wx := by
        intro wx
        rw [run_slice_string_if (P := Try.prog) (w := wx) 9 s .i64 .i64 _ _ Try.underlying9, if_pos (by omega), if_pos (by omega)]
        have e1 : ((p : Int) + 1).toNat = p + 1 := by omega
        have e2 : ((p : Int) + 1 + (bn s p : Int)).toNat = p + 1 + bn s p := by omega
        rw [e1, e2]; rfl
      go_wp2_with (at_builtin; refine append_up _ rfl (.tmp 27) (.tmp 36) 37 rfl w.heap.size 9 i0 (.string ByteArray.empty) 16 Try.underlying37 hi hz0 hz1 hz2 rfl _ _ _ rfl (hup.kept fun kk hkk => heap_alloc_old _ _ (hup.lt kk hkk)) ⟨wr.heap.size, 0, none⟩ 1 1 [.string (labS s p)] rfl rfl (World.news_of_block (heap_alloc_new wr _)) (by simp [Value.oneCell']) (by omega) (by omega) (by unfold maxLen; omega) (by have := hb.size; simp; omega) ?_; intro v6 w6 hup6 hb6 hfar6)
      go_roundw
      case rel => first | exact ⟨k + 1, by omega, by rw [HF3.out]; go_num, by rw [HT.out, labV, List.map_append]; exact hup6, (hb.alloc hb.size _).trans hb6⟩ | ((repeat apply Exists.intro); refine ⟨?_, rfl⟩; exact ⟨k + 1, by omega, by rw [HF3.out]; go_num, by rw [HT.out, labV, List.map_append]; exact hup6, (hb.alloc hb.size _).trans hb6⟩)
      case measure => simp [intOf]; omega
    · obtain rfl : k = ps.length := by omega
      rw [HV.out.end_]
      have hz : ((bn s (s.size - 1) : Int) != 0) = false := by rw [HV.out.root]; rfl
      go_wp2
      go_ret
      rw [List.take_length] at hup
      exact ⟨_, rfl, hup, hb⟩

/-- The string of the bytes l. -/
def strN (l : List Nat) : ByteArray := ⟨(l.map UInt8.ofNat).toArray⟩
theorem conv_any (g cap : Nat) (l : List Nat) (w : World) (hl : ∀ i, i < l.length → l.getD i 0 < 256) (hc : ∀ i, i < l.length → w.cell? ⟨g, i, none⟩ = some (.int .u8 ((l.getD i 0 : Nat) : Int))) :
    (convert 22 9 (.slice (some ⟨g, 0, none⟩) l.length cap)).run Try.prog w = .ok (.string (strN l)) w := by
  have h := run_convert_bytes_back (P := Try.prog) w 22 9 5 ⟨g, 0, none⟩ cap (l.map UInt8.ofNat) Try.underlying22 Try.underlying5 Try.underlying9 (fun j hj => by
    rw [List.length_map] at hj
    rw [Addr.add_lit, Nat.zero_add, hc j hj]
    have e : l.getD j 0 = l[j] := by simp [List.getD, hj]
    have h2 := hl j hj
    rw [e] at h2 ⊢
    rw [List.getElem_map, UInt8.toNat_ofNat']
    congr 3
    omega)
  rw [List.length_map] at h
  exact h

def bytesOf (s : ByteArray) : List Nat := (List.range s.size).map (bn s)
/-- lowerStr's buffer behind k rounds. -/
def partL (s : ByteArray) (k : Nat) : List Value := B8 (((bytesOf s).map low).take k ++ List.replicate (s.size - k) 0)
theorem bytesOf_length (s : ByteArray) : (bytesOf s).length = s.size := by simp [bytesOf]
theorem bytesOf_at (s : ByteArray) (k : Nat) (h : k < s.size) : ((bytesOf s).map low).getD k 0 = low (bn s k) := by simp [bytesOf, List.getD, h]
theorem partL_step (s : ByteArray) (k : Nat) (h : k < s.size) : (partL s k).set k (.int .u8 ((low (bn s k) : Nat) : Int)) = partL s (k + 1) := by
  unfold partL B8
  obtain ⟨m, hm⟩ : ∃ m, s.size - k = m + 1 := ⟨s.size - k - 1, by omega⟩
  have hm' : s.size - (k + 1) = m := by omega
  have hl : ((((bytesOf s).map low).take k).map fun b : Nat => Value.int .u8 (b : Int)).length = k := by rw [List.length_map, List.length_take, List.length_map, bytesOf_length]; omega
  have e : ((bytesOf s).map low).take (k + 1) = ((bytesOf s).map low).take k ++ [low (bn s k)] := by
    rw [← bytesOf_at s k h]; exact take_snocD _ _ _ (by rw [List.length_map, bytesOf_length]; exact h)
  rw [hm, hm', e, List.map_append, List.map_append, List.set_append_right _ _ (by omega), hl, Nat.sub_self, List.replicate_succ, List.map_append, List.map_cons, List.set_cons_zero, List.append_assoc]
  rfl

set_option maxHeartbeats 1000000 in
set_option maxRecDepth 100000 in
theorem lowerStr_any (s : ByteArray) (w : World) (hs : s.size ≤ 1048576) :
    Calls Try.prog 16 #[.string s] w fun e w' => e = .returned (.string (strN ((bytesOf s).map low))) ∧ Below w.heap.size w w' := by
  have hg := get_bn s
  obtain ⟨i0, hi, hz0, hz1, hz2⟩ := info_parts Try.info5
  go_enter Try.func16, Try.ntmps16
  go_wp2_with (at_make; refine wpList_make_full _ rfl _ _ 22 rfl w.heap.size 5 i0 (.int .u8 0) 1 Try.underlying22 hi hz0 hz1 _ _ _ _ s.size rfl rfl rfl rfl (by rw [hz2]; omega) (by unfold maxLen; omega) (Nat.le_refl _) ?_; intro w1 hown hgrow)
  have hown1 : w1.ownsRow w.heap.size 5 1 (.slice (some ⟨w.heap.size, 0, none⟩) s.size s.size) s.size (partL s 0) := by
    have e : (madeCells (Value.int .u8 0).cells (s.size * 1)).toList = List.replicate s.size (.int .u8 0) := by
      rw [Nat.mul_one]; exact toList_madeCells_one _ _
    rw [e] at hown
    have e2 : partL s 0 = List.replicate s.size (.int .u8 0) := by simp [partL, B8]
    rw [e2]; exact hown
  have hb1 : Below w.heap.size w w1 := (Below.refl _ _).grown hgrow (Nat.le_refl _) (by simp)
  clear hown hgrow hi hz0 hz1 hz2
  go_wp2
  go_loopw [4] (fun i wr => ∃ k : Nat, k ≤ s.size ∧ i = .int .i64 k ∧ wr.ownsRow w.heap.size 5 1 (.slice (some ⟨w.heap.size, 0, none⟩) s.size s.size) s.size (partL s k) ∧ Below w.heap.size w wr) (fun i _ => s.size - (intOf i).toNat)
  case atStart => exact ⟨0, Nat.zero_le _, rfl, hown1, hb1⟩
  case round =>
    obtain ⟨k, hk, rfl, hown, hb⟩ := hrel
    by_cases hkl : k < s.size
    · have c1 : wr.cell? ⟨w.heap.size, k, none⟩ = (partL s k)[k]? := hown.cellAt k (by omega)
      obtain ⟨u, hu⟩ : ∃ u, (partL s k)[k]? = some u := by
        have hl := hown.1
        exact ⟨_, List.getElem?_eq_getElem (by omega)⟩
      rw [hu] at c1
      have f1 := hown.frozenAt k
      have st := hown.stored k (.int .u8 ((low (bn s k) : Nat) : Int))
      rw [partL_step s k hkl] at st
      have hlt := bn_lt s k
      have hb' := hb.setCell (p := ⟨w.heap.size, k, none⟩) (Nat.le_refl _) (.int .u8 ((low (bn s k) : Nat) : Int))
      have H1 : Hid ((wr.setCell ⟨w.heap.size, k, none⟩ (.int .u8 ((low (bn s k) : Nat) : Int))).ownsRow w.heap.size 5 1 (.slice (some ⟨w.heap.size, 0, none⟩) s.size s.size) s.size (partL s (k + 1))) := st.1
      clear st hown hu hb1 hown1
      unfold low at H1 hb'
      by_cases h1 : 65 ≤ bn s k
      · by_cases h2 : bn s k ≤ 90
        · rw [if_pos ⟨h1, h2⟩] at H1 hb'
          go_wp2
          go_roundw
          case rel => exact ⟨k + 1, by omega, by go_num, H1.out, hb'⟩
          case measure => simp [intOf]; omega
        · rw [if_neg (by omega)] at H1 hb'
          go_wp2
          go_roundw
          case rel => exact ⟨k + 1, by omega, by go_num, H1.out, hb'⟩
          case measure => simp [intOf]; omega
      · rw [if_neg (by omega)] at H1 hb'
        go_wp2
        go_roundw
        case rel => exact ⟨k + 1, by omega, by go_num, H1.out, hb'⟩
        case measure => simp [intOf]; omega
    · obtain rfl : k = s.size := by omega
      have hcv : (convert 22 9 (.slice (some ⟨w.heap.size, 0, none⟩) s.size s.size)).run Try.prog wr = .ok (.string (strN ((bytesOf s).map low))) wr := by
        have hl : ((bytesOf s).map low).length = s.size := by rw [List.length_map, bytesOf_length]
        have h := conv_any w.heap.size s.size ((bytesOf s).map low) wr (fun i hi => by rw [bytesOf_at s i (by omega)]; exact low_lt (bn_lt s i)) (fun i hi => by
          rw [hown.cellAt i (by omega)]
          unfold partL B8
          rw [List.take_of_length_le (by omega), Nat.sub_self, List.replicate_zero, List.append_nil, List.getElem?_map, List.getElem?_eq_getElem (by omega)]
          simp [List.getD, bytesOf, show i < s.size by omega])
        rw [hl] at h
        exact h
      clear hown hown1 hb1
      go_wp2
      go_ret
      exact ⟨rfl, hb⟩
end Go.Proofs.Qxb6000092a
