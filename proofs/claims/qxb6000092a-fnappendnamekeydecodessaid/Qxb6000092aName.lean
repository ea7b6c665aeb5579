/-
  zzlaws_dns_b1.validName, dns.labelStarts, dns.lowerByte WALKED: what a valid name is, and where its labels begin.
-/
import Derived.Test.Qxb6000092aEnc
import Derived.Laws.IdiomStrings
namespace Go.Proofs.Qxb6000092a
open Go.RowKit

/-- Byte k of a string, as a number; 0 behind its end. -/
def bn (s : ByteArray) (k : Nat) : Nat := if h : k < s.size then (s[k]'h).toNat else 0
theorem get_bn (s : ByteArray) : ∀ (n : Nat) (h : n < s.size), ((s[n]'h).toNat : Int) = ((bn s n : Nat) : Int) := fun n h => by unfold bn; rw [dif_pos h]
theorem bn_lt (s : ByteArray) (k : Nat) : bn s k < 256 := by
  unfold bn; split
  · exact (s[k]).toNat_lt
  · omega
theorem bn_end (s : ByteArray) {k : Nat} (h : s.size ≤ k) : bn s k = 0 := by unfold bn; rw [dif_neg (by omega)]

/-- From 0 to i by way of the labels that begin at ps. -/
structure Path (s : ByteArray) (ps : List Nat) (i : Nat) : Prop where
  first : ps.getD 0 i = 0
  step : ∀ j, j < ps.length → ps.getD (j + 1) i = ps.getD j i + 1 + bn s (ps.getD j i)
  lab : ∀ j, j < ps.length → 1 ≤ bn s (ps.getD j i) ∧ bn s (ps.getD j i) ≤ 63
structure Valid (s : ByteArray) (ps : List Nat) : Prop where
  pos : 0 < s.size
  le : s.size ≤ 255
  path : Path s ps (s.size - 1)
  root : bn s (s.size - 1) = 0

theorem Path.start (s : ByteArray) : Path s [] 0 := ⟨rfl, fun j hj => absurd hj (by simp), fun j hj => absurd hj (by simp)⟩
theorem Path.next {s : ByteArray} {ps : List Nat} {i : Nat} (h : Path s ps i) (h1 : 1 ≤ bn s i) (h2 : bn s i ≤ 63) : Path s (ps ++ [i]) (i + 1 + bn s i) := by
  have old : ∀ j d, j < ps.length → (ps ++ [i]).getD j d = ps.getD j i := fun j d hj => by
    simp [List.getD, List.getElem?_append_left hj, hj]
  have new : ∀ d, (ps ++ [i]).getD ps.length d = i := fun d => by simp [List.getD]
  have past : (ps ++ [i]).getD (ps.length + 1) (i + 1 + bn s i) = i + 1 + bn s i := by simp [List.getD]
  have self : ps.getD ps.length i = i := by simp [List.getD]
  refine ⟨?_, fun j hj => ?_, fun j hj => ?_⟩
  · by_cases h0 : 0 < ps.length
    · rw [old 0 _ h0]; exact h.first
    · have e : ps = [] := List.eq_nil_of_length_eq_zero (by omega)
      subst e
      exact h.first
  · rw [List.length_append, List.length_singleton] at hj
    by_cases hj' : j < ps.length
    · rw [old j _ hj']
      by_cases hj2 : j + 1 < ps.length
      · rw [old (j + 1) _ hj2]; exact h.step j hj'
      · have e : j + 1 = ps.length := by omega
        rw [e, new, ← h.step j hj', e, self]
    · have e : j = ps.length := by omega
      rw [e, new, past]
  · rw [List.length_append, List.length_singleton] at hj
    by_cases hj' : j < ps.length
    · rw [old j _ hj']; exact h.lab j hj'
    · have e : j = ps.length := by omega
      rw [e, new]; exact ⟨h1, h2⟩

/-- What validName answers: where it says yes the name has its labels. -/
def ValidPost (s : ByteArray) (w : World) (e : Ending) (w' : World) : Prop := ∃ b : Bool, e = .returned (.bool b) ∧ w = w' ∧ (b = true → ∃ ps, Valid s ps)

set_option maxRecDepth 100000 in
theorem valid_any (s : ByteArray) (w : World) (hs : s.size ≤ 1048576) : Calls Try.prog 13 #[.string s] w fun e w' => ValidPost s w e w' := by
  have hg := get_bn s
  by_cases h0 : s.size = 0
  · have h0' : ((s.size : Int) == 0) = true := by rw [h0]; rfl
    go_enter Try.func13, Try.ntmps13
    go_wp2
    go_ret
    exact ⟨_, rfl, rfl, by simp⟩
  by_cases h1 : 255 < s.size
  · have h0' : ((s.size : Int) == 0) = false := by rw [beq_eq_false_iff_ne]; omega
    go_enter Try.func13, Try.ntmps13
    go_wp2
    go_ret
    exact ⟨_, rfl, rfl, by simp⟩
  have h0' : ((s.size : Int) == 0) = false := by rw [beq_eq_false_iff_ne]; omega
  go_enter Try.func13, Try.ntmps13
  go_wp2
  go_loop [3] (fun i => ∃ (k : Nat) (ps : List Nat), k ≤ s.size + 64 ∧ i = .int .i64 k ∧ Hid (Path s ps k)) (fun i => s.size + 64 - (intOf i).toNat)
  case atStart => exact ⟨0, [], Nat.zero_le _, rfl, Path.start s⟩
  case round =>
    obtain ⟨k, ps, hk, rfl, HP⟩ := hrel
    by_cases hlt : k < s.size
    · have hb := bn_lt s k
      by_cases hz : bn s k = 0
      · have hz' : ((bn s k : Int) == 0) = true := by simp; omega
        have HZ : Hid (bn s k = 0) := hz
        clear hz
        go_wp2
        go_ret
        refine ⟨_, rfl, rfl, fun he => ⟨ps, by omega, by omega, ?_, ?_⟩⟩
        · have : k = s.size - 1 := by simp at he; omega
          rw [← this]; exact HP.out
        · have : k = s.size - 1 := by simp at he; omega
          rw [← this]; exact HZ.out
      · have hz' : ((bn s k : Int) == 0) = false := by simp; omega
        by_cases h63 : 63 < bn s k
        · go_wp2
          go_ret
          exact ⟨_, rfl, rfl, by simp⟩
        · go_wp2
          go_round
          case rel => exact ⟨k + 1 + bn s k, ps ++ [k], by omega, by go_num, HP.out.next (by omega) (by omega)⟩
          case measure => simp [intOf]; omega
    · go_wp2
      go_ret
      exact ⟨_, rfl, rfl, by simp⟩

theorem Valid.end_ {s : ByteArray} {ps : List Nat} (_h : Valid s ps) : ps.getD ps.length (s.size - 1) = s.size - 1 := by simp [List.getD]
theorem Valid.up {s : ByteArray} {ps : List Nat} (h : Valid s ps) : ∀ d j, j + d ≤ ps.length → ps.getD j (s.size - 1) + 2 * d ≤ ps.getD (j + d) (s.size - 1) := by
  intro d
  induction d with
  | zero => intro j _; exact Nat.le_refl _
  | succ d ih =>
    intro j hj
    have h1 := ih j (by omega)
    have h2 := h.path.step (j + d) (by omega)
    have h3 := h.path.lab (j + d) (by omega)
    rw [show j + (d + 1) = j + d + 1 by omega, h2]
    omega
/-- Label j, of those there are, lies whole ahead of the root. -/
theorem Valid.fits {s : ByteArray} {ps : List Nat} (h : Valid s ps) (j : Nat) (hj : j < ps.length) : ps.getD j (s.size - 1) + 1 + bn s (ps.getD j (s.size - 1)) ≤ s.size - 1 ∧ 2 * j ≤ ps.getD j (s.size - 1) ∧ ps.getD (j + 1) (s.size - 1) = ps.getD j (s.size - 1) + 1 + bn s (ps.getD j (s.size - 1)) := by
  have h1 := h.path.step j hj
  have h2 := h.up (ps.length - (j + 1)) (j + 1) (by omega)
  rw [show j + 1 + (ps.length - (j + 1)) = ps.length by omega, h.end_] at h2
  have h3 := h.up j 0 (by omega)
  rw [h.path.first, Nat.zero_add, Nat.zero_add] at h3
  exact ⟨by omega, by omega, h1⟩
theorem Valid.count {s : ByteArray} {ps : List Nat} (h : Valid s ps) : ps.length ≤ 127 := by
  have h1 := h.up ps.length 0 (by omega)
  have h2 := h.le
  rw [h.path.first, Nat.zero_add, Nat.zero_add, h.end_] at h1
  omega

/-- The array of starts behind k labels. -/
def startsL (ps : List Nat) (k : Nat) : List Value := B8 (ps.take k ++ List.replicate (127 - k) 0)
theorem startsL_step (ps : List Nat) (k d : Nat) (h : k < ps.length) (h127 : ps.length ≤ 127) : (startsL ps k).set k (.int .u8 ((ps.getD k d : Nat) : Int)) = startsL ps (k + 1) := by
  unfold startsL B8
  obtain ⟨m, hm⟩ : ∃ m, 127 - k = m + 1 := ⟨127 - k - 1, by omega⟩
  have hm' : 127 - (k + 1) = m := by omega
  have hl : ((ps.take k).map fun b : Nat => Value.int .u8 (b : Int)).length = k := by simp; omega
  have e : ps.take (k + 1) = ps.take k ++ [ps.getD k d] := by
    have hg : ps.getD k d = ps[k] := by simp [List.getD, h]
    rw [List.take_succ_eq_append_getElem h, hg]
  rw [hm, hm', e, List.map_append, List.map_append, List.set_append_right _ _ (by omega), hl, Nat.sub_self, List.replicate_succ, List.map_append, List.map_cons, List.set_cons_zero, List.append_assoc]
  rfl
theorem startsL_at (ps : List Nat) (k d : Nat) (h : k < ps.length) : (startsL ps ps.length)[k]? = some (.int .u8 ((ps.getD k d : Nat) : Int)) := by
  unfold startsL B8
  rw [List.take_length, List.map_append, List.getElem?_append_left (by simpa using h)]
  simp [List.getD, h]

set_option maxRecDepth 100000 in
theorem starts_any (s : ByteArray) (ps : List Nat) (st : Nat) (w : World) (h : Valid s ps) (hst : w.heap[st]? = some (.cells (startsL ps 0).toArray 46 (0, 0))) :
    Calls Try.prog 27 #[.string s, .pointer (some ⟨st, 0, none⟩)] w fun e w' => e = .returned (.int .i64 ((ps.length : Nat) : Int)) ∧ w'.heap[st]? = some (.cells (startsL ps ps.length).toArray 46 (0, 0)) ∧ Below st w w' := by
  have hg := get_bn s
  have HV : Hid (Valid s ps) := h
  have HS : Hid (w.heap[st]? = some (.cells (startsL ps 0).toArray 46 (0, 0))) := hst
  have hc := h.count
  have hs1 := h.pos
  have hs2 := h.le
  clear h hst
  go_enter Try.func27, Try.ntmps27
  go_wp2
  go_loopw [5, 6] (fun c i wr => ∃ k : Nat, k ≤ ps.length ∧ c = .int .i64 k ∧ i = .int .i64 ((ps.getD k (s.size - 1) : Nat) : Int) ∧ Hid (wr.heap[st]? = some (.cells (startsL ps k).toArray 46 (0, 0))) ∧ Below st w wr) (fun c _ _ => ps.length - (intOf c).toNat)
  case atStart => exact ⟨0, Nat.zero_le _, rfl, by rw [HV.out.path.first]; rfl, HS.out, Below.refl _ _⟩
  case round =>
    obtain ⟨k, hk, rfl, rfl, HB, hb⟩ := hrel
    by_cases hlt : k < ps.length
    · obtain ⟨f1, f2, f3⟩ := HV.out.fits k hlt
      have f4 := HV.out.path.lab k hlt
      have c1 : ∃ u, wr.cell? ⟨st, k, none⟩ = some u := by
        rw [cell_of_row _ _ _ _ _ _ HB.out]
        exact ⟨_, by rw [List.getElem?_toArray]; exact List.getElem?_eq_getElem (by simp [startsL, B8]; omega)⟩
      obtain ⟨u, hu⟩ := c1
      have fr : wr.frozen? ⟨st, k, none⟩ = false := by simp [World.frozen?, HB.out]
      have HN : Hid ((wr.setCell ⟨st, k, none⟩ (.int .u8 ((ps.getD k (s.size - 1) : Nat) : Int))).heap[st]? = some (.cells (startsL ps (k + 1)).toArray 46 (0, 0))) := by
        refine (heap_setCell_same _ _ _ _ _ _ HB.out).trans ?_
        rw [List.setIfInBounds_toArray, startsL_step ps k _ hlt hc]
      have hb' := hb.setCell (p := ⟨st, k, none⟩) (Nat.le_refl _) (.int .u8 ((ps.getD k (s.size - 1) : Nat) : Int))
      have HF3 : Hid (ps.getD (k + 1) (s.size - 1) = ps.getD k (s.size - 1) + 1 + bn s (ps.getD k (s.size - 1))) := f3
      clear f3
      generalize ps.getD k (s.size - 1) = i at *
      have hz : ((bn s i : Int) != 0) = true := by simp; omega
      go_wp2
      go_roundw
      case rel => exact ⟨k + 1, by omega, by go_num, by rw [HF3.out]; go_num, HN, hb'⟩
      case measure => simp [intOf]; omega
    · obtain rfl : k = ps.length := by omega
      rw [HV.out.end_]
      have hz : ((bn s (s.size - 1) : Int) != 0) = false := by rw [HV.out.root]; rfl
      go_wp2
      go_ret
      exact ⟨rfl, HB.out, hb⟩

def low (o : Nat) : Nat := if 65 ≤ o ∧ o ≤ 90 then o + 32 else o
theorem low_lt {o : Nat} (h : o < 256) : low o < 256 := by unfold low; split <;> omega
theorem low_zero_iff (o : Nat) : low o = 0 ↔ o = 0 := by unfold low; split <;> omega
theorem lowerByte_any (o : Nat) (w : World) (ho : o < 256) : Calls Try.prog 28 #[.int .u8 (o : Int)] w fun e w' => e = .returned (.int .u8 ((low o : Nat) : Int)) ∧ w = w' := by
  unfold low
  by_cases h1 : 65 ≤ o
  · by_cases h2 : o ≤ 90
    · rw [if_pos ⟨h1, h2⟩]
      go_enter Try.func28, Try.ntmps28
      go_wp2
      go_ret
      exact ⟨by go_num, rfl⟩
    · rw [if_neg (by omega)]
      go_enter Try.func28, Try.ntmps28
      go_wp2
      go_ret
      exact ⟨by go_num, rfl⟩
  · rw [if_neg (by omega)]
    go_enter Try.func28, Try.ntmps28
    go_wp2
    go_ret
    exact ⟨by go_num, rfl⟩
end Go.Proofs.Qxb6000092a
