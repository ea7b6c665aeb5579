/-
  THE PLAIN SIDE, SECOND PART: what a decoder gathers off the windows of a sorted list is the sorted list of its distinct members. No Go in sight.
-/
import Derived.Test.Qxb6000092aPlain
namespace Go.Proofs.Qxb6000092a

theorem strict_ext : ∀ (a b : List Nat), a.Pairwise (· < ·) → b.Pairwise (· < ·) → (∀ v, v ∈ a ↔ v ∈ b) → a = b := by
  intro a
  induction a with
  | nil =>
    intro b _ _ h
    match b with
    | [] => rfl
    | y :: t => have := (h y).2 List.mem_cons_self; cases this
  | cons x s ih =>
    intro b ha hb h
    match b, hb with
    | [], _ => have := (h x).1 List.mem_cons_self; cases this
    | y :: t, hb =>
      rw [List.pairwise_cons] at ha hb
      have hxy : x = y := by
        have h1 := (h x).1 List.mem_cons_self
        have h2 := (h y).2 List.mem_cons_self
        rcases List.mem_cons.1 h1 with e | h1
        · exact e
        · rcases List.mem_cons.1 h2 with e | h2
          · exact e.symm
          · have := hb.1 x h1; have := ha.1 y h2; omega
      subst hxy
      rw [ih t ha.2 hb.2 fun v => ?_]
      constructor
      · intro hv
        rcases List.mem_cons.1 ((h v).1 (List.mem_cons_of_mem _ hv)) with e | hv'
        · have := ha.1 v hv; omega
        · exact hv'
      · intro hv
        rcases List.mem_cons.1 ((h v).2 (List.mem_cons_of_mem _ hv)) with e | hv'
        · have := hb.1 v hv; omega
        · exact hv'

/-- What the decoder has gathered of window h behind t bits. -/
def dec (h : Nat) (g : List Nat) (t : Nat) : List Nat := ((List.range t).filter fun v => decide (h * 256 + v ∈ g)).map fun v => h * 256 + v
theorem dec_zero (h : Nat) (g : List Nat) : dec h g 0 = [] := rfl
theorem dec_hit (h : Nat) (g : List Nat) (t : Nat) (hm : h * 256 + t ∈ g) : dec h g (t + 1) = dec h g t ++ [h * 256 + t] := by
  simp [dec, List.range_succ, hm]
theorem dec_miss (h : Nat) (g : List Nat) (t : Nat) (hm : h * 256 + t ∉ g) : dec h g (t + 1) = dec h g t := by
  simp [dec, List.range_succ, hm]
theorem dec_length (h : Nat) (g : List Nat) (t : Nat) : (dec h g t).length ≤ t := by
  unfold dec
  rw [List.length_map]
  exact Nat.le_trans (List.length_filter_le _ _) (by simp)
theorem dec_mem (h : Nat) (g : List Nat) (t v : Nat) : v ∈ dec h g t ↔ v ∈ g ∧ h * 256 ≤ v ∧ v < h * 256 + t := by
  simp only [dec, List.mem_map, List.mem_filter, List.mem_range, decide_eq_true_eq]
  constructor
  · rintro ⟨u, ⟨hu, hm⟩, rfl⟩; exact ⟨hm, by omega, by omega⟩
  · rintro ⟨hm, h1, h2⟩; exact ⟨v - h * 256, ⟨by omega, by rwa [show h * 256 + (v - h * 256) = v by omega]⟩, by omega⟩
theorem dec_sorted (h : Nat) (g : List Nat) (t : Nat) : (dec h g t).Pairwise (· < ·) := by
  unfold dec
  rw [List.pairwise_map]
  have := (List.pairwise_lt_range (n := t)).filter fun v => decide (h * 256 + v ∈ g)
  simpa using this

/-- The members of a run share the head's window. -/
theorem run_window {l : List Nat} : ∀ y ∈ run l, y / 256 = l.headD 0 / 256 := by
  intro y hy
  have key : ∀ (p : Nat → Bool) (l : List Nat), ∀ y ∈ l.takeWhile p, p y = true := by
    intro p l
    induction l with
    | nil => intro y hy; simp at hy
    | cons x t ih =>
      intro y hy
      rw [List.takeWhile_cons] at hy
      split at hy
      · rcases List.mem_cons.1 hy with rfl | hy
        · assumption
        · exact ih y hy
      · cases hy
  simpa using key _ _ y hy
theorem run_take (l : List Nat) : run l = l.take (run l).length := (List.prefix_iff_eq_take.1 (List.takeWhile_prefix _))
/-- Behind a run the window is another. -/
theorem run_next {l : List Nat} (h : (run l).length < l.length) : l.getD (run l).length 0 / 256 ≠ l.headD 0 / 256 := by
  unfold run at h ⊢
  generalize l.headD 0 / 256 = c at h ⊢
  induction l with
  | nil => simp at h
  | cons x t ih =>
    rw [List.takeWhile_cons] at h ⊢
    split
    · rename_i hx
      rw [if_pos hx] at h
      simpa using ih (by simpa using h)
    · rename_i hx
      simpa using hx
theorem run_head {l : List Nat} (h : l ≠ []) : (run l).headD 0 = l.headD 0 := by
  match l, h with
  | x :: t, _ => simp [run]

def Sorted (xs : List Nat) : Prop := ∀ i, i + 1 < xs.length → xs.getD i 0 ≤ xs.getD (i + 1) 0
theorem Sorted.le {xs : List Nat} (h : Sorted xs) : ∀ (d i : Nat), i + d < xs.length → xs.getD i 0 ≤ xs.getD (i + d) 0 := by
  intro d
  induction d with
  | zero => intro i _; exact Nat.le_refl _
  | succ d ih => intro i hi; exact Nat.le_trans (ih i (by omega)) (h (i + d) (by omega))
theorem Sorted.mono {xs : List Nat} (h : Sorted xs) (i j : Nat) (hij : i ≤ j) (hj : j < xs.length) : xs.getD i 0 ≤ xs.getD j 0 := by
  have := h.le (j - i) i (by omega)
  rwa [show i + (j - i) = j by omega] at this

theorem mem_getD {l : List Nat} {v : Nat} (h : v ∈ l) : ∃ i, i < l.length ∧ l.getD i 0 = v := by
  obtain ⟨i, hi, e⟩ := List.getElem_of_mem h
  exact ⟨i, hi, by simp [List.getD, hi, e]⟩
theorem getD_mem {l : List Nat} {i : Nat} (h : i < l.length) : l.getD i 0 ∈ l := by
  have : l.getD i 0 = l[i] := by simp [List.getD, h]
  rw [this]; exact List.getElem_mem h

/-- The decoder's state at a window's head: m types are decoded. -/
structure Dst (xs : List Nat) (m : Nat) (prev : Int) (got : List Nat) : Prop where
  asc : got.Pairwise (· < ·)
  mem : ∀ v, v ∈ got ↔ v ∈ xs.take m
  low : ∀ v ∈ got, ((v / 256 : Nat) : Int) ≤ prev
  next : m < xs.length → prev < ((xs.getD m 0 / 256 : Nat) : Int)

theorem Dst.start (xs : List Nat) : Dst xs 0 (-1) [] := ⟨List.Pairwise.nil, by simp, by simp, fun _ => by omega⟩

theorem Dst.step {xs : List Nat} {m : Nat} {prev : Int} {got : List Nat} (hs : Sorted xs) (hm : m < xs.length) (h : Dst xs m prev got) :
    Dst xs (m + (run (xs.drop m)).length) ((xs.getD m 0 / 256 : Nat) : Int) (got ++ dec (xs.getD m 0 / 256) (run (xs.drop m)) (8 * size (run (xs.drop m)))) := by
  have hne : xs.drop m ≠ [] := by
    intro e
    have := congrArg List.length e
    simp at this; omega
  have hp := run_pos hne
  have hle := run_le (xs.drop m)
  rw [List.length_drop] at hle
  have hlast : (run (xs.drop m)).getLastD 0 = xs.getD (m + ((run (xs.drop m)).length - 1)) 0 := by
    obtain ⟨q, hq⟩ : ∃ q, (run (xs.drop m)).length = q + 1 := ⟨(run (xs.drop m)).length - 1, by omega⟩
    rw [hq, Nat.add_sub_cancel, run_take, hq, ← getD_drop]
    have hql : q < (xs.drop m).length := by rw [List.length_drop]; omega
    have hg : (xs.drop m).getD q 0 = (xs.drop m)[q] := by rw [List.getD, List.getElem?_eq_getElem hql]; rfl
    rw [List.take_succ_eq_append_getElem hql, hg, List.getLastD_concat]
  have hwin : ∀ y ∈ run (xs.drop m), y / 256 = xs.getD m 0 / 256 := fun y hy => by rw [← headD_drop]; exact run_window y hy
  have hmem : ∀ v, v ∈ dec (xs.getD m 0 / 256) (run (xs.drop m)) (8 * size (run (xs.drop m))) ↔ v ∈ run (xs.drop m) := by
    intro v
    rw [dec_mem]
    refine ⟨fun h => h.1, fun hv => ⟨hv, ?_, ?_⟩⟩
    · have := hwin v hv; omega
    · have hw := hwin v hv
      obtain ⟨i, hi, e⟩ := mem_getD hv
      have hvi : v = xs.getD (m + i) 0 := by
        rw [← e, ← getD_drop, run_take]
        have : i < ((xs.drop m).take (run (xs.drop m)).length).length := by rw [← run_take]; exact hi
        simp [List.getD, hi]
      have hlw : xs.getD (m + ((run (xs.drop m)).length - 1)) 0 / 256 = xs.getD m 0 / 256 := by
        rw [← hlast]
        refine hwin _ ?_
        have := getD_mem (l := run (xs.drop m)) (i := (run (xs.drop m)).length - 1) (by omega)
        have e2 : (run (xs.drop m)).getD ((run (xs.drop m)).length - 1) 0 = (run (xs.drop m)).getLastD 0 := by
          rw [List.getD, List.getLastD_eq_getLast?, List.getLast?_eq_getElem?]
        rw [← e2]; exact this
      have hle2 : v ≤ xs.getD (m + ((run (xs.drop m)).length - 1)) 0 := by
        rw [hvi]; exact hs.mono _ _ (by omega) (by omega)
      unfold size
      rw [hlast]
      omega
  refine ⟨?_, ?_, ?_, ?_⟩
  · rw [List.pairwise_append]
    refine ⟨h.asc, dec_sorted _ _ _, fun a ha b hb => ?_⟩
    have h1 := h.low a ha
    have h2 := h.next hm
    have h3 := hwin b ((hmem b).1 hb)
    have : a / 256 < b / 256 := by omega
    omega
  · intro v
    rw [List.mem_append, hmem, h.mem, List.take_add, List.mem_append, ← run_take]
  · intro v hv
    rcases List.mem_append.1 hv with hv | hv
    · have := h.low v hv; have := h.next hm; omega
    · have := hwin v ((hmem v).1 hv); omega
  · intro hlt
    have h1 := run_next (l := xs.drop m) (by rw [List.length_drop]; omega)
    rw [getD_drop, headD_drop] at h1
    have h2 := hs.mono m (m + (run (xs.drop m)).length) (by omega) hlt
    omega

/-- The wanted list behind j rounds. -/
structure Wst (xs : List Nat) (j : Nat) (want : List Nat) : Prop where
  asc : want.Pairwise (· < ·)
  mem : ∀ v, v ∈ want ↔ v ∈ xs.take j
  len : want.length ≤ j
theorem Wst.start (xs : List Nat) : Wst xs 0 [] := ⟨List.Pairwise.nil, by simp, by simp⟩
theorem Wst.hit {xs : List Nat} {j : Nat} {want : List Nat} (hs : Sorted xs) (hj : j < xs.length) (h : Wst xs j want) (hd : j = 0 ∨ xs.getD j 0 ≠ xs.getD (j - 1) 0) : Wst xs (j + 1) (want ++ [xs.getD j 0]) := by
  refine ⟨?_, ?_, ?_⟩
  · rw [List.pairwise_append]
    refine ⟨h.asc, List.pairwise_singleton _ _, fun a ha b hb => ?_⟩
    rw [List.mem_singleton] at hb
    subst hb
    obtain ⟨i, hi, e⟩ := mem_getD ((h.mem a).1 ha)
    rw [List.length_take] at hi
    have e2 : (xs.take j).getD i 0 = xs.getD i 0 := by simp [List.getD, show i < j by omega]
    rw [e2] at e
    rcases hd with hd | hd
    · omega
    · have h1 := hs.mono i (j - 1) (by omega) (by omega)
      have h2 := hs.mono (j - 1) j (by omega) hj
      omega
  · intro v
    rw [take_snoc' xs j hj, List.mem_append, List.mem_append, h.mem]
  · have := h.len; simp; omega
theorem Wst.miss {xs : List Nat} {j : Nat} {want : List Nat} (hj : j < xs.length) (h : Wst xs j want) (h0 : 0 < j) (hd : xs.getD j 0 = xs.getD (j - 1) 0) : Wst xs (j + 1) want := by
  refine ⟨h.asc, ?_, by have := h.len; omega⟩
  intro v
  rw [take_snoc' xs j hj, List.mem_append, h.mem, List.mem_singleton]
  refine ⟨.inl, fun hv => ?_⟩
  rcases hv with hv | rfl
  · exact hv
  · rw [hd]
    have e2 : (xs.take j).getD (j - 1) 0 = xs.getD (j - 1) 0 := by simp [List.getD, show j - 1 < j by omega]
    rw [← e2]
    exact getD_mem (by rw [List.length_take]; omega)

theorem same {xs got want : List Nat} {prev : Int} (h : Dst xs xs.length prev got) (h' : Wst xs xs.length want) : got = want :=
  strict_ext got want h.asc h'.asc fun v => (h.mem v).trans (h'.mem v).symm

/-- What the decoder reads at a window's head. -/
theorem win_read {R xs : List Nat} {m o : Nat} (hR : R.drop o = enc (xs.drop m)) (hm : m < xs.length) :
    R.getD o 0 = xs.getD m 0 / 256 ∧ R.getD (o + 1) 0 = size (run (xs.drop m)) ∧ (∀ k, k < size (run (xs.drop m)) → R.getD (o + 2 + k) 0 = byteAt (run (xs.drop m)) k) ∧
    o + 2 + size (run (xs.drop m)) ≤ R.length ∧ R.drop (o + (2 + size (run (xs.drop m)))) = enc (xs.drop (m + (run (xs.drop m)).length)) := by
  have hne : xs.drop m ≠ [] := by
    intro e
    have := congrArg List.length e
    simp at this; omega
  rw [enc_step hne, List.drop_drop] at hR
  have hlen := congrArg List.length hR
  rw [List.length_drop, List.length_append, win_length] at hlen
  have hat : ∀ j, R.getD (o + j) 0 = (win (run (xs.drop m)) ++ enc (xs.drop (m + (run (xs.drop m)).length))).getD j 0 := fun j => by rw [← hR, getD_drop]
  refine ⟨?_, ?_, ?_, by omega, ?_⟩
  · have := hat 0
    rw [Nat.add_zero] at this
    rw [this, ← headD_drop xs m, ← run_head hne]; rfl
  · rw [hat 1]; rfl
  · intro k hk
    rw [Nat.add_assoc, hat (2 + k)]
    have e : 2 + k = k + 1 + 1 := by omega
    rw [e]
    show (List.map (byteAt (run (xs.drop m))) (List.range (size (run (xs.drop m)))) ++ enc (xs.drop (m + (run (xs.drop m)).length))).getD k 0 = _
    rw [List.getD, List.getElem?_append_left (by simpa using hk)]
    simp [hk]
  · have h2 := congrArg (List.drop (win (run (xs.drop m))).length) hR
    rw [List.drop_drop, win_length, List.drop_append_of_le_length (by rw [win_length]; exact Nat.le_refl _)] at h2
    rw [h2, List.drop_of_length_le (by rw [win_length]; exact Nat.le_refl _)]
    rfl

theorem last_byte {g : List Nat} (hg : g ≠ []) : byteAt g (size g - 1) ≠ 0 := by
  intro h0
  have hb := (bit_iff g (size g - 1) (g.getLastD 0 % 8) (by omega)).2 ⟨g.getLastD 0, ?_, by unfold size; omega⟩
  · rw [h0, Nat.zero_and] at hb; exact hb rfl
  · match g, hg with
    | x :: t, _ => rw [List.getLastD_cons, List.getLastD_eq_getLast?]; rw [show (t.getLast?.getD x) = (x :: t).getLast (by simp) from ?_]; · exact List.getLast_mem _
                   · rw [List.getLast_eq_getLastD]; simp [List.getLastD_eq_getLast?]

theorem hit_iff {g : List Nat} {h : Nat} (hw : ∀ y ∈ g, y / 256 = h) (q t : Nat) (hq : q < 32) (ht : t < 8) : (byteAt g q &&& (128 / 2 ^ t) ≠ 0) ↔ h * 256 + (8 * q + t) ∈ g := by
  rw [bit_iff g q t ht]
  constructor
  · rintro ⟨y, hy, e⟩
    have := hw y hy
    rw [show h * 256 + (8 * q + t) = y by omega]; exact hy
  · intro hy
    exact ⟨_, hy, by omega⟩

end Go.Proofs.Qxb6000092a
