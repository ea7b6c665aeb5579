/-
  THE PLAIN SIDE OF 'FnAppendTypeBitMapsDecodes': the encoding of a list of type numbers as windows, and what a decoder reads off it. No Go in sight.
-/
import Derived.Laws.BitsAllLaws
namespace Go.Proofs.Qxb6000092a

/-- Octet j of the bitmap of the types g. -/
def byteAt (g : List Nat) (j : Nat) : Nat := g.foldl (fun acc x => if x % 256 / 8 = j then acc ||| (128 / 2 ^ (x % 8)) else acc) 0
theorem byteAt_snoc (g : List Nat) (x j : Nat) : byteAt (g ++ [x]) j = if x % 256 / 8 = j then byteAt g j ||| (128 / 2 ^ (x % 8)) else byteAt g j := by
  simp [byteAt, List.foldl_append]

theorem mask_lt (r : Nat) : 128 / 2 ^ (r % 8) < 256 := by
  have : ∀ r, r < 8 → 128 / 2 ^ r < 256 := by decide
  exact this (r % 8) (by omega)
theorem byteAt_lt (g : List Nat) (j : Nat) : byteAt g j < 256 := by
  have key : ∀ (l : List Nat) (acc : Nat), acc < 256 → l.foldl (fun acc x => if x % 256 / 8 = j then acc ||| (128 / 2 ^ (x % 8)) else acc) acc < 256 := by
    intro l
    induction l with
    | nil => intro acc h; exact h
    | cons x t ih =>
      intro acc h
      simp only [List.foldl_cons]
      refine ih _ ?_
      split
      · exact Nat.or_lt_two_pow (n := 8) h (mask_lt x)
      · exact h
  exact key g 0 (by omega)

theorem mask_and (r s : Nat) (hr : r < 8) (hs : s < 8) : (128 / 2 ^ r) &&& (128 / 2 ^ s) = if r = s then 128 / 2 ^ s else 0 := by
  have : ∀ r, r < 8 → ∀ s, s < 8 → (128 / 2 ^ r) &&& (128 / 2 ^ s) = if r = s then 128 / 2 ^ s else 0 := by decide
  exact this r hr s hs
theorem mask_pos (s : Nat) (hs : s < 8) : 128 / 2 ^ s ≠ 0 := by
  have : ∀ s, s < 8 → 128 / 2 ^ s ≠ 0 := by decide
  exact this s hs

/-- The bit 8j + s of the bitmap is set just where a type of g bears it. -/
theorem bit_iff (g : List Nat) (j s : Nat) (hs : s < 8) : (byteAt g j &&& (128 / 2 ^ s) ≠ 0) ↔ ∃ x ∈ g, x % 256 = 8 * j + s := by
  have key : ∀ (l : List Nat) (acc : Nat), (l.foldl (fun acc x => if x % 256 / 8 = j then acc ||| (128 / 2 ^ (x % 8)) else acc) acc &&& (128 / 2 ^ s) ≠ 0) ↔ (acc &&& (128 / 2 ^ s) ≠ 0) ∨ ∃ x ∈ l, x % 256 = 8 * j + s := by
    intro l
    induction l with
    | nil => intro acc; simp
    | cons x t ih =>
      intro acc
      simp only [List.foldl_cons]
      rw [ih]
      by_cases hj : x % 256 / 8 = j
      · rw [if_pos hj, Nat.and_or_distrib_right, mask_and (x % 8) s (by omega) hs]
        by_cases he : x % 8 = s
        · rw [if_pos he]
          constructor
          · intro _; exact .inr ⟨x, List.mem_cons_self, by omega⟩
          · intro _
            refine .inl ?_
            intro h0
            have := mask_pos s hs
            have h1 := (Nat.or_eq_zero_iff.1 h0).2
            exact this h1
        · rw [if_neg he, Nat.or_zero]
          constructor
          · rintro (h | ⟨y, hy, e⟩)
            · exact .inl h
            · exact .inr ⟨y, List.mem_cons_of_mem _ hy, e⟩
          · rintro (h | ⟨y, hy, e⟩)
            · exact .inl h
            · rcases List.mem_cons.1 hy with rfl | hy
              · exact absurd (by omega : y % 8 = s) he
              · exact .inr ⟨y, hy, e⟩
      · rw [if_neg hj]
        constructor
        · rintro (h | ⟨y, hy, e⟩)
          · exact .inl h
          · exact .inr ⟨y, List.mem_cons_of_mem _ hy, e⟩
        · rintro (h | ⟨y, hy, e⟩)
          · exact .inl h
          · rcases List.mem_cons.1 hy with rfl | hy
            · exact absurd (by omega : y % 256 / 8 = j) hj
            · exact .inr ⟨y, hy, e⟩
  have := key g 0
  simpa [byteAt] using this

/-- The run of types at the head of l that share its window. -/
def run (l : List Nat) : List Nat := l.takeWhile fun x => x / 256 == l.headD 0 / 256
/-- The size of the bitmap of the run g. -/
def size (g : List Nat) : Nat := g.getLastD 0 % 256 / 8 + 1
/-- A window: its number, its bitmap's size, its bitmap. -/
def win (g : List Nat) : List Nat := g.headD 0 / 256 :: size g :: (List.range (size g)).map (byteAt g)
def encF : Nat → List Nat → List Nat
  | 0, _ => []
  | f + 1, l => if l = [] then [] else win (run l) ++ encF f (l.drop (run l).length)
/-- The whole encoding. -/
def enc (l : List Nat) : List Nat := encF l.length l

theorem run_pos {l : List Nat} (h : l ≠ []) : 0 < (run l).length := by
  match l, h with
  | x :: t, _ => simp [run, List.takeWhile]
theorem run_le (l : List Nat) : (run l).length ≤ l.length := (List.takeWhile_sublist _).length_le
theorem encF_any (f : Nat) : ∀ (l : List Nat) (f' : Nat), l.length ≤ f → l.length ≤ f' → encF f l = encF f' l := by
  induction f with
  | zero =>
    intro l f' h h'
    obtain rfl : l = [] := List.eq_nil_of_length_eq_zero (by omega)
    cases f' <;> simp [encF]
  | succ f ih =>
    intro l f' h h'
    by_cases hl : l = []
    · subst hl; cases f' <;> simp [encF]
    · cases f' with
      | zero => exact absurd (List.eq_nil_of_length_eq_zero (by omega)) hl
      | succ f' =>
        have hp := run_pos hl
        simp only [encF, if_neg hl]
        rw [ih (l.drop (run l).length) f' (by simp; omega) (by simp; omega)]
theorem enc_nil : enc [] = [] := rfl
theorem enc_step {l : List Nat} (h : l ≠ []) : enc l = win (run l) ++ enc (l.drop (run l).length) := by
  have hp := run_pos h
  have hlen : 0 < l.length := List.length_pos_iff.2 h
  unfold enc
  obtain ⟨f, hf⟩ : ∃ f, l.length = f + 1 := ⟨l.length - 1, by omega⟩
  rw [hf]
  simp only [encF, if_neg h]
  rw [encF_any f (l.drop (run l).length) (l.drop (run l).length).length (by simp; omega) (Nat.le_refl _)]

/-- The first n elements are the run, if all of them share the window and the next does not. -/
theorem run_of {l : List Nat} {n : Nat} (hn : n ≤ l.length) (hall : ∀ i, i < n → l.getD i 0 / 256 = l.headD 0 / 256) (hend : n = l.length ∨ l.getD n 0 / 256 ≠ l.headD 0 / 256) : run l = l.take n := by
  unfold run
  generalize l.headD 0 / 256 = h at hall hend
  induction l generalizing n with
  | nil => simp
  | cons x t ih =>
    cases n with
    | zero =>
      rcases hend with h' | h'
      · simp at h'
      · simp at h'
        rw [List.takeWhile_cons, if_neg (by simpa using h')]; rfl
    | succ n =>
      have h0 : x / 256 = h := by simpa using hall 0 (by omega)
      simp only [List.takeWhile, h0, beq_self_eq_true, List.take_succ_cons]
      rw [ih (by simpa using hn) (fun i hi => by simpa using hall (i + 1) (by omega)) (by
        rcases hend with h' | h'
        · left; simpa using h'
        · right; simpa using h')]

theorem size_le (g : List Nat) : size g ≤ 32 := by unfold size; omega
theorem size_pos (g : List Nat) : 1 ≤ size g := by unfold size; omega
theorem win_length (g : List Nat) : (win g).length = 2 + size g := by simp [win]; omega
theorem win_lt (g : List Nat) (hg : ∀ x ∈ g, x < 65536) : ∀ y ∈ win g, y < 256 := by
  intro y hy
  simp only [win, List.mem_cons, List.mem_map] at hy
  rcases hy with rfl | rfl | ⟨j, _, rfl⟩
  · match g, hg with
    | [], _ => simp
    | x :: t, hg => have := hg x List.mem_cons_self; simp; omega
  · have := size_le g; omega
  · exact byteAt_lt g j

theorem getD_drop (xs : List Nat) (m i : Nat) : (xs.drop m).getD i 0 = xs.getD (m + i) 0 := by simp [List.getD, List.getElem?_drop]
theorem headD_drop (xs : List Nat) (m : Nat) : (xs.drop m).headD 0 = xs.getD m 0 := by
  have := getD_drop xs m 0
  rw [Nat.add_zero] at this
  rw [← this]
  cases xs.drop m <;> rfl
theorem take_snoc' (l : List Nat) (n : Nat) (h : n < l.length) : l.take (n + 1) = l.take n ++ [l.getD n 0] := by
  have hg : l.getD n 0 = l[n] := by simp [List.getD, h]
  rw [List.take_succ_eq_append_getElem h, hg]

end Go.Proofs.Qxb6000092a
