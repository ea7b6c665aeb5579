/-
  yamltext.LineBreak and zzConcat WALKED: the plain function of the break is lb.
-/
import Derived.Test.Qxb6000678aBase
import Derived.Laws.BitsAllLaws
import Derived.Deep.AppendLies
namespace Go.Proofs.Qxb6000678a
open Go.RowKit

def B8 (l : List Nat) : List Value := l.map fun b => .int .u8 ((b : Nat) : Int)
theorem B8_one (l : List Nat) : ∀ u ∈ B8 l, u.oneCell' = true := by
  intro u hu
  obtain ⟨_, _, rfl⟩ := List.mem_map.1 hu
  rfl
theorem B8_append (a b : List Nat) : B8 (a ++ b) = B8 a ++ B8 b := List.map_append
theorem B8_length (a : List Nat) : (B8 a).length = a.length := List.length_map _
theorem B8_at (a : List Nat) (i : Nat) (h : i < a.length) : (B8 a)[i]? = some (.int .u8 ((a.getD i 0 : Nat) : Int)) := by simp [B8, List.getD, h]

/-- The length of the line break that begins with these three bytes (0 behind the text's end). -/
def lbx (x0 x1 x2 : Nat) : Nat :=
  if x0 = 10 then 1 else if x0 = 13 then (if x1 = 10 then 2 else 1) else if x0 = 194 then (if x1 = 133 then 2 else 0)
  else if x0 = 226 then (if x1 = 128 ∧ (x2 = 168 ∨ x2 = 169) then 3 else 0) else 0
def lb (t : List Nat) : Nat := lbx (t.getD 0 0) (t.getD 1 0) (t.getD 2 0)
theorem lb_le (t : List Nat) : lb t ≤ 3 := by unfold lb lbx; (repeat' split) <;> omega

theorem lb_empty (ao : Option Addr) (c : Nat) (w : World) : Calls Try.prog 14 #[.slice ao 0 c] w fun e w' => e = .returned (.int .i64 0) ∧ w = w' := by
  go_enter Try.func14, Try.ntmps14
  go_wp2
  go_ret
  exact ⟨rfl, rfl⟩

set_option maxHeartbeats 1000000 in
theorem lb_core (b o n c x0 x1 x2 : Nat) (w : World) (hn : 0 < n) (hn2 : n ≤ 4611686018427387904) (h0 : w.cell? ⟨b, o, none⟩ = some (.int .u8 (x0 : Int))) (h1 : 1 < n → w.cell? ⟨b, o + 1, none⟩ = some (.int .u8 (x1 : Int))) (h2 : 2 < n → w.cell? ⟨b, o + 2, none⟩ = some (.int .u8 (x2 : Int)))
    (z1 : ¬ 1 < n → x1 = 0) (z2 : ¬ 2 < n → x2 = 0) :
    Calls Try.prog 14 #[.slice (some ⟨b, o, none⟩) n c] w fun e w' => e = .returned (.int .i64 ((lbx x0 x1 x2 : Nat) : Int)) ∧ w = w' := by
  have q0 : (0 : Int) < (n : Int) := by omega
  have qn : ((n : Int) == 0) = false := by rw [beq_eq_false_iff_ne]; omega
  by_cases a1 : x0 = 10
  · subst a1
    clear h1 h2 z1 z2
    go_enter Try.func14, Try.ntmps14
    go_wp2
    go_ret
    exact ⟨by simp [lbx], rfl⟩
  have t1 : ((x0 : Int) == 10) = false := by rw [beq_eq_false_iff_ne]; omega
  by_cases a2 : x0 = 13
  · subst a2
    clear h2 z2
    by_cases p1 : 1 < n
    · have c1 := h1 p1
      have p1' : (1 : Int) < (n : Int) := by omega
      clear h1 z1
      by_cases a3 : x1 = 10
      · subst a3
        go_enter Try.func14, Try.ntmps14
        go_wp2
        go_ret
        exact ⟨by simp [lbx], rfl⟩
      · have t3 : ((x1 : Int) == 10) = false := by rw [beq_eq_false_iff_ne]; omega
        have e : lbx 13 x1 x2 = 1 := by simp [lbx, a3]
        rw [e]
        clear a3 e
        go_enter Try.func14, Try.ntmps14
        go_wp2
        go_ret
        exact ⟨rfl, rfl⟩
    · have e : lbx 13 x1 x2 = 1 := by simp [lbx, z1 p1]
      rw [e]
      clear h1 z1 e
      go_enter Try.func14, Try.ntmps14
      go_wp2
      go_ret
      exact ⟨rfl, rfl⟩
  have t2 : ((x0 : Int) == 13) = false := by rw [beq_eq_false_iff_ne]; omega
  by_cases a4 : x0 = 194
  · subst a4
    clear h2 z2
    by_cases p1 : 1 < n
    · have c1 := h1 p1
      have p1' : (1 : Int) < (n : Int) := by omega
      clear h1 z1
      by_cases a3 : x1 = 133
      · subst a3
        go_enter Try.func14, Try.ntmps14
        go_wp2
        go_ret
        exact ⟨by simp [lbx], rfl⟩
      · have t3 : ((x1 : Int) == 133) = false := by rw [beq_eq_false_iff_ne]; omega
        have e : lbx 194 x1 x2 = 0 := by simp [lbx, a3]
        rw [e]
        clear a3 e
        go_enter Try.func14, Try.ntmps14
        go_wp2
        go_ret
        exact ⟨rfl, rfl⟩
    · have e : lbx 194 x1 x2 = 0 := by simp [lbx, z1 p1]
      rw [e]
      clear h1 z1 e
      go_enter Try.func14, Try.ntmps14
      go_wp2
      go_ret
      exact ⟨rfl, rfl⟩
  have t4 : ((x0 : Int) == 194) = false := by rw [beq_eq_false_iff_ne]; omega
  by_cases a5 : x0 = 226
  · subst a5
    by_cases p2 : 2 < n
    · have c1 := h1 (by omega)
      have c2 := h2 p2
      have p1' : (1 : Int) < (n : Int) := by omega
      have p2' : (2 : Int) < (n : Int) := by omega
      clear h1 h2 z1 z2
      by_cases a6 : x1 = 128
      · subst a6
        by_cases a7 : x2 = 168
        · subst a7
          go_enter Try.func14, Try.ntmps14
          go_wp2
          go_ret
          exact ⟨by simp [lbx], rfl⟩
        · have t7 : ((x2 : Int) == 168) = false := by rw [beq_eq_false_iff_ne]; omega
          by_cases a8 : x2 = 169
          · subst a8
            clear a7
            go_enter Try.func14, Try.ntmps14
            go_wp2
            go_ret
            exact ⟨by simp [lbx], rfl⟩
          · have t8 : ((x2 : Int) == 169) = false := by rw [beq_eq_false_iff_ne]; omega
            have e : lbx 226 128 x2 = 0 := by simp [lbx, a7, a8]
            rw [e]
            clear a7 a8 e
            go_enter Try.func14, Try.ntmps14
            go_wp2
            go_ret
            exact ⟨rfl, rfl⟩
      · have t6 : ((x1 : Int) == 128) = false := by rw [beq_eq_false_iff_ne]; omega
        have e : lbx 226 x1 x2 = 0 := by simp [lbx, a6]
        rw [e]
        clear a6 e
        go_enter Try.func14, Try.ntmps14
        go_wp2
        go_ret
        exact ⟨rfl, rfl⟩
    · have e : lbx 226 x1 x2 = 0 := by simp [lbx, z2 p2]
      rw [e]
      clear h1 h2 z1 z2 e
      go_enter Try.func14, Try.ntmps14
      go_wp2
      go_ret
      exact ⟨rfl, rfl⟩
  have t5 : ((x0 : Int) == 226) = false := by rw [beq_eq_false_iff_ne]; omega
  have e : lbx x0 x1 x2 = 0 := by simp [lbx, a1, a2, a4, a5]
  rw [e]
  clear h1 h2 z1 z2 e a1 a2 a4 a5
  go_enter Try.func14, Try.ntmps14
  go_wp2
  go_ret
  exact ⟨rfl, rfl⟩

/-- A slice that reads as the bytes t. -/
def Rd (w : World) (ao : Option Addr) (t : List Nat) : Prop := 0 < t.length → ∃ b o, ao = some ⟨b, o, none⟩ ∧ ∀ i, i < t.length → w.cell? ⟨b, o + i, none⟩ = some (.int .u8 ((t.getD i 0 : Nat) : Int))

theorem lb_any (ao : Option Addr) (c : Nat) (t : List Nat) (w : World) (hn : t.length ≤ 4611686018427387904) (h : Rd w ao t) :
    Calls Try.prog 14 #[.slice ao t.length c] w fun e w' => e = .returned (.int .i64 ((lb t : Nat) : Int)) ∧ w = w' := by
  by_cases h0 : t.length = 0
  · have e : t = [] := List.eq_nil_of_length_eq_zero h0
    subst e
    exact lb_empty ao c w
  · obtain ⟨b, o, rfl, hc⟩ := h (by omega)
    refine lb_core b o t.length c _ _ _ w (by omega) hn (hc 0 (by omega)) (fun h1 => hc 1 h1) (fun h2 => hc 2 h2) (fun h1 => ?_) (fun h2 => ?_)
    · simp [List.getD, show t.length ≤ 1 by omega]
    · simp [List.getD, show t.length ≤ 2 by omega]

theorem Rd.owns {w : World} {base : Nat} {ao : Option Addr} {n c : Nat} {t : List Nat} (h : w.ownsRow base 5 1 (.slice ao n c) n (B8 t)) : Rd w ao t := by
  intro hp
  have hl := h.1
  rw [B8_length] at hl
  obtain ⟨g, cap, hv, _, _⟩ := h.form (by omega)
  obtain ⟨rfl, rfl⟩ : ao = some ⟨g, 0, none⟩ ∧ c = cap := by simp at hv; exact hv
  exact ⟨g, 0, rfl, fun i hi => by rw [Nat.zero_add, h.cellAt i (by omega), B8_at t i hi]⟩
theorem Rd.kept {w w' : World} {ao : Option Addr} {t : List Nat} (h : Rd w ao t) (hb : Below w.heap.size w w') : Rd w' ao t := by
  intro hp
  obtain ⟨b, o, e, hc⟩ := h hp
  exact ⟨b, o, e, fun i hi => by
    have hlt := World.block_lt_of_cell? w _ (hc i hi)
    rw [hb.cell (by exact hlt)]; exact hc i hi⟩
theorem Rd.cells {w : World} {ao : Option Addr} {t : List Nat} (h : Rd w ao t) : ∀ ad, ao = some ad → ∀ j u, (B8 t)[j]? = some u → w.cell? (ad.add j) = some u := by
  intro ad had j u hu
  have hj : j < t.length := by have := (List.getElem?_eq_some_iff.1 hu).1; rwa [B8_length] at this
  obtain ⟨b, o, e, hc⟩ := h (by omega)
  rw [had] at e
  simp only [Option.some.injEq] at e
  subst e
  rw [Addr.add_lit, hc j hj, ← B8_at t j hj, hu]

set_option maxHeartbeats 1000000 in
theorem concat_any (aa ba : Option Addr) (na ca nb cb : Nat) (l1 l2 : List Nat) (w : World) (h1 : l1.length = na) (h2 : l2.length = nb) (n1 : aa = none → na = 0 ∧ ca = 0) (n2 : ba = none → nb = 0 ∧ cb = 0)
    (r1 : Rd w aa l1) (r2 : Rd w ba l2) (hn : na + nb ≤ 4194304) :
    Calls Try.prog 17 #[.slice aa na ca, .slice ba nb cb] w fun e w' => ∃ g c, e = .returned (.slice (some ⟨g, 0, none⟩) (na + nb) c) ∧ w'.ownsRow w.heap.size 5 1 (.slice (some ⟨g, 0, none⟩) (na + nb) c) (na + nb) (B8 (l1 ++ l2)) ∧ Below w.heap.size w w' := by
  have R1 : Hid (Rd w aa l1) := r1
  have R2 : Hid (Rd w ba l2) := r2
  have H1 : Hid (l1.length = na) := h1
  have H2 : Hid (l2.length = nb) := h2
  have N1 : Hid (aa = none → na = 0 ∧ ca = 0) := n1
  have N2 : Hid (ba = none → nb = 0 ∧ cb = 0) := n2
  clear r1 r2 h1 h2 n1 n2
  obtain ⟨i0, hi, hz0, hz1, hz2⟩ := info_parts Try.info5
  go_enter Try.func17, Try.ntmps17
  go_wp2_with (first
    | (at_make; refine wpList_make_own _ rfl _ _ 22 rfl w.heap.size 5 i0 (.int .u8 0) 1 Try.underlying22 hi hz0 hz1 _ _ _ (na + nb) rfl rfl (by omega) (by rw [hz2]; omega) (by unfold maxLen; omega) (Nat.le_refl _) ?_; intro w1 hown1 hgrow1; have hb1 : Below w.heap.size w w1 := (Below.refl _ _).grown hgrow1 (Nat.le_refl _) (by simp))
    | (at_builtin; refine wpList_append_fits_any _ rfl (.tmp 12) (.tmp 13) 22 rfl w.heap.size 5 i0 1 Try.underlying22 hi hz1 w.heap.size 0 (na + nb) [] rfl hown1 aa na ca (B8 l1) rfl (by rw [B8_length, H1.out, Nat.mul_one]) N1.out ((R1.out.kept hb1).cells) (B8_one _) (by omega) ?_; intro w2 hown2 hgrow2; have hb2 : Below w.heap.size w w2 := hb1.grown hgrow2 hb1.size (by simp); simp only [Nat.zero_add, List.nil_append] at hown2)
    | (at_builtin; refine wpList_append_fits_any _ rfl (.tmp 15) (.tmp 16) 22 rfl w.heap.size 5 i0 1 Try.underlying22 hi hz1 w.heap.size na (na + nb) (B8 l1) rfl hown2 ba nb cb (B8 l2) rfl (by rw [B8_length, H2.out, Nat.mul_one]) N2.out ((R2.out.kept hb2).cells) (B8_one _) (by omega) ?_; intro w3 hown3 hgrow3; have hb3 : Below w.heap.size w w3 := hb2.grown hgrow3 hb2.size (by simp)))
  go_ret
  exact ⟨_, _, rfl, by rw [B8_append]; exact hown3, hb3⟩
end Go.Proofs.Qxb6000678a
