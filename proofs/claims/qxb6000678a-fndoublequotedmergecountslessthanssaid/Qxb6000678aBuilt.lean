import Derived.Test.Qxb6000678aLess
namespace Go.Proofs.Qxb6000678a
open Go.RowKit

def Pre (t : List Nat) (n : Nat) : Prop := ∀ T c, Good T c → Good (t ++ T) (n + c)
def PreW (t : List Nat) (n : Nat) : Prop := ∀ ws T c, (∀ x ∈ ws, x = 32 ∨ x = 9) → Good T c → Good (t ++ (ws ++ T)) (n + c)
theorem Pre.nil : Pre [] 0 := fun T c h => by simpa using h
theorem Pre.less {t : List Nat} {n : Nat} (h : Pre t n) (r : Nat) : Pre (t ++ ltL r) (n + 1) := fun T c hT => by
  have := h _ _ (Good.less r T c hT)
  rw [List.append_assoc, show n + 1 + c = n + (c + 1) by omega]; exact this
theorem Pre.brk {t : List Nat} {n : Nat} (h : Pre t n) (k : Nat) : PreW (t ++ [92] ++ brkL k) n := fun ws T c hw hT => by
  have := h _ _ (Good.brk k ws T c hw hT)
  simpa using this
theorem PreW.step {t : List Nat} {n x : Nat} (h : PreW t n) (hx : x = 32 ∨ x = 9) : PreW (t ++ [x]) n := fun ws T c hw hT => by
  have := h (x :: ws) T c (by intro y hy; rcases List.mem_cons.1 hy with rfl | hy; exact hx; exact hw y hy) hT
  simpa using this
theorem PreW.pre {t : List Nat} {n : Nat} (h : PreW t n) : Pre t n := fun T c hT => by
  simpa using h [] T c (by simp) hT
theorem Pre.last {t : List Nat} {n : Nat} (h : Pre t n) (tl : List Nat) : Good (t ++ [34] ++ tl) n := by
  have := h _ _ (Good.stop tl)
  simpa using this

theorem rd_lit (w : World) (x : Nat) : Rd (w.alloc (.cells #[.int .u8 (x : Int)] 5)) (some ⟨w.heap.size, 0, none⟩) [x] := by
  intro _
  refine ⟨w.heap.size, 0, rfl, fun i hi => ?_⟩
  have : i = 0 := by simpa using hi
  subst this
  rw [World.cell?_alloc_mark]; simp

/-- The row t, from block H on, in a world that has left alone all that lay in wk. -/
def Own (H : Nat) (wk : World) (v : Value) (t : List Nat) (w : World) : Prop := w.ownsRow H 5 1 v t.length (B8 t) ∧ Below H wk w
theorem Own.alloc {H : Nat} {wk : World} {v : Value} {t : List Nat} {w : World} (h : Own H wk v t w) (o : Obj) (hH : H ≤ wk.heap.size) : Own H wk v t (w.alloc o) :=
  ⟨h.1.alloc o, h.2.alloc (Nat.le_trans hH h.2.size) o⟩
theorem Own.kept {H : Nat} {wk : World} {v : Value} {t : List Nat} {w w' : World} (h : Own H wk v t w) (hb : Below w.heap.size w w') (hH : H ≤ wk.heap.size) : Own H wk v t w' :=
  ⟨ownsRow_below h.1 hb, h.2.trans (hb.mono (Nat.le_trans hH h.2.size))⟩

theorem app {w : World} {ops : Array Oper} {rest : List Oper} {o : Oper} {a : Act} {Q : Exit → Act → World → Prop} (hgd : o.guard = none) (s x : Operand)
    (ho : o.op = .call { callee := .builtin .append, args := #[s, x], argTypes := #[22, 22] })
    (H : Nat) (wk : World) (v : Value) (t u : List Nat) (ad : Addr) (m c : Nat) (hs : a.eval s = v) (hx : a.eval x = .slice (some ad) m c) (hown : Own H wk v t w) (hm : u.length = m) (hu : Rd w (some ad) u) (hb : t.length + m ≤ 16777216) (hH : H ≤ wk.heap.size)
    (h : ∀ v' w', Own H wk v' (t ++ u) w' → wpList Try.prog ops Q rest (a.put o.dst v') w') : wpList Try.prog ops Q (o :: rest) a w := by
  obtain ⟨i0, hi, hz0, hz1, hz2⟩ := info_parts Try.info5
  have hH2 : H ≤ w.heap.size := Nat.le_trans hH hown.2.size
  refine wpList_append_own w hgd s x 22 ho H 5 i0 (.int .u8 0) 1 1 Try.underlying22 hi hz0 hz1 hz2 rfl (by decide) v t.length (B8 t) hs hown.1 ad m c (B8 u) hx (by rw [B8_length, hm, Nat.mul_one]) (hu.cells ad rfl) (B8_one _) (by unfold maxLen; omega) (by omega) hH2 ?_
  intro v' w' hown' hgrow _
  refine h v' w' ⟨?_, hown.2.grown hgrow hH2 (fun k hk => (hown.1.lt k hk).1)⟩
  rw [B8_append, List.length_append, hm]; exact hown'

theorem RowIn.kept {k : IntKind} {w w' : World} {a : Option Addr} {n c : Nat} {ys : List Int} (h : RowIn k w a n c ys) (hb : Below w.heap.size w w') : RowIn k w' a n c ys := by
  obtain ⟨h1, h2, h3, h4, h5, h6⟩ := h
  refine ⟨h1, h2, h3, h4, fun hp => ?_, h6⟩
  obtain ⟨b, off, rfl, hlt, hc⟩ := h5 hp
  exact ⟨b, off, rfl, Nat.lt_of_lt_of_le hlt hb.size, fun i hi => by rw [hb.cell (by exact hlt)]; exact hc i hi⟩

theorem zz20_small (a0 a1 a2 : Option Addr) (n0 c0 n1 c1 n2 c2 : Nat) (w : World) (h : (n0 : Int) + n1 + n2 ≤ 1048576) : Calls Try.prog 20 #[.slice a0 n0 c0, .slice a1 n1 c1, .slice a2 n2 c2] w fun e w' => e = .returned (.bool true) ∧ w = w' := by
  have q1 : ¬ (1048576 : Int) < (n0 : Int) := by omega
  have q2 : ¬ (1048576 : Int) < (n1 : Int) := by omega
  have q3 : ¬ (1048576 : Int) < (n2 : Int) := by omega
  have q4 : ¬ (1048576 : Int) < (n0 : Int) + n1 := by omega
  have q5 : ¬ (1048576 : Int) < (n0 : Int) + n1 + n2 := by omega
  go_enter Try.func20, Try.ntmps20
  go_wp2
  go_ret
  exact ⟨rfl, rfl⟩

set_option maxRecDepth 100000 in
theorem zz20_over (a0 a1 a2 : Option Addr) (n0 c0 n1 c1 n2 c2 : Nat) (w : World) (hm0 : (n0 : Int) ≤ 9223372036854775807) (hm1 : (n1 : Int) ≤ 9223372036854775807) (hm2 : (n2 : Int) ≤ 9223372036854775807) (h : ¬ (n0 : Int) + n1 + n2 ≤ 1048576) : Calls Try.prog 20 #[.slice a0 n0 c0, .slice a1 n1 c1, .slice a2 n2 c2] w fun e w' => e = .returned (.bool false) ∧ w = w' := by
  by_cases q1 : (1048576 : Int) < (n0 : Int)
  · clear h
    go_enter Try.func20, Try.ntmps20
    go_wp2
    go_ret
    exact ⟨rfl, rfl⟩
  by_cases q2 : (1048576 : Int) < (n1 : Int)
  · clear h
    go_enter Try.func20, Try.ntmps20
    go_wp2
    go_ret
    exact ⟨rfl, rfl⟩
  by_cases q4 : (1048576 : Int) < (n0 : Int) + n1
  · clear h
    go_enter Try.func20, Try.ntmps20
    go_wp2
    go_ret
    exact ⟨rfl, rfl⟩
  by_cases q3 : (1048576 : Int) < (n2 : Int)
  · clear h
    go_enter Try.func20, Try.ntmps20
    go_wp2
    go_ret
    exact ⟨rfl, rfl⟩
  have q5 : (1048576 : Int) < (n0 : Int) + n1 + n2 := by omega
  clear h
  go_enter Try.func20, Try.ntmps20
  go_wp2
  go_ret
  exact ⟨rfl, rfl⟩

set_option maxRecDepth 100000 in
theorem less_over (a0 a1 a2 : Option Addr) (n0 c0 n1 c1 n2 c2 : Nat) (w : World) (hm0 : (n0 : Int) ≤ 9223372036854775807) (hm1 : (n1 : Int) ≤ 9223372036854775807) (hm2 : (n2 : Int) ≤ 9223372036854775807) (h : ¬ ((n0 : Int) + n1 + n2 ≤ 1048576 ∧ (n0 : Int) ≤ 4096 ∧ (n1 : Int) ≤ 65536 ∧ (n2 : Int) ≤ 524288)) : Calls Try.prog 6 #[.slice a0 n0 c0, .slice a1 n1 c1, .slice a2 n2 c2] w fun e w' => e = .returned (.bool true) ∧ Below w.heap.size w w' := by
  by_cases hs : (n0 : Int) + n1 + n2 ≤ 1048576
  · have k := zz20_small a0 a1 a2 n0 c0 n1 c1 n2 c2 w hs
    by_cases q1 : (4096 : Int) < (n0 : Int)
    · clear h hs
      go_enter Try.func6, Try.ntmps6
      go_wp2_with (go_at_call 20; refine k.mono ?_; rintro e w' ⟨rfl, rfl⟩)
      go_ret
      exact ⟨rfl, Below.refl _ _⟩
    by_cases q2 : (65536 : Int) < (n1 : Int)
    · clear h hs
      go_enter Try.func6, Try.ntmps6
      go_wp2_with (go_at_call 20; refine k.mono ?_; rintro e w' ⟨rfl, rfl⟩)
      go_ret
      exact ⟨rfl, Below.refl _ _⟩
    have q3 : (524288 : Int) < (n2 : Int) := by omega
    clear h hs
    go_enter Try.func6, Try.ntmps6
    go_wp2_with (go_at_call 20; refine k.mono ?_; rintro e w' ⟨rfl, rfl⟩)
    go_ret
    exact ⟨rfl, Below.refl _ _⟩
  · have k := zz20_over a0 a1 a2 n0 c0 n1 c1 n2 c2 w hm0 hm1 hm2 hs
    clear h hs
    go_enter Try.func6, Try.ntmps6
    go_wp2_with (go_at_call 20; refine k.mono ?_; rintro e w' ⟨rfl, rfl⟩)
    go_ret
    exact ⟨rfl, Below.refl _ _⟩
end Go.Proofs.Qxb6000678a
