import Derived.Test.Qxb6000678aRows
import Derived.WalkKit
import Derived.ProofKit
import Derived.OpenShut
import Derived.WalkSpells
import Derived.Handy
import Derived.Deep.QuietTactic
import Derived.BigQuiet
namespace Go.Proofs.Qxb6000678a
open Go.RowKit

theorem hasPrefix_empty (sa pa : Option Addr) (sn sc pc : Nat) (w : World) : Calls Try.prog 30 #[.slice sa sn sc, .slice pa 0 pc] w fun e w' => e = .returned (.bool true) ∧ w' = w := by
  go_enter Try.func30, Try.ntmps30
  go_wp2
  refine wp_loop_rounds 1 ?_
  rw [rounds_succ]
  go_wp2
  go_ret
  exact ⟨rfl, rfl⟩

theorem hasPrefix_true (sb so sn sc pb po pn pc : Nat) (zs : List Int) (w : World) (hle : pn ≤ sn) (hs : sn ≤ 4611686018427387904)
    (hcs : ∀ i, i < pn → w.cell? ⟨sb, so + i, none⟩ = some (.int .u8 (zs.getD i 0))) (hcp : ∀ i, i < pn → w.cell? ⟨pb, po + i, none⟩ = some (.int .u8 (zs.getD i 0))) :
    Calls Try.prog 30 #[.slice (some ⟨sb, so, none⟩) sn sc, .slice (some ⟨pb, po, none⟩) pn pc] w fun e w' => e = .returned (.bool true) ∧ ∃ n, w' = w.drewN n := by
  have HS : Hid (∀ i, i < pn → w.cell? ⟨sb, so + i, none⟩ = some (.int .u8 (zs.getD i 0))) := hcs
  have HP : Hid (∀ i, i < pn → w.cell? ⟨pb, po + i, none⟩ = some (.int .u8 (zs.getD i 0))) := hcp
  clear hcs hcp
  go_enter Try.func30, Try.ntmps30
  go_wp2
  go_loopw [5] (fun i wr => ∃ k : Nat, k ≤ pn ∧ i = .int .i64 k ∧ ∃ n, wr = w.drewN n) (fun i _ => pn - (intOf i).toNat)
  case atStart => exact ⟨0, Nat.zero_le _, rfl, 0, rfl⟩
  case round =>
    obtain ⟨k, hk, rfl, n, rfl⟩ := hrel
    by_cases hlt : k < pn
    · have c1 := HS.out k hlt
      have c2 := HP.out k hlt
      have e1 : (0 : Int) ≤ (k : Int) := by omega
      have e2 : (k : Int) < (pn : Int) := by omega
      have e3 : (k : Int) < (sn : Int) := by omega
      go_wp2
      go_quiet (fail)
      go_wp2
      go_roundw
      case rel => exact ⟨k + 1, by omega, by go_num, _, rfl⟩
      case measure => simp [intOf]; omega
    · go_wp2
      go_ret
      exact ⟨rfl, n, rfl⟩

theorem Try.info5 : (Try.prog.info? 5).map (fun i => (i.zero, i.size, i.bytes)) = some (some (.int .u8 0), 1, 1) := by kernel_rfl

theorem eq_nil22 (w : World) (a : Option Addr) (n c n' c' : Nat) : (binOp .eql 22 (.slice a n c) (.slice none n' c')).run Try.prog w = .ok (.bool a.isNone) w := Lib.run_eql_slice_nil w _ _ a n c n' c' Try.underlying22

theorem clone_nil (w : World) : Calls Try.prog 13 #[.slice none 0 0] w fun e w' => e = .returned (.slice none 0 0) ∧ w' = w := by
  have q := eq_nil22
  go_enter Try.func13, Try.ntmps13
  go_wp2
  go_ret
  exact ⟨rfl, rfl⟩

/-- What the copy holds behind k rounds. -/
def part (zs : List Int) (k : Nat) : List Value := (zs.take k).map (Value.int .u8) ++ List.replicate (zs.length - k) (.int .u8 0)
theorem part_step (zs : List Int) (k : Nat) (h : k < zs.length) : (part zs k).set k (.int .u8 (zs.getD k 0)) = part zs (k + 1) := by
  unfold part
  obtain ⟨m, hm⟩ : ∃ m, zs.length - k = m + 1 := ⟨zs.length - k - 1, by omega⟩
  have hm' : zs.length - (k + 1) = m := by omega
  have hl : ((zs.take k).map (Value.int .u8)).length = k := by simp; omega
  have e : (zs.take (k + 1)).map (Value.int .u8) = (zs.take k).map (Value.int .u8) ++ [.int .u8 (zs.getD k 0)] := by
    have hg : zs.getD k 0 = zs[k] := by simp [List.getD, h]
    rw [List.take_succ_eq_append_getElem h, List.map_append, hg]; rfl
  rw [hm, hm', e, List.set_append_right _ _ (by omega), hl, Nat.sub_self, List.replicate_succ, List.set_cons_zero, List.append_assoc]
  rfl
theorem part_zero (zs : List Int) : part zs 0 = List.replicate zs.length (.int .u8 0) := by simp [part]
theorem part_full (zs : List Int) : part zs zs.length = zs.map (Value.int .u8) := by simp [part]

theorem clone_some (b off n cap : Nat) (zs : List Int) (w : World) (hz : zs.length = n) (hn : n ≤ 1048576)
    (hc : ∀ i, i < n → w.cell? ⟨b, off + i, none⟩ = some (.int .u8 (zs.getD i 0))) (hlt : n = 0 ∨ b < w.heap.size) :
    Calls Try.prog 13 #[.slice (some ⟨b, off, none⟩) n cap] w fun e w' => e = .returned (.slice (some ⟨w.heap.size, 0, none⟩) n n) ∧ w'.ownsRow w.heap.size 5 1 (.slice (some ⟨w.heap.size, 0, none⟩) n n) n (zs.map (Value.int .u8)) ∧ Below w.heap.size w w' := by
  have q := eq_nil22
  have HC : Hid (∀ i, i < n → w.cell? ⟨b, off + i, none⟩ = some (.int .u8 (zs.getD i 0))) := hc
  have HZ : Hid (zs.length = n) := hz
  clear hc hz
  obtain ⟨i0, hi, hz0, hz1, hz2⟩ := info_parts Try.info5
  go_enter Try.func13, Try.ntmps13
  go_wp2_with (at_make; refine wpList_make_full _ rfl _ _ 22 rfl w.heap.size 5 i0 (.int .u8 0) 1 Try.underlying22 hi hz0 hz1 _ _ _ _ n rfl rfl rfl rfl (by rw [hz2]; omega) (by unfold maxLen; omega) (Nat.le_refl _) ?_; intro w1 hown hgrow)
  have hown1 : w1.ownsRow w.heap.size 5 1 (.slice (some ⟨w.heap.size, 0, none⟩) n n) n (part zs 0) := by
    rw [part_zero, HZ.out]
    have e : (madeCells (Value.int .u8 0).cells (n * 1)).toList = List.replicate n (.int .u8 0) := by
      rw [Nat.mul_one]; exact toList_madeCells_one _ _
    rw [e] at hown; exact hown
  have hb1 : Below w.heap.size w w1 := (Below.refl _ _).grown hgrow (Nat.le_refl _) (by simp)
  clear hown hgrow hi hz0 hz1 hz2
  go_wp2
  go_loopw [4] (fun i wr => ∃ k : Nat, k ≤ n ∧ i = .int .i64 k ∧ wr.ownsRow w.heap.size 5 1 (.slice (some ⟨w.heap.size, 0, none⟩) n n) n (part zs k) ∧ Below w.heap.size w wr) (fun i _ => n - (intOf i).toNat)
  case atStart => exact ⟨0, Nat.zero_le _, rfl, hown1, hb1⟩
  case round =>
    obtain ⟨k, hk, rfl, hown, hb⟩ := hrel
    by_cases hkl : k < n
    · have c0 : wr.cell? ⟨b, off + k, none⟩ = some (.int .u8 (zs.getD k 0)) := (hb.cell (by show b < _; omega)).trans (HC.out k hkl)
      have c1 : wr.cell? ⟨w.heap.size, k, none⟩ = (part zs k)[k]? := hown.cellAt k (by omega)
      obtain ⟨u, hu⟩ : ∃ u, (part zs k)[k]? = some u := by
        have hl := hown.1
        exact ⟨_, List.getElem?_eq_getElem (by omega)⟩
      rw [hu] at c1
      have f1 := hown.frozenAt k
      have st := hown.stored k (.int .u8 (zs.getD k 0))
      have hz := HZ.out
      rw [part_step zs k (by omega)] at st
      have H1 : Hid ((wr.setCell ⟨w.heap.size, k, none⟩ (.int .u8 (zs.getD k 0))).ownsRow w.heap.size 5 1 (.slice (some ⟨w.heap.size, 0, none⟩) n n) n (part zs (k + 1))) := st.1
      have hb' := hb.setCell (p := ⟨w.heap.size, k, none⟩) (Nat.le_refl _) (.int .u8 (zs.getD k 0))
      clear st hown hu hz hb1 hown1
      go_wp2
      go_roundw
      case rel => exact ⟨k + 1, by omega, by go_num, H1.out, hb'⟩
      case measure => simp [intOf]; omega
    · have hz := HZ.out
      obtain rfl : k = n := by omega
      go_wp2
      go_ret
      rw [← hz, part_full, hz] at hown
      exact ⟨rfl, hown, hb⟩

/-! ### append onto a slice that is nil, full, or lies from block H on: nothing below H turns -/
/-- v owns xs; its row lies from block H on, or it is full (so that an append makes a new row). -/
def Up (H : Nat) (e : TypeId) (w : World) (v : Value) (n : Nat) (xs : List Value) : Prop :=
  w.ownsRow 0 e 1 v n xs ∧ ∀ k, v.ownBlock = some k → H ≤ k ∨ v = .slice (some ⟨k, 0, none⟩) n n

theorem ownsRow_from {w : World} {e : TypeId} {v : Value} {n : Nat} {xs : List Value} {H : Nat} (h : w.ownsRow 0 e 1 v n xs) (hk : ∀ k, v.ownBlock = some k → H ≤ k) : w.ownsRow H e 1 v n xs := by
  refine ⟨h.1, ?_⟩
  rcases h.2 with h2 | ⟨g, cap, cur, hv, _, r⟩
  · exact .inl h2
  · refine .inr ⟨g, cap, cur, hv, hk g ?_, r⟩
    rw [hv]; rfl
theorem ownsRow_zero {w : World} {e : TypeId} {v : Value} {n : Nat} {xs : List Value} {H : Nat} (h : w.ownsRow H e 1 v n xs) : w.ownsRow 0 e 1 v n xs := by
  refine ⟨h.1, ?_⟩
  rcases h.2 with h2 | ⟨g, cap, cur, hv, _, r⟩
  · exact .inl h2
  · exact .inr ⟨g, cap, cur, hv, Nat.zero_le _, r⟩
theorem Up.of_owns {w : World} {e : TypeId} {v : Value} {n : Nat} {xs : List Value} {H : Nat} (h : w.ownsRow H e 1 v n xs) : Up H e w v n xs :=
  ⟨ownsRow_zero h, fun k hk => .inl (h.lt k hk).1⟩
theorem Up.kept {w w' : World} {e : TypeId} {v : Value} {n : Nat} {xs : List Value} {H : Nat} (h : Up H e w v n xs) (hb : ∀ k, v.ownBlock = some k → w'.heap[k]? = w.heap[k]?) : Up H e w' v n xs := by
  refine ⟨⟨h.1.1, ?_⟩, h.2⟩
  rcases h.1.2 with h2 | ⟨g, cap, cur, hv, hbase, hg, r⟩
  · exact .inl h2
  · refine .inr ⟨g, cap, cur, hv, hbase, ?_, r⟩
    rw [hb g (by rw [hv]; rfl)]; exact hg
theorem Up.lt {w : World} {e : TypeId} {v : Value} {n : Nat} {xs : List Value} {H : Nat} (h : Up H e w v n xs) : ∀ k, v.ownBlock = some k → k < w.heap.size := fun k hk => (h.1.lt k hk).2

theorem append_up {P : Program} (w : World) {ops : Array Oper} {rest : List Oper} {o : Oper} {a : Act} {Q : Exit → Act → World → Prop} (hgd : o.guard = none) (s x : Operand) (t : TypeId)
    (ho : o.op = .call { callee := .builtin .append, args := #[s, x], argTypes := #[t, t] })
    (H : Nat) (e : TypeId) (i : TypeInfo) (z : Value) (bytes : Nat) (ht : P.underlying t = some (.slice e)) (hi : P.info? e = some i) (hz : i.zero = some z) (hsize : i.size = 1) (hby : i.bytes = bytes) (hzs : z.cells.size = 1)
    (v : Value) (n : Nat) (xs : List Value) (hs : a.eval s = v) (hup : Up H e w v n xs)
    (ad : Addr) (m c : Nat) (news : List Value) (hx : a.eval x = .slice (some ad) m c) (hl : news.length = m) (hnews : ∀ j u, news[j]? = some u → w.cell? (ad.add j) = some u) (h1 : ∀ u ∈ news, u.oneCell' = true)
    (hm : 0 < m) (hbytes : (n + m) * bytes ≤ 140737488355328) (h63 : n + m ≤ maxLen) (hH : H ≤ w.heap.size)
    (h : ∀ v' w', Up H e w' v' (n + m) (xs ++ news) → Below H w w' → (∀ k, some k ≠ v.ownBlock → k < w.heap.size → w'.heap[k]? = w.heap[k]?) → wpList P ops Q rest (a.put o.dst v') w') : wpList P ops Q (o :: rest) a w := by
  by_cases hc : ∀ k, v.ownBlock = some k → H ≤ k
  · refine wpList_append_own w hgd s x t ho H e i z 1 bytes ht hi hz hsize hby hzs (by omega) v n xs hs (ownsRow_from hup.1 hc) ad m c news hx (by omega) hnews h1 h63 hbytes hH ?_
    intro v' w' hown hgrow _
    exact h v' w' (Up.of_owns hown) ((Below.refl _ _).grown hgrow hH hc) (fun k hk hlt => hgrow.block k hlt hk)
  · have hc' : ∃ k, v.ownBlock = some k ∧ ¬ H ≤ k := Classical.byContradiction fun hn => hc fun k hk => Classical.byContradiction fun hk' => hn ⟨k, hk, hk'⟩
    obtain ⟨k, hk, hkH⟩ := hc'
    have hv : v = .slice (some ⟨k, 0, none⟩) n n := (hup.2 k hk).resolve_left hkH
    subst hv
    refine wpList_append_grows w hgd s x t ho e i z 1 bytes ht hi hz hsize hby hzs (by omega) (some ⟨k, 0, none⟩) n n xs hs (by simp) (by have := hup.1.1; omega) ?_ ad m c news hx (by omega) hnews h1 (by omega) h63 hbytes ?_
    · intro b hb j u hj
      obtain rfl : (⟨k, 0, none⟩ : Addr) = b := by simpa using hb
      rw [Addr.add_lit, Nat.zero_add, hup.1.cellAt j (by have := (List.getElem?_eq_some_iff.1 hj).1; have := hup.1.1; omega)]
      exact hj
    · intro v' w' hown hgrow
      exact h v' w' (Up.of_owns (ownsRow_from (ownsRow_zero hown) fun k hk => Nat.le_trans hH (hown.lt k hk).1)) ((Below.refl _ _).grown hgrow hH (by simp)) (fun k _ hlt => hgrow.block k hlt (by simp))


/-! ### a slice that came in, in the walk's words -/
def RowIn (k : IntKind) (w : World) (a : Option Addr) (len cap : Nat) (ys : List Int) : Prop :=
  ys.length = len ∧ len ≤ cap ∧ cap ≤ maxLen ∧ (a = none → len = 0 ∧ cap = 0) ∧
  (0 < len → ∃ b off, a = some ⟨b, off, none⟩ ∧ b < w.heap.size ∧ ∀ i, i < len → w.cell? ⟨b, off + i, none⟩ = some (.int k (ys.getD i 0))) ∧ ∀ n ∈ ys, (Lit.int k n).wf = true

theorem rowIn_nil (k : IntKind) (w : World) : RowIn k w none 0 0 [] := ⟨rfl, Nat.le_refl _, Nat.zero_le _, fun _ => ⟨rfl, rfl⟩, fun h => absurd h (by omega), by simp⟩
theorem rowIn_some {k : IntKind} {w : World} {x : Addr} {len cap : Nat} {zs : List Int} (hl : len ≤ cap) (hm : cap ≤ maxLen) (hz : zs.length = cap) (hc : ∀ i, i < zs.length → w.cell? (x.add i) = some (.int k (zs.getD i 0))) (hw : ∀ n ∈ zs, (Lit.int k n).wf = true) :
    RowIn k w (some x) len cap (zs.take len) := by
  refine ⟨by simp; omega, hl, hm, by simp, fun hp => ?_, fun n hn => hw n (List.mem_of_mem_take hn)⟩
  obtain ⟨b, off, spot⟩ := x
  have h0 := hc 0 (by omega)
  have hspot : spot = none := by simpa [Addr.add] using World.cell?_spot h0
  subst hspot
  refine ⟨b, off, rfl, by have := World.block_lt_of_cell? w _ h0; simpa [Addr.add] using this, fun i hi => ?_⟩
  have := hc i (by omega)
  rw [Addr.add_lit] at this
  rw [this]
  have e : (zs.take len).getD i 0 = zs.getD i 0 := by simp [List.getD, hi]
  rw [e]

theorem clone_zero (ad : Addr) (c : Nat) (w : World) :
    Calls Try.prog 13 #[.slice (some ad) 0 c] w fun e w' => e = .returned (.slice (some ⟨w.heap.size, 0, none⟩) 0 0) ∧ w'.ownsRow w.heap.size 5 1 (.slice (some ⟨w.heap.size, 0, none⟩) 0 0) 0 [] ∧ Below w.heap.size w w' := by
  have q := eq_nil22
  obtain ⟨i0, hi, hz0, hz1, hz2⟩ := info_parts Try.info5
  go_enter Try.func13, Try.ntmps13
  go_wp2_with (at_make; refine wpList_make_full _ rfl _ _ 22 rfl w.heap.size 5 i0 (.int .u8 0) 1 Try.underlying22 hi hz0 hz1 _ _ _ _ 0 rfl rfl rfl rfl (by omega) (by unfold maxLen; omega) (Nat.le_refl _) ?_; intro w1 hown hgrow)
  refine wp_loop_rounds 1 ?_
  rw [rounds_succ]
  go_wp2
  go_ret
  exact ⟨rfl, by simpa [madeCells] using hown, (Below.refl _ _).grown hgrow (Nat.le_refl _) (by simp)⟩

theorem clone_any (a : Option Addr) (n c : Nat) (ys : List Int) (w : World) (h : RowIn .u8 w a n c ys) (hn : n ≤ 1048576) :
    Calls Try.prog 13 #[.slice a n c] w fun e w' => ∃ av cv, e = .returned (.slice av n cv) ∧ w'.ownsRow w.heap.size 5 1 (.slice av n cv) n (ys.map (Value.int .u8)) ∧ (∀ k, (Value.slice av n cv).ownBlock = some k → Value.slice av n cv = .slice (some ⟨k, 0, none⟩) n n) ∧ Below w.heap.size w w' := by
  obtain ⟨hl, _, _, hnone, hsome, _⟩ := h
  cases a with
  | none =>
    obtain ⟨rfl, rfl⟩ := hnone rfl
    obtain rfl : ys = [] := List.eq_nil_of_length_eq_zero hl
    refine (clone_nil w).mono ?_
    rintro e w' ⟨rfl, rfl⟩
    exact ⟨none, 0, rfl, World.ownsRow_nil _ _ _ _, by simp [Value.ownBlock], Below.refl _ _⟩
  | some ad =>
    by_cases h0 : n = 0
    · subst h0
      obtain rfl : ys = [] := List.eq_nil_of_length_eq_zero hl
      refine (clone_zero ad c w).mono ?_
      rintro e w' ⟨rfl, hown, hb⟩
      exact ⟨_, _, rfl, hown, fun k hk => by simp [Value.ownBlock] at hk; subst hk; rfl, hb⟩
    · obtain ⟨b, off, he, hlt, hc⟩ := hsome (by omega)
      simp only [Option.some.injEq] at he
      subst he
      refine (clone_some b off n c ys w hl hn hc (.inr hlt)).mono ?_
      rintro e w' ⟨rfl, hown, hb⟩
      exact ⟨_, _, rfl, hown, fun k hk => by simp [Value.ownBlock] at hk; subst hk; rfl, hb⟩

theorem hasPrefix_any (sa pa : Option Addr) (sn sc pn pc : Nat) (zs : List Int) (w : World) (hle : pn ≤ sn) (hs : sn ≤ 4611686018427387904)
    (h : 0 < pn → ∃ sb so pb po, sa = some ⟨sb, so, none⟩ ∧ pa = some ⟨pb, po, none⟩ ∧ (∀ i, i < pn → w.cell? ⟨sb, so + i, none⟩ = some (.int .u8 (zs.getD i 0))) ∧ ∀ i, i < pn → w.cell? ⟨pb, po + i, none⟩ = some (.int .u8 (zs.getD i 0))) :
    Calls Try.prog 30 #[.slice sa sn sc, .slice pa pn pc] w fun e w' => e = .returned (.bool true) ∧ ∃ n, w' = w.drewN n := by
  by_cases h0 : pn = 0
  · subst h0
    refine (hasPrefix_empty sa pa sn sc pc w).mono ?_
    rintro e w' ⟨rfl, rfl⟩
    exact ⟨rfl, 0, rfl⟩
  · obtain ⟨sb, so, pb, po, rfl, rfl, h1, h2⟩ := h (by omega)
    exact hasPrefix_true sb so sn sc pb po pn pc zs w hle hs h1 h2

end Go.Proofs.Qxb6000678a
