/-
  dns.appendTypeBitMaps WALKED: whatever list of type numbers: the result is what was handed in, followed by the encoding 'enc'; nothing that was there has turned.
-/
import Derived.Test.Qxb6000092aBase
import Derived.Test.Qxb6000092aPlain
import Derived.Deep.AppendLies
namespace Go.Proofs.Qxb6000092a
open Go.RowKit

def lenOf : Value → Nat | .slice _ n _ => n | _ => 0
def B8 (l : List Nat) : List Value := l.map fun b => .int .u8 ((b : Nat) : Int)
def bmapL (g : List Nat) : List Value := B8 ((List.range 32).map (byteAt g))

theorem B8_one (l : List Nat) : ∀ u ∈ B8 l, u.oneCell' = true := by
  intro u hu
  obtain ⟨_, _, rfl⟩ := List.mem_map.1 hu
  rfl
theorem B8_append (a b : List Nat) : B8 (a ++ b) = B8 a ++ B8 b := List.map_append
theorem B8_length (a : List Nat) : (B8 a).length = a.length := List.length_map _

theorem or_cell (B y : Nat) (hB : B < 256) : bits BinOp.or IntKind.u8 (B : Int) (128 / 2 ^ (y % 8)) = ((B ||| 128 / 2 ^ (y % 8) : Nat) : Int) := by
  have e : (128 / 2 ^ (y % 8) : Int) = ((128 / 2 ^ (y % 8) : Nat) : Int) := by simp
  rw [e, u8_or_nat B _ hB (mask_lt y)]

theorem bm_step (g : List Nat) (y : Nat) : (bmapL g).set (y % 256 / 8) (.int .u8 ((byteAt g (y % 256 / 8) ||| 128 / 2 ^ (y % 8) : Nat) : Int)) = bmapL (g ++ [y]) := by
  apply List.ext_getElem?
  intro j
  have hlt : y % 256 / 8 < 32 := by omega
  by_cases hj : j < 32
  · by_cases he : y % 256 / 8 = j
    · subst he
      simp [bmapL, B8, byteAt_snoc, hlt]
    · simp [bmapL, B8, byteAt_snoc, hj, he]
  · simp [bmapL, B8, hj]
theorem bm_len (g : List Nat) : (bmapL g).length = 32 := by simp [bmapL, B8]

theorem last_take (l : List Nat) (q : Nat) (h : q < l.length) : (l.take (q + 1)).getLastD 0 = l.getD q 0 := by
  rw [take_snoc' l q h]; simp
theorem head_take (l : List Nat) (q : Nat) : (l.take (q + 1)).headD 0 = l.headD 0 := by cases l <;> rfl

theorem slice45 (wx : World) (D s : Nat) (hs : s ≤ 32) (S : Int) (hS : S = (s : Int)) :
    (Instr.sliceAt 45 (.pointer (some ⟨D, 0, none⟩)) none (some (.int .i64 S)) none).run Try.prog wx = .ok (.slice (some ⟨D, 0, none⟩) s 32) wx := by
  subst hS
  have h2 : ((s : Nat) : Int) ≤ (Try.prog.arrayLen 45 : Nat) := by
    have : Try.prog.arrayLen 45 = 32 := by kernel_rfl
    rw [this]; omega
  rw [run_sliceAt_array_h (P := Try.prog) wx 45 ⟨D, 0, none⟩ Try.underlying45 .i64 (s : Int) (by omega) h2]
  have e1 : (sizeOf (Try.prog.elem 45)).run Try.prog wx = .ok 1 wx := by kernel_rfl
  rw [e1]
  have e2 : Try.prog.arrayLen 45 = 32 := by kernel_rfl
  simp [slicedAt, e2, Result.andThen, Addr.add]

theorem news_take {w : World} {D s : Nat} {g : List Nat} (h : w.heap[D]? = some (.cells (bmapL g).toArray 45 (0, 0))) : ∀ j u, ((bmapL g).take s)[j]? = some u → w.cell? ((⟨D, 0, none⟩ : Addr).add j) = some u := fun j u hu => by
  refine World.news_of_block h j u ?_
  rw [List.getElem?_take] at hu
  split at hu
  · exact hu
  · cases hu
theorem one_take {s : Nat} {g : List Nat} : ∀ u ∈ (bmapL g).take s, u.oneCell' = true := fun u hu => B8_one _ u (List.mem_of_mem_take hu)
theorem len_take {s : Nat} {g : List Nat} (h : s ≤ 32) : ((bmapL g).take s).length = s := by rw [List.length_take, bm_len]; omega

theorem enc_next {xs es : List Nat} {m n : Nat} (hrun : run (xs.drop m) = (xs.drop m).take n) (hn : n ≤ (xs.drop m).length) (hpos : 0 < n) (HE : es ++ enc (xs.drop m) = enc xs) :
    (es ++ win ((xs.drop m).take n)) ++ enc (xs.drop (m + n)) = enc xs := by
  have hne : xs.drop m ≠ [] := fun h => by rw [h] at hn; simp at hn; omega
  have hl : (run (xs.drop m)).length = n := by rw [hrun, List.length_take]; omega
  rw [enc_step hne, hl, hrun, List.drop_drop] at HE
  rw [List.append_assoc]; exact HE
theorem news_win (g : List Nat) (x z : Nat) (hwin : win g = [x / 256, z % 256 / 8 + 1] ++ (List.range (z % 256 / 8 + 1)).map (byteAt g)) :
    [.int .u8 ((x : Int) / 256), .int .u8 ((z : Int) % 256 / 8 + 1)] ++ (bmapL g).take (z % 256 / 8 + 1) = B8 (win g) := by
  rw [hwin, B8_append]
  congr 1
  unfold bmapL B8
  rw [List.map_map, List.map_map, ← List.map_take, List.take_range, Nat.min_eq_left (by omega)]
theorem up_next {H nb a b c d : Nat} {w : World} {v : Value} {bs : List Value} {es g : List Nat} {n1 n2 : List Value} (h : Up H 5 w v (nb + a + b + c) (bs ++ B8 es ++ n1 ++ n2)) (hn : n1 ++ n2 = B8 (win g)) (hd : d = a + b + c) : Up H 5 w v (nb + d) (bs ++ B8 (es ++ win g)) := by
  subst hd
  rw [B8_append, ← hn]
  simpa [Nat.add_assoc] using h

set_option maxHeartbeats 1000000 in
theorem enc_any (vb : Value) (nb : Nat) (bs : List Value) (lb L : Nat) (xs : List Nat) (w : World) (hL : xs.length = L) (hx : ∀ i, xs.getD i 0 < 65536)
    (hc : ∀ i, i < L → w.cell? ⟨lb, i, none⟩ = some (.int .u16 ((xs.getD i 0 : Nat) : Int))) (hlb : lb < w.heap.size) (hb : Up w.heap.size 5 w vb nb bs) (hn : nb + 2 * L ≤ 1048576) :
    Calls Try.prog 23 #[vb, .slice (some ⟨lb, 0, none⟩) L L] w fun e w' => ∃ (v' : Value), e = .returned v' ∧ Up w.heap.size 5 w' v' (nb + (enc xs).length) (bs ++ B8 (enc xs)) ∧ Below w.heap.size w w' := by
  have HC : Hid (∀ i, i < L → w.cell? ⟨lb, i, none⟩ = some (.int .u16 ((xs.getD i 0 : Nat) : Int))) := hc
  have HX : Hid (∀ i, xs.getD i 0 < 65536) := hx
  have HL : Hid (xs.length = L) := hL
  clear hc hL hx
  obtain ⟨i0, hi, hz0, hz1, hz2⟩ := info_parts Try.info5
  go_enter Try.func23, Try.ntmps23
  go_wp2
  go_loopw [0, 1] (fun v l wr => ∃ m : Nat, ∃ ao : Option Addr, ∃ es : List Nat, m ≤ L ∧ l = .slice ao (L - m) (L - m) ∧ (m < L → ao = some ⟨lb, m, none⟩) ∧ Hid (es ++ enc (xs.drop m) = enc xs) ∧ es.length ≤ 34 * m ∧ Up w.heap.size 5 wr v (nb + es.length) (bs ++ B8 es) ∧ Below w.heap.size w wr) (fun _ l _ => lenOf l)
  case atStart => exact ⟨0, some ⟨lb, 0, none⟩, [], Nat.zero_le _, rfl, fun _ => rfl, by show _ = _; simp, by simp, by simpa [B8] using hb, Below.refl _ _⟩
  case round =>
    obtain ⟨m, ao, es, hm, rfl, hao, HE, hes, hup, hbel⟩ := hrel
    by_cases hlt : m < L
    · obtain rfl := hao hlt
      obtain ⟨wo, rfl⟩ : ∃ wo : World, wo = wr := ⟨_, rfl⟩
      have c0 : wo.cell? ⟨lb, m, none⟩ = some (.int .u16 ((xs.getD m 0 : Nat) : Int)) := (hbel.cell (by exact hlb)).trans (HC.out m hlt)
      have x0 := HX.out m
      obtain ⟨x, hxe⟩ : ∃ x, x = xs.getD m 0 := ⟨_, rfl⟩
      rw [← hxe] at c0 x0
      have HXE : Hid (x = xs.getD m 0) := hxe
      clear hxe hao
      have hpos : (0 : Int) < ((L - m : Nat) : Int) := by omega
      have hlw : lb < wo.heap.size := Nat.lt_of_lt_of_le hlb hbel.size
      go_wp2
      go_loopw [7] (fun i wr => ∃ n : Nat, n ≤ L - m ∧ i = .int .i64 n ∧ wr.heap[wo.heap.size]? = some (.cells (bmapL ((xs.drop m).take n)).toArray 45 (0, 0)) ∧ Hid (∀ i, i < n → xs.getD (m + i) 0 / 256 = x / 256) ∧ Below wo.heap.size wo wr) (fun i _ => L - m - (intOf i).toNat)
      case atStart => exact ⟨0, Nat.zero_le _, rfl, heap_alloc_new _ _, fun i hi => absurd hi (by omega), (Below.refl _ _).alloc (Nat.le_refl _) _⟩
      case round =>
        obtain ⟨n, hnl, rfl, hbm, HA, hb2⟩ := hrel
        by_cases hin : n < L - m ∧ xs.getD (m + n) 0 / 256 = x / 256
        · obtain ⟨hnlt, hw⟩ := hin
          have d0 : wr.cell? ⟨lb, m + n, none⟩ = some (.int .u16 ((xs.getD (m + n) 0 : Nat) : Int)) := (hb2.cell (by exact hlw)).trans ((hbel.cell (by exact hlb)).trans (HC.out (m + n) (by omega)))
          have y0 := HX.out (m + n)
          obtain ⟨y, hye⟩ : ∃ y, y = xs.getD (m + n) 0 := ⟨_, rfl⟩
          rw [← hye] at d0 y0 hw
          have HYE : Hid (y = xs.getD (m + n) 0) := hye
          clear hye
          have e1 : (n : Int) < ((L - m : Nat) : Int) := by omega
          have f0 : wr.cell? ⟨wo.heap.size, y % 256 / 8, none⟩ = some (.int .u8 ((byteAt ((xs.drop m).take n) (y % 256 / 8) : Nat) : Int)) := by
            rw [cell_of_row _ _ _ _ _ _ hbm]
            have : y % 256 / 8 < 32 := by omega
            simp [bmapL, B8, this]
          have f1 : wr.frozen? ⟨wo.heap.size, y % 256 / 8, none⟩ = false := by simp [World.frozen?, hbm]
          have t1 : ((y : Int) / 256 == (x : Int) / 256) = true := by simp; omega
          have hor := or_cell (byteAt ((xs.drop m).take n) (y % 256 / 8)) y (byteAt_lt _ _)
          have HS : Hid ((wr.setCell ⟨wo.heap.size, y % 256 / 8, none⟩ (.int .u8 ((byteAt ((xs.drop m).take n) (y % 256 / 8) ||| 128 / 2 ^ (y % 8) : Nat) : Int))).heap[wo.heap.size]? = some (.cells (bmapL ((xs.drop m).take (n + 1))).toArray 45 (0, 0))) := by
            refine (heap_setCell_same _ _ _ _ _ _ hbm).trans ?_
            rw [List.setIfInBounds_toArray, bm_step, take_snoc' (xs.drop m) n (by have := HL.out; simp; omega), getD_drop, ← HYE.out]
          have HBE := hb2.setCell (p := ⟨wo.heap.size, y % 256 / 8, none⟩) (Nat.le_refl _) (.int .u8 ((byteAt ((xs.drop m).take n) (y % 256 / 8) ||| 128 / 2 ^ (y % 8) : Nat) : Int))
          obtain ⟨B, hB⟩ : ∃ B, B = byteAt ((xs.drop m).take n) (y % 256 / 8) := ⟨_, rfl⟩
          rw [← hB] at f0 hor HS HBE
          have HW : Hid (y / 256 = x / 256) := hw
          clear hw hB hbm
          go_wp2
          go_roundw
          case rel =>
            refine ⟨n + 1, by omega, by go_num, HS.out, fun i hi => ?_, HBE⟩
            by_cases h : i < n
            · exact HA.out i h
            · obtain rfl : i = n := by omega
              rw [← HYE.out]; exact HW.out
          case measure => simp [intOf]; omega
        · -- the run ends
          have hn1 : 0 < n := by
            rcases Nat.eq_zero_or_pos n with h0 | h0
            · exact absurd ⟨by omega, by rw [h0, Nat.add_zero, ← HXE.out]⟩ hin
            · exact h0
          obtain ⟨q, rfl⟩ : ∃ q, n = q + 1 := ⟨n - 1, by omega⟩
          have z0 : wr.cell? ⟨lb, m + q, none⟩ = some (.int .u16 ((xs.getD (m + q) 0 : Nat) : Int)) := (hb2.cell (by exact hlw)).trans ((hbel.cell (by exact hlb)).trans (HC.out (m + q) (by omega)))
          have z1 := HX.out (m + q)
          have Hrun : Hid (run (xs.drop m) = (xs.drop m).take (q + 1)) := by
            have hl := HL.out
            refine run_of (by simp; omega) (fun i hi => ?_) ?_
            · rw [getD_drop, headD_drop, ← HXE.out]; exact HA.out i hi
            · rw [getD_drop, headD_drop, ← HXE.out]
              by_cases h : q + 1 < L - m
              · exact .inr fun e => hin ⟨h, e⟩
              · left; simp; omega
          have Hwin : Hid (win ((xs.drop m).take (q + 1)) = [x / 256, xs.getD (m + q) 0 % 256 / 8 + 1] ++ (List.range (xs.getD (m + q) 0 % 256 / 8 + 1)).map (byteAt ((xs.drop m).take (q + 1)))) := by
            have hl := HL.out
            show _ = _
            unfold win size
            rw [last_take _ _ (by simp; omega), head_take, headD_drop, getD_drop, ← HXE.out]; rfl
          obtain ⟨z, hze⟩ : ∃ z, z = xs.getD (m + q) 0 := ⟨_, rfl⟩
          rw [← hze] at z0 z1 Hwin
          have HZ : Hid (z = xs.getD (m + q) 0) := hze
          clear hze
          have hupA : ∀ o : Obj, Up w.heap.size 5 (wr.alloc o) u0 (nb + es.length) (bs ++ B8 es) := fun o => hup.kept fun k hk => by
            have hk' := hup.lt k hk
            rw [heap_alloc_old _ _ (Nat.lt_of_lt_of_le hk' hb2.size), hb2.block k hk']
          have hsz : w.heap.size ≤ wr.heap.size := Nat.le_trans hbel.size hb2.size
          have hex : (q + 1 < L - m ∧ xs.getD (m + (q + 1)) 0 / 256 ≠ x / 256) ∨ L - m ≤ q + 1 := by
            by_cases h : q + 1 < L - m
            · exact .inl ⟨h, fun e => hin ⟨h, e⟩⟩
            · exact .inr (by omega)
          have hsl := fun wx => slice45 wx wo.heap.size (z % 256 / 8 + 1) (by omega) ((z : Int) % 256 / 8 + 1) (by omega)
          have hne : some wo.heap.size ≠ u0.ownBlock := fun e => by have := hup.lt _ e.symm; omega
          have hWB : wo.heap.size < wr.heap.size := (Array.getElem?_eq_some_iff.1 hbm).1
          clear hin hn1
          rcases hex with ⟨hq1, hq2⟩ | hq1
          · have y1 := HX.out (m + (q + 1))
            have d0 : wr.cell? ⟨lb, m + (q + 1), none⟩ = some (.int .u16 ((xs.getD (m + (q + 1)) 0 : Nat) : Int)) := (hb2.cell (by exact hlw)).trans ((hbel.cell (by exact hlb)).trans (HC.out (m + (q + 1)) (by omega)))
            obtain ⟨y, hye⟩ : ∃ y, y = xs.getD (m + (q + 1)) 0 := ⟨_, rfl⟩
            rw [← hye] at d0 y1 hq2
            clear hye
            have t1 : ((y : Int) / 256 == (x : Int) / 256) = false := by simp; omega
            have e1 : ((q + 1 : Nat) : Int) < ((L - m : Nat) : Int) := by omega
            go_wp2_with (first
              | (at_builtin; refine append_up _ rfl (.tmp 57) (.tmp 61) 22 rfl w.heap.size 5 i0 (.int .u8 0) 1 Try.underlying22 hi hz0 hz1 hz2 rfl u0 _ _ rfl (hupA _) ⟨wr.heap.size, 0, none⟩ 2 2 [.int .u8 ((x : Int) / 256), .int .u8 ((z : Int) % 256 / 8 + 1)] rfl rfl (World.news_of_block (heap_alloc_new wr _)) (by simp [Value.oneCell']) (by omega) (by omega) (by unfold maxLen; omega) (by simp; omega) ?_; intro v1 w1 hup1 hbe1 hfar1; have hbm1 := (hfar1 wo.heap.size hne (by simp; omega)).trans ((heap_alloc_old _ _ hWB).trans hbm); have hs1 : w.heap.size ≤ w1.heap.size := by have := hbe1.size; simp at this; omega)
              | (at_builtin; refine append_up _ rfl (.tmp 63) (.tmp 65) 22 rfl w.heap.size 5 i0 (.int .u8 0) 1 Try.underlying22 hi hz0 hz1 hz2 rfl v1 _ _ rfl hup1 ⟨wo.heap.size, 0, none⟩ (z % 256 / 8 + 1) 32 ((bmapL ((xs.drop m).take (q + 1))).take (z % 256 / 8 + 1)) rfl (len_take (by omega)) (news_take hbm1) one_take (by omega) (by omega) (by unfold maxLen; omega) hs1 ?_; intro v2 w2 hup2 hbe2 hfar2))
            go_roundw
            case rel =>
              have hl := HL.out
              have hw : (win ((xs.drop m).take (q + 1))).length = 2 + (z % 256 / 8 + 1) := by rw [Hwin.out]; simp; omega
              have hsub : L - m - (q + 1) = L - (m + (q + 1)) := by omega
              refine ⟨m + (q + 1), _, es ++ win ((xs.drop m).take (q + 1)), by omega, by rw [hsub], fun _ => rfl, enc_next Hrun.out (by simp; omega) (by omega) HE.out, by rw [List.length_append, hw]; omega, up_next hup2 (news_win _ x z Hwin.out) (by rw [List.length_append, hw]; omega), ?_⟩
              exact ((hbel.trans (hb2.mono hbel.size)).alloc hsz _).trans (hbe1.trans hbe2)
            case measure => simp [lenOf]; omega
          · go_wp2_with (first
              | (at_builtin; refine append_up _ rfl (.tmp 57) (.tmp 61) 22 rfl w.heap.size 5 i0 (.int .u8 0) 1 Try.underlying22 hi hz0 hz1 hz2 rfl u0 _ _ rfl (hupA _) ⟨wr.heap.size, 0, none⟩ 2 2 [.int .u8 ((x : Int) / 256), .int .u8 ((z : Int) % 256 / 8 + 1)] rfl rfl (World.news_of_block (heap_alloc_new wr _)) (by simp [Value.oneCell']) (by omega) (by omega) (by unfold maxLen; omega) (by simp; omega) ?_; intro v1 w1 hup1 hbe1 hfar1; have hbm1 := (hfar1 wo.heap.size hne (by simp; omega)).trans ((heap_alloc_old _ _ hWB).trans hbm); have hs1 : w.heap.size ≤ w1.heap.size := by have := hbe1.size; simp at this; omega)
              | (at_builtin; refine append_up _ rfl (.tmp 63) (.tmp 65) 22 rfl w.heap.size 5 i0 (.int .u8 0) 1 Try.underlying22 hi hz0 hz1 hz2 rfl v1 _ _ rfl hup1 ⟨wo.heap.size, 0, none⟩ (z % 256 / 8 + 1) 32 ((bmapL ((xs.drop m).take (q + 1))).take (z % 256 / 8 + 1)) rfl (len_take (by omega)) (news_take hbm1) one_take (by omega) (by omega) (by unfold maxLen; omega) hs1 ?_; intro v2 w2 hup2 hbe2 hfar2))
            go_roundw
            case rel =>
              have hl := HL.out
              have hw : (win ((xs.drop m).take (q + 1))).length = 2 + (z % 256 / 8 + 1) := by rw [Hwin.out]; simp; omega
              refine ⟨m + (q + 1), _, es ++ win ((xs.drop m).take (q + 1)), by omega, by rw [show L - (m + (q + 1)) = 0 by omega], fun h => absurd h (by omega), enc_next Hrun.out (by simp; omega) (by omega) HE.out, by rw [List.length_append, hw]; omega, up_next hup2 (news_win _ x z Hwin.out) (by rw [List.length_append, hw]; omega), ?_⟩
              exact ((hbel.trans (hb2.mono hbel.size)).alloc hsz _).trans (hbe1.trans hbe2)
            case measure => simp [lenOf]; omega
    · have hml : m = L := by omega
      go_wp2
      go_ret
      refine ⟨_, rfl, ?_, hbel⟩
      have he := HE.out
      rw [hml, List.drop_of_length_le (by have := HL.out; omega), enc_nil, List.append_nil] at he
      rw [← he]; exact hup

theorem enc_empty (vb : Value) (ao : Option Addr) (c : Nat) (w : World) : Calls Try.prog 23 #[vb, .slice ao 0 c] w fun e w' => e = .returned vb ∧ w = w' := by
  go_enter Try.func23, Try.ntmps23
  go_wp2
  refine wp_loop_rounds 1 ?_
  rw [rounds_succ]
  go_wp2
  go_ret
  exact ⟨rfl, rfl⟩

/-- dns.ZZappendTypeBitMaps hands on. -/
theorem zzenc_empty (vb : Value) (ao : Option Addr) (c : Nat) (w : World) : Calls Try.prog 10 #[vb, .slice ao 0 c] w fun e w' => e = .returned vb ∧ w = w' := by
  go_enter Try.func10, Try.ntmps10
  go_wp2_with (go_at_call 23; refine (enc_empty _ _ _ _).mono ?_; rintro e w' ⟨rfl, rfl⟩)
  go_ret
  exact ⟨rfl, rfl⟩
theorem zzenc_any (vb : Value) (nb : Nat) (bs : List Value) (lb L : Nat) (xs : List Nat) (w : World) (hL : xs.length = L) (hx : ∀ i, xs.getD i 0 < 65536)
    (hc : ∀ i, i < L → w.cell? ⟨lb, i, none⟩ = some (.int .u16 ((xs.getD i 0 : Nat) : Int))) (hlb : lb < w.heap.size) (hb : Up w.heap.size 5 w vb nb bs) (hn : nb + 2 * L ≤ 1048576) :
    Calls Try.prog 10 #[vb, .slice (some ⟨lb, 0, none⟩) L L] w fun e w' => ∃ (v' : Value), e = .returned v' ∧ Up w.heap.size 5 w' v' (nb + (enc xs).length) (bs ++ B8 (enc xs)) ∧ Below w.heap.size w w' := by
  go_enter Try.func10, Try.ntmps10
  go_wp2_with fail
  refine (enc_any vb nb bs lb L xs _ hL hx hc hlb hb hn).mono ?_
  rintro e w' ⟨v', rfl, hup, hbe⟩
  go_wp2
  go_ret
  exact ⟨v', rfl, hup, hbe⟩
end Go.Proofs.Qxb6000092a
