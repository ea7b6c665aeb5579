/-
  dns.appendNameKey WALKED: what it appends to b for a valid name is the key of its labels.
-/
import Derived.Test.Qxb6000092aName
namespace Go.Proofs.Qxb6000092a
open Go.RowKit

/-- The octets of the label that begins at p. -/
def lab (s : ByteArray) (p : Nat) : List Nat := (List.range (bn s p)).map fun t => bn s (p + 1 + t)
def encO (o : Nat) : List Nat := if o = 0 then [0, 255] else [low o]
def encL (l : List Nat) : List Nat := l.flatMap encO
def encP (s : ByteArray) (p : Nat) : List Nat := encL (lab s p) ++ [0, 1]
/-- The key of the labels that begin at ps. -/
def keyOf (s : ByteArray) (ps : List Nat) : List Nat := ps.reverse.flatMap (encP s) ++ [0, 0]

theorem lab_length (s : ByteArray) (p : Nat) : (lab s p).length = bn s p := by simp [lab]
theorem lab_at (s : ByteArray) (p t : Nat) (h : t < bn s p) : (lab s p).getD t 0 = bn s (p + 1 + t) := by simp [lab, List.getD, h]
theorem encO_length (o : Nat) : (encO o).length ≤ 2 := by unfold encO; split <;> simp
theorem encL_snoc (l : List Nat) (o : Nat) : encL (l ++ [o]) = encL l ++ encO o := by simp [encL]
theorem encL_length (l : List Nat) : (encL l).length ≤ 2 * l.length := by
  induction l with
  | nil => simp [encL]
  | cons x t ih =>
    have := encO_length x
    have e : encL (x :: t) = encO x ++ encL t := rfl
    rw [e, List.length_append, List.length_cons]; omega
theorem take_snocD (l : List Nat) (n d : Nat) (h : n < l.length) : l.take (n + 1) = l.take n ++ [l.getD n d] := by
  have hg : l.getD n d = l[n] := by simp [List.getD, h]
  rw [List.take_succ_eq_append_getElem h, hg]
theorem drop_consD (l : List Nat) (n d : Nat) (h : n < l.length) : l.drop n = l.getD n d :: l.drop (n + 1) := by
  have hg : l.getD n d = l[n] := by simp [List.getD, h]
  rw [hg, List.drop_eq_getElem_cons h]
theorem rev_step (s : ByteArray) (ps : List Nat) (k d : Nat) (h : k < ps.length) : (ps.drop k).reverse.flatMap (encP s) = (ps.drop (k + 1)).reverse.flatMap (encP s) ++ encP s (ps.getD k d) := by
  rw [drop_consD ps k d h, List.reverse_cons, List.flatMap_append]; simp

theorem Up.low {H H' : Nat} {e : TypeId} {w : World} {v : Value} {n : Nat} {xs : List Value} (h : Up H' e w v n xs) (hH : H ≤ H') : Up H e w v n xs :=
  ⟨h.1, fun k hk => (h.2 k hk).elim (fun h' => .inl (Nat.le_trans hH h')) .inr⟩
theorem Up.high {H H' : Nat} {e : TypeId} {w : World} {v : Value} {n : Nat} {xs : List Value} (h : Up H e w v n xs) (hlt : ∀ k, v.ownBlock = some k → k < H) : Up H' e w v n xs :=
  ⟨h.1, fun k hk => .inr ((h.2 k hk).resolve_left (by have := hlt k hk; omega))⟩

def z127 : Array Value := (B8 (List.replicate 127 0)).toArray
theorem zero46 (w : World) : (zeroValue 46).run Try.prog w = .ok (.agg z127) w := by kernel_rfl
theorem z127_eq (ps : List Nat) : z127 = (startsL ps 0).toArray := rfl

theorem up_oct {H nb o t p c : Nat} {w : World} {v : Value} {bs : List Value} {es ns : List Nat} {s : ByteArray} (hT : (lab s p).take (t + 1) = (lab s p).take t ++ [o]) (hn : encO o = ns) (h : Up H 5 w v (nb + (es ++ encL ((lab s p).take t)).length + c) (bs ++ B8 (es ++ encL ((lab s p).take t)) ++ B8 ns)) (hc : ns.length = c := by rfl) :
    Up H 5 w v (nb + (es ++ encL ((lab s p).take (t + 1))).length) (bs ++ B8 (es ++ encL ((lab s p).take (t + 1)))) := by
  rw [hT, encL_snoc, hn, ← List.append_assoc, List.length_append, B8_append, hc, ← List.append_assoc, ← Nat.add_assoc]
  exact h
theorem up_lab {H nb p : Nat} {w : World} {v : Value} {bs : List Value} {es : List Nat} {s : ByteArray} (h : Up H 5 w v (nb + (es ++ encL (lab s p)).length + 2) (bs ++ B8 (es ++ encL (lab s p)) ++ B8 [0, 1])) :
    Up H 5 w v (nb + (es ++ encP s p).length) (bs ++ B8 (es ++ encP s p)) := by
  unfold encP
  rw [← List.append_assoc, List.length_append, B8_append, ← List.append_assoc, ← Nat.add_assoc]
  exact h

set_option maxHeartbeats 2000000 in
set_option maxRecDepth 100000 in
theorem key_any (vb : Value) (nb : Nat) (bs : List Value) (s : ByteArray) (ps : List Nat) (w : World) (h : Valid s ps) (hb : Up w.heap.size 5 w vb nb bs) (hn : nb ≤ 1048576) :
    Calls Try.prog 24 #[vb, .string s] w fun e w' => ∃ v' : Value, e = .returned v' ∧ Up w.heap.size 5 w' v' (nb + (keyOf s ps).length) (bs ++ B8 (keyOf s ps)) ∧ Below w.heap.size w w' := by
  have hg := get_bn s
  have HV : Hid (Valid s ps) := h
  have hc := h.count
  have hs1 := h.pos
  have hs2 := h.le
  clear h
  obtain ⟨i0, hi, hz0, hz1, hz2⟩ := info_parts Try.info5
  have q0 := zero46
  go_enter Try.func24, Try.ntmps24
  go_wp2_with fail
  refine (starts_any s ps w.heap.size _ HV.out ((heap_alloc_new _ _).trans (by rw [z127_eq ps]))).mono ?_
  rintro e wa ⟨rfl, HST, hba⟩
  have hsa : w.heap.size < wa.heap.size := by have := hba.size; simp at this; omega
  have hupA : Up wa.heap.size 5 wa vb nb bs := (hb.kept fun k hk => by
    have hk' := hb.lt k hk
    rw [hba.block k hk', heap_alloc_old _ _ hk']).high (hb.lt)
  have hbw : Below w.heap.size w wa := ((Below.refl _ _).alloc (Nat.le_refl _) _).trans hba
  have HST2 : Hid (∀ k, k < ps.length → wa.cell? ⟨w.heap.size, k, none⟩ = some (.int .u8 ((ps.getD k (s.size - 1) : Nat) : Int))) := fun k hk => by
    rw [cell_of_row _ _ _ _ _ _ HST, List.getElem?_toArray, startsL_at ps k _ hk]
  clear HST hba hb q0
  go_wp2
  go_loopw [0, 6] (fun v i wr => ∃ (k : Nat) (es : List Nat), k ≤ ps.length ∧ i = .int .i64 ((k : Int) - 1) ∧ Hid (es = (ps.drop k).reverse.flatMap (encP s)) ∧ es.length ≤ 128 * (ps.length - k) ∧ Up wa.heap.size 5 wr v (nb + es.length) (bs ++ B8 es) ∧ Below wa.heap.size wa wr) (fun _ i _ => (intOf i + 1).toNat)
  case atStart => exact ⟨ps.length, [], Nat.le_refl _, rfl, by show _ = _; simp, by simp, by simpa [B8] using hupA, Below.refl _ _⟩
  case round =>
    obtain ⟨k, es, hk, rfl, HE, hel, hup, hbr⟩ := hrel
    cases k with
    | zero =>
      go_wp2_with (at_builtin; refine append_up _ rfl (.tmp 49) (.tmp 50) 22 rfl wa.heap.size 5 i0 (.int .u8 0) 1 Try.underlying22 hi hz0 hz1 hz2 rfl _ _ _ rfl (hup.kept fun kk hkk => heap_alloc_old _ _ (hup.lt kk hkk)) ⟨wr.heap.size, 0, none⟩ 2 2 [.int .u8 0, .int .u8 0] rfl rfl (World.news_of_block (heap_alloc_new wr _)) (by simp [Value.oneCell']) (by omega) (by omega) (by unfold maxLen; omega) (by have := hbr.size; simp; omega) ?_; intro v6 w6 hup6 hb6 hfar6)
      go_ret
      have he : keyOf s ps = es ++ [0, 0] := by rw [HE.out, List.drop_zero]; rfl
      refine ⟨v6, rfl, ?_, hbw.trans (((hbr.alloc hbr.size _).trans hb6).mono (by omega))⟩
      rw [he, B8_append, List.length_append, ← List.append_assoc, ← Nat.add_assoc]
      exact hup6.low (by omega)
    | succ k =>
      have c0 : wr.cell? ⟨w.heap.size, k, none⟩ = some (.int .u8 ((ps.getD k (s.size - 1) : Nat) : Int)) := (hbr.cell (by exact hsa)).trans (HST2.out k (by omega))
      obtain ⟨f1, f2, f3⟩ := HV.out.fits k (by omega)
      have f4 := HV.out.path.lab k (by omega)
      have HE2 : Hid ((ps.drop k).reverse.flatMap (encP s) = es ++ encP s (ps.getD k (s.size - 1))) := by rw [HE.out]; exact rev_step s ps k _ (by omega)
      clear f3
      generalize ps.getD k (s.size - 1) = p at *
      have hk0 : (0 : Int) ≤ (k : Int) := by omega
      have hk1 : (k : Int) < 127 := by omega
      rw [show ((k + 1 : Nat) : Int) - 1 = (k : Int) by omega]
      go_wp2
      obtain ⟨wo, rfl⟩ : ∃ wo : World, wo = wr := ⟨_, rfl⟩
      clear c0
      go_loopw [0, 8] (fun v j wr => ∃ t : Nat, t ≤ bn s p ∧ j = .int .i64 ((p : Int) + 1 + (t : Int)) ∧ Up wa.heap.size 5 wr v (nb + (es ++ encL ((lab s p).take t)).length) (bs ++ B8 (es ++ encL ((lab s p).take t))) ∧ Below wa.heap.size wa wr) (fun _ j _ => (p + 1 + 64 : Nat) - (intOf j).toNat)
      case atStart => exact ⟨0, Nat.zero_le _, by go_num, by simpa [encL] using hup, hbr⟩
      case round =>
        obtain ⟨t, ht, rfl, hup2, hb2⟩ := hrel
        have hll := encL_length ((lab s p).take t)
        rw [List.length_take, lab_length] at hll
        have hlen : (es ++ encL ((lab s p).take t)).length ≤ 128 * (ps.length - (k + 1)) + 2 * t := by rw [List.length_append]; omega
        by_cases hlt : t < bn s p
        · have hT : Hid ((lab s p).take (t + 1) = (lab s p).take t ++ [bn s (p + 1 + t)]) := by
            rw [← lab_at s p t hlt]; exact take_snocD _ _ _ (by rw [lab_length]; exact hlt)
          have hb := bn_lt s (p + 1 + t)
          have ei : ((p : Int) + 1 + (t : Int)).toNat = p + 1 + t := by omega
          by_cases hz : bn s (p + 1 + t) = 0
          · have hz' : ((bn s (p + 1 + t) : Int) == 0) = true := by rw [hz]; rfl
            have HZ : Hid (bn s (p + 1 + t) = 0) := hz
            clear hz
            go_wp2_with (at_builtin; refine append_up _ rfl (.tmp 36) (.tmp 37) 22 rfl wa.heap.size 5 i0 (.int .u8 0) 1 Try.underlying22 hi hz0 hz1 hz2 rfl _ _ _ rfl (hup2.kept fun kk hkk => heap_alloc_old _ _ (hup2.lt kk hkk)) ⟨wr.heap.size, 0, none⟩ 2 2 [.int .u8 0, .int .u8 255] rfl rfl (World.news_of_block (heap_alloc_new wr _)) (by simp [Value.oneCell']) (by omega) (by omega) (by unfold maxLen; omega) (by have := hb2.size; simp; omega) ?_; intro v6 w6 hup6 hb6 hfar6)
            go_roundw
            case rel => first | exact ⟨t + 1, by omega, by go_num, up_oct (ns := [0, 255]) hT.out (by rw [HZ.out]; rfl) hup6, (hb2.alloc hb2.size _).trans hb6⟩ | ((repeat apply Exists.intro); refine ⟨?_, rfl⟩; exact ⟨t + 1, by omega, by go_num, up_oct (ns := [0, 255]) hT.out (by rw [HZ.out]; rfl) hup6, (hb2.alloc hb2.size _).trans hb6⟩)
            case measure => simp [intOf]; omega
          · have hz' : ((bn s (p + 1 + t) : Int) == 0) = false := by rw [beq_eq_false_iff_ne]; omega
            have HZ : Hid (encO (bn s (p + 1 + t)) = [low (bn s (p + 1 + t))]) := by show _ = _; unfold encO; rw [if_neg hz]
            clear hz
            go_wp2_with (first | (go_at_call 28; refine (lowerByte_any _ _ hb).mono ?_; rintro e w' ⟨rfl, rfl⟩) | (at_builtin; refine append_up _ rfl (.tmp 39) (.tmp 44) 22 rfl wa.heap.size 5 i0 (.int .u8 0) 1 Try.underlying22 hi hz0 hz1 hz2 rfl _ _ _ rfl (hup2.kept fun kk hkk => heap_alloc_old _ _ (hup2.lt kk hkk)) ⟨wr.heap.size, 0, none⟩ 1 1 [.int .u8 ((low (bn s (p + 1 + t)) : Nat) : Int)] rfl rfl (World.news_of_block (heap_alloc_new wr _)) (by simp [Value.oneCell']) (by omega) (by omega) (by unfold maxLen; omega) (by have := hb2.size; simp; omega) ?_; intro v6 w6 hup6 hb6 hfar6))
            go_roundw
            case rel => first | exact ⟨t + 1, by omega, by go_num, up_oct hT.out HZ.out hup6, (hb2.alloc hb2.size _).trans hb6⟩ | ((repeat apply Exists.intro); refine ⟨?_, rfl⟩; exact ⟨t + 1, by omega, by go_num, up_oct hT.out HZ.out hup6, (hb2.alloc hb2.size _).trans hb6⟩)
            case measure => simp [intOf]; omega
        · obtain rfl : t = bn s p := by omega
          have hfull : (lab s p).take (bn s p) = lab s p := List.take_of_length_le (by rw [lab_length]; exact Nat.le_refl _)
          rw [hfull] at hup2 hlen
          go_wp2_with (at_builtin; refine append_up _ rfl (.tmp 46) (.tmp 47) 22 rfl wa.heap.size 5 i0 (.int .u8 0) 1 Try.underlying22 hi hz0 hz1 hz2 rfl _ _ _ rfl (hup2.kept fun kk hkk => heap_alloc_old _ _ (hup2.lt kk hkk)) ⟨wr.heap.size, 0, none⟩ 2 2 [.int .u8 0, .int .u8 1] rfl rfl (World.news_of_block (heap_alloc_new wr _)) (by simp [Value.oneCell']) (by omega) (by omega) (by unfold maxLen; omega) (by have := hb2.size; simp; omega) ?_; intro v6 w6 hup6 hb6 hfar6)
          go_roundw
          case rel => first | exact ⟨k, es ++ encP s p, by omega, by go_num, HE2.out.symm, by rw [List.length_append, encP, List.length_append]; rw [List.length_append] at hlen; simp; omega, up_lab hup6, (hb2.alloc hb2.size _).trans hb6⟩ | ((repeat apply Exists.intro); refine ⟨?_, rfl⟩; exact ⟨k, es ++ encP s p, by omega, by go_num, HE2.out.symm, by rw [List.length_append, encP, List.length_append]; rw [List.length_append] at hlen; simp; omega, up_lab hup6, (hb2.alloc hb2.size _).trans hb6⟩)
          case measure => simp [intOf]
end Go.Proofs.Qxb6000092a
