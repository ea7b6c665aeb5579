/-
  THE HEAD OF THIS TRANSLATION, told by its signs' numbers: its first three words are read off it with no reckoning over the whole of it (the kernel's own reckoning over 879 signs goes past the memory lid): 'mayEnter' and 'liftsFinal' follow.
-/
import Derived.Test.Qxb6000678aRows
import Derived.ProofKit
namespace Go.Proofs.Qxb6000678a
def codes1 : List Char := ([104, 97, 114, 110, 101, 115, 115] : List Nat).map Char.ofNat
def codes2 : List Char := ([
  100, 54, 55, 49, 56, 100, 98, 99, 100, 99, 55, 53, 99, 99, 100, 53, 54, 51, 98, 50, 102, 99, 97, 97, 52, 52, 101, 54, 57, 52, 48, 98, 55, 54, 97, 52, 48, 52, 51, 53,
  54, 49, 51, 54, 53, 99, 99, 99, 56, 50, 51, 55, 100, 54, 102, 55, 48, 49, 101, 101, 99, 99, 57, 99] : List Nat).map Char.ofNat
def codes3 : List Char := ([99, 117, 116] : List Nat).map Char.ofNat
def codes4 : List Char := ([
  97, 116, 32, 101, 120, 97, 109, 112, 108, 101, 46, 99, 111, 109, 47, 99, 104, 97, 114, 116, 119, 114, 105, 103, 104, 116, 47, 99, 104, 97, 114, 116, 119, 114, 105, 103, 104, 116, 47, 122,
  122, 108, 97, 119, 115, 95, 105, 110, 100, 101, 120, 95, 121, 97, 109, 108, 116, 101, 120, 116, 95, 98, 49, 46, 70, 110, 76, 105, 110, 101, 66, 114, 101, 97, 107, 77, 97, 116, 99, 104,
  101, 115, 84, 97, 98, 108, 101, 32, 101, 120, 97, 109, 112, 108, 101, 46, 99, 111, 109, 47, 99, 104, 97, 114, 116, 119, 114, 105, 103, 104, 116, 47, 99, 104, 97, 114, 116, 119, 114, 105,
  103, 104, 116, 47, 122, 122, 108, 97, 119, 115, 95, 105, 110, 100, 101, 120, 95, 121, 97, 109, 108, 116, 101, 120, 116, 95, 98, 49, 46, 70, 110, 76, 105, 110, 101, 66, 114, 101, 97, 107,
  75, 101, 112, 116, 66, 121, 77, 111, 114, 101, 32, 101, 120, 97, 109, 112, 108, 101, 46, 99, 111, 109, 47, 99, 104, 97, 114, 116, 119, 114, 105, 103, 104, 116, 47, 99, 104, 97, 114, 116,
  119, 114, 105, 103, 104, 116, 47, 122, 122, 108, 97, 119, 115, 95, 105, 110, 100, 101, 120, 95, 121, 97, 109, 108, 116, 101, 120, 116, 95, 98, 49, 46, 70, 110, 76, 105, 110, 101, 66, 114,
  101, 97, 107, 79, 102, 82, 117, 110, 101, 32, 101, 120, 97, 109, 112, 108, 101, 46, 99, 111, 109, 47, 99, 104, 97, 114, 116, 119, 114, 105, 103, 104, 116, 47, 99, 104, 97, 114, 116, 119,
  114, 105, 103, 104, 116, 47, 122, 122, 108, 97, 119, 115, 95, 105, 110, 100, 101, 120, 95, 121, 97, 109, 108, 116, 101, 120, 116, 95, 98, 49, 46, 70, 110, 68, 111, 117, 98, 108, 101, 81,
  117, 111, 116, 101, 100, 77, 101, 114, 103, 101, 67, 111, 117, 110, 116, 115, 76, 101, 115, 115, 84, 104, 97, 110, 115, 32, 101, 120, 97, 109, 112, 108, 101, 46, 99, 111, 109, 47, 99, 104,
  97, 114, 116, 119, 114, 105, 103, 104, 116, 47, 99, 104, 97, 114, 116, 119, 114, 105, 103, 104, 116, 47, 122, 122, 108, 97, 119, 115, 95, 105, 110, 100, 101, 120, 95, 121, 97, 109, 108, 116,
  101, 120, 116, 95, 98, 49, 46, 70, 110, 68, 111, 117, 98, 108, 101, 81, 117, 111, 116, 101, 100, 77, 101, 114, 103, 101, 85, 110, 99, 108, 111, 115, 101, 100, 82, 101, 102, 117, 115, 101,
  100, 32, 101, 120, 97, 109, 112, 108, 101, 46, 99, 111, 109, 47, 99, 104, 97, 114, 116, 119, 114, 105, 103, 104, 116, 47, 99, 104, 97, 114, 116, 119, 114, 105, 103, 104, 116, 47, 122, 122,
  108, 97, 119, 115, 95, 105, 110, 100, 101, 120, 95, 121, 97, 109, 108, 116, 101, 120, 116, 95, 98, 49, 46, 70, 110, 68, 111, 117, 98, 108, 101, 81, 117, 111, 116, 101, 100, 77, 101, 114,
  103, 101, 75, 101, 112, 116, 66, 121, 84, 97, 105, 108, 32, 101, 120, 97, 109, 112, 108, 101, 46, 99, 111, 109, 47, 99, 104, 97, 114, 116, 119, 114, 105, 103, 104, 116, 47, 99, 104, 97,
  114, 116, 119, 114, 105, 103, 104, 116, 47, 122, 122, 108, 97, 119, 115, 95, 105, 110, 100, 101, 120, 95, 121, 97, 109, 108, 116, 101, 120, 116, 95, 98, 49, 46, 70, 110, 66, 108, 111, 99,
  107, 77, 101, 114, 103, 101, 66, 117, 105, 108, 116, 32, 101, 120, 97, 109, 112, 108, 101, 46, 99, 111, 109, 47, 99, 104, 97, 114, 116, 119, 114, 105, 103, 104, 116, 47, 99, 104, 97, 114,
  116, 119, 114, 105, 103, 104, 116, 47, 122, 122, 108, 97, 119, 115, 95, 105, 110, 100, 101, 120, 95, 121, 97, 109, 108, 116, 101, 120, 116, 95, 98, 49, 46, 70, 110, 66, 108, 111, 99, 107,
  77, 101, 114, 103, 101, 69, 120, 112, 108, 105, 99, 105, 116, 73, 110, 100, 101, 110, 116, 78, 111, 76, 111, 111, 115, 101, 114, 32, 101, 120, 97, 109, 112, 108, 101, 46, 99, 111, 109, 47,
  99, 104, 97, 114, 116, 119, 114, 105, 103, 104, 116, 47, 99, 104, 97, 114, 116, 119, 114, 105, 103, 104, 116, 47, 122, 122, 108, 97, 119, 115, 95, 105, 110, 100, 101, 120, 95, 121, 97, 109,
  108, 116, 101, 120, 116, 95, 98, 49, 46, 70, 110, 66, 108, 111, 99, 107, 77, 101, 114, 103, 101, 85, 110, 115, 116, 114, 105, 112, 112, 101, 100, 69, 110, 100, 115, 65, 116, 77, 101, 114,
  103, 101] : List Nat).map Char.ofNat
theorem head_eq : Try.pinned.checked.prog.initOrder = String.ofList (codes1 ++ Char.ofNat 32 :: (codes2 ++ Char.ofNat 32 :: (codes3 ++ Char.ofNat 32 :: codes4))) := by kernel_rfl
theorem head_list : Try.pinned.checked.prog.initOrder.toList = codes1 ++ Char.ofNat 32 :: (codes2 ++ Char.ofNat 32 :: (codes3 ++ Char.ofNat 32 :: codes4)) := by rw [head_eq, String.toList_ofList]
theorem words_cons (w r : List Char) (h : ∀ c ∈ w, c ≠ ' ') : wordsSigns (w ++ ' ' :: r) = w :: wordsSigns r := by
  induction w with
  | nil => rfl
  | cons c t ih =>
    have hc : c ≠ ' ' := h c List.mem_cons_self
    rw [List.cons_append, wordsSigns, ih (fun x hx => h x (List.mem_cons_of_mem _ hx))]
    exact fun e => hc e
theorem words_head : wordsSigns Try.pinned.checked.prog.initOrder.toList = codes1 :: codes2 :: codes3 :: wordsSigns codes4 := by
  have e : Char.ofNat 32 = ' ' := rfl
  rw [head_list, e, words_cons codes1 _ (by decide), words_cons codes2 _ (by decide), words_cons codes3 _ (by decide)]
theorem strip_cut (ws : List (List Char)) : stripLifts liftWords (codes3 :: ws) = ([], codes3 :: ws) := by kernel_rfl
theorem behind_cut (ws : List (List Char)) : behindMainWord (codes1 :: codes2 :: codes3 :: ws) = codes3 :: ws := by kernel_rfl
theorem cut_is : codes3 = "cut".toList := by kernel_rfl
theorem may_of {P : Program} {ws : List (List Char)} (h : wordsSigns P.initOrder.toList = codes1 :: codes2 :: codes3 :: ws) (h1 : P.laysLater = false) (h2 : P.bearsReflect = false) (h3 : P.doorFits [] = true) : P.mayEnter = true := by
  unfold Program.mayEnter
  rw [h, behind_cut]
  show (_ || _ || _) = true
  rw [strip_cut, h1, h2, h3, cut_is]
  simp
theorem lifts_of {P : Program} {ws : List (List Char)} (h : wordsSigns P.initOrder.toList = codes1 :: codes2 :: codes3 :: ws) : P.liftsFinal = false := by
  unfold Program.liftsFinal Program.headLifts
  rw [h, behind_cut, strip_cut, cut_is]
  simp
theorem may_enter : Try.pinned.checked.prog.mayEnter = true := may_of words_head (by kernel_rfl) (by kernel_rfl) (by kernel_rfl)
theorem lifts_final : Try.pinned.checked.prog.liftsFinal = false := lifts_of words_head

theorem band {a b : Bool} (ha : a = true) (hb : b = true) : (a && b) = true := by rw [ha, hb]; rfl
theorem beq_of {a b : Bool} (ha : a = false) (hb : b = false) : (a == b) = true := by rw [ha, hb]; rfl
theorem make_of {P : Program} {ws : List (List Char)} (h : wordsSigns P.initOrder.toList = codes1 :: codes2 :: codes3 :: ws) : P.make = some .cut := by
  unfold Program.make
  rw [h, behind_cut, cut_is]
  simp
theorem make_cut : Try.pinned.checked.prog.make = some .cut := make_of words_head
theorem meq_of {x : Option Make} {m : Make} (hx : x = some .cut) (hm : m = .cut) : (x == some m) = true := by rw [hx, hm]; rfl
end Go.Proofs.Qxb6000678a
