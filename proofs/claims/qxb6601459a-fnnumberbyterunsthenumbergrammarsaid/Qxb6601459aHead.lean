/-
  THE HEAD OF THIS TRANSLATION, told by its signs' numbers: its first three words are read off it with no reckoning over the whole of it (the kernel's own reckoning over 548 signs goes past the memory lid): 'mayEnter' and 'liftsFinal' follow.
-/
import Derived.Test.Qxb6601459aRows
import Derived.ProofKit
namespace Go.Proofs.Qxb6601459a
def codes1 : List Char := ([104, 97, 114, 110, 101, 115, 115] : List Nat).map Char.ofNat
def codes2 : List Char := ([
  102, 53, 53, 54, 100, 57, 97, 55, 56, 55, 98, 99, 54, 102, 56, 48, 51, 56, 101, 54, 48, 48, 102, 52, 54, 50, 100, 56, 98, 54, 99, 50, 52, 49, 54, 50, 100, 100, 102, 54,
  54, 56, 49, 53, 52, 98, 101, 57, 56, 50, 100, 48, 51, 101, 98, 50, 51, 102, 48, 102, 101, 54, 56, 52] : List Nat).map Char.ofNat
def codes3 : List Char := ([99, 117, 116] : List Nat).map Char.ofNat
def codes4 : List Char := ([
  97, 116, 32, 101, 120, 97, 109, 112, 108, 101, 46, 99, 111, 109, 47, 112, 108, 97, 110, 119, 114, 105, 103, 104, 116, 47, 112, 108, 97, 110, 119, 114, 105, 103, 104, 116, 47, 122, 122, 108,
  97, 119, 115, 95, 105, 110, 116, 101, 114, 110, 97, 108, 95, 106, 115, 111, 110, 108, 105, 110, 101, 95, 98, 49, 46, 70, 110, 83, 116, 114, 105, 110, 103, 69, 110, 100, 73, 115, 70, 105,
  114, 115, 116, 85, 110, 101, 115, 99, 97, 112, 101, 100, 81, 117, 111, 116, 101, 32, 101, 120, 97, 109, 112, 108, 101, 46, 99, 111, 109, 47, 112, 108, 97, 110, 119, 114, 105, 103, 104, 116,
  47, 112, 108, 97, 110, 119, 114, 105, 103, 104, 116, 47, 122, 122, 108, 97, 119, 115, 95, 105, 110, 116, 101, 114, 110, 97, 108, 95, 106, 115, 111, 110, 108, 105, 110, 101, 95, 98, 49, 46,
  70, 110, 83, 116, 114, 105, 110, 103, 69, 110, 100, 85, 110, 109, 111, 118, 101, 100, 66, 121, 66, 121, 116, 101, 115, 65, 114, 111, 117, 110, 100, 32, 101, 120, 97, 109, 112, 108, 101, 46,
  99, 111, 109, 47, 112, 108, 97, 110, 119, 114, 105, 103, 104, 116, 47, 112, 108, 97, 110, 119, 114, 105, 103, 104, 116, 47, 122, 122, 108, 97, 119, 115, 95, 105, 110, 116, 101, 114, 110, 97,
  108, 95, 106, 115, 111, 110, 108, 105, 110, 101, 95, 98, 49, 46, 70, 110, 86, 97, 108, 117, 101, 69, 110, 100, 77, 97, 116, 99, 104, 101, 115, 79, 110, 101, 80, 97, 115, 115, 77, 111,
  100, 101, 108, 32, 101, 120, 97, 109, 112, 108, 101, 46, 99, 111, 109, 47, 112, 108, 97, 110, 119, 114, 105, 103, 104, 116, 47, 112, 108, 97, 110, 119, 114, 105, 103, 104, 116, 47, 122, 122,
  108, 97, 119, 115, 95, 105, 110, 116, 101, 114, 110, 97, 108, 95, 106, 115, 111, 110, 108, 105, 110, 101, 95, 98, 49, 46, 70, 110, 86, 97, 108, 117, 101, 69, 110, 100, 85, 110, 109, 111,
  118, 101, 100, 66, 121, 66, 121, 116, 101, 115, 65, 114, 111, 117, 110, 100, 32, 101, 120, 97, 109, 112, 108, 101, 46, 99, 111, 109, 47, 112, 108, 97, 110, 119, 114, 105, 103, 104, 116, 47,
  112, 108, 97, 110, 119, 114, 105, 103, 104, 116, 47, 122, 122, 108, 97, 119, 115, 95, 105, 110, 116, 101, 114, 110, 97, 108, 95, 106, 115, 111, 110, 108, 105, 110, 101, 95, 98, 49, 46, 70,
  110, 78, 117, 109, 98, 101, 114, 66, 121, 116, 101, 82, 117, 110, 115, 84, 104, 101, 78, 117, 109, 98, 101, 114, 71, 114, 97, 109, 109, 97, 114] : List Nat).map Char.ofNat
theorem head_eq : Try.pinned.checked.prog.initOrder = String.ofList (codes1 ++ Char.ofNat 32 :: (codes2 ++ Char.ofNat 32 :: (codes3 ++ Char.ofNat 32 :: codes4))) := by kernel_rfl
theorem head_list : Try.pinned.checked.prog.initOrder.toList = codes1 ++ Char.ofNat 32 :: (codes2 ++ Char.ofNat 32 :: (codes3 ++ Char.ofNat 32 :: codes4)) := by rw [head_eq, String.toList_ofList]
theorem words_cons (w r : List Char) (h : ∀ c ∈ w, c ≠ ' ') : wordsSigns (w ++ ' ' :: r) = w :: wordsSigns r := by
  induction w with
  | nil => rfl
  | cons c t ih =>
    have hc : c ≠ ' ' := h c List.mem_cons_self
    rw [List.cons_append, wordsSigns, ih (fun x hx => h x (List.mem_cons_of_mem _ hx))]
    exact fun e => hc e
theorem words_head : wordsSigns Try.pinned.checked.prog.initOrder.toList = codes1 :: codes2 :: codes3 :: wordsSigns codes4 := by
  have e : Char.ofNat 32 = ' ' := rfl
  rw [head_list, e, words_cons codes1 _ (by decide), words_cons codes2 _ (by decide), words_cons codes3 _ (by decide)]
theorem strip_cut (ws : List (List Char)) : stripLifts liftWords (codes3 :: ws) = ([], codes3 :: ws) := by kernel_rfl
theorem behind_cut (ws : List (List Char)) : behindMainWord (codes1 :: codes2 :: codes3 :: ws) = codes3 :: ws := by kernel_rfl
theorem cut_is : codes3 = "cut".toList := by kernel_rfl
theorem may_of {P : Program} {ws : List (List Char)} (h : wordsSigns P.initOrder.toList = codes1 :: codes2 :: codes3 :: ws) (h1 : P.laysLater = false) (h2 : P.bearsReflect = false) (h3 : P.doorFits [] = true) : P.mayEnter = true := by
  unfold Program.mayEnter
  rw [h, behind_cut]
  show (_ || _ || _) = true
  rw [strip_cut, h1, h2, h3, cut_is]
  simp
theorem lifts_of {P : Program} {ws : List (List Char)} (h : wordsSigns P.initOrder.toList = codes1 :: codes2 :: codes3 :: ws) : P.liftsFinal = false := by
  unfold Program.liftsFinal Program.headLifts
  rw [h, behind_cut, strip_cut, cut_is]
  simp
theorem may_enter : Try.pinned.checked.prog.mayEnter = true := may_of words_head (by kernel_rfl) (by kernel_rfl) (by kernel_rfl)
theorem lifts_final : Try.pinned.checked.prog.liftsFinal = false := lifts_of words_head

theorem band {a b : Bool} (ha : a = true) (hb : b = true) : (a && b) = true := by rw [ha, hb]; rfl
theorem beq_of {a b : Bool} (ha : a = false) (hb : b = false) : (a == b) = true := by rw [ha, hb]; rfl
theorem make_of {P : Program} {ws : List (List Char)} (h : wordsSigns P.initOrder.toList = codes1 :: codes2 :: codes3 :: ws) : P.make = some .cut := by
  unfold Program.make
  rw [h, behind_cut, cut_is]
  simp
theorem make_cut : Try.pinned.checked.prog.make = some .cut := make_of words_head
theorem meq_of {x : Option Make} {m : Make} (hx : x = some .cut) (hm : m = .cut) : (x == some m) = true := by rw [hx, hm]; rfl
end Go.Proofs.Qxb6601459a
