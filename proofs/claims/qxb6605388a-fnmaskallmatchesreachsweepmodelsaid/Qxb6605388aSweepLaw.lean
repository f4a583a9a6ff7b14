/- The walk of FnMaskAllMatchesReachSweepModel (function 3). -/
import Derived.Test.Qxb6605388aSweep2
import Derived.Test.Qxb6605388aOrder
namespace Go.Proofs.Qxb6605388a
open Go.RowKit

theorem iff_refl_mem (xs : List (List UInt8)) : ∀ x, x ∈ xs ↔ x ∈ xs := fun _ => Iff.rfl

set_option maxHeartbeats 8000000 in
set_option maxRecDepth 100000 in
theorem sweep_walk (s : ByteArray) (ao : Option Addr) (m cap : Nat) (ss : List ByteArray) (w : World) (hs : s.size ≤ maxLen) (hm : m ≤ maxLen) (hsec : Sec w ao m ss) (hnil : ao = none → m = 0)
    (hM : ∃ M, w.cell? ⟨0, 0, none⟩ = some (.int .i64 M)) (hh : 0 < w.heap.size) :
    Calls Try.prog 3 #[.string s, .slice ao m cap] w (RetT w) := by
  have HM := hide hM
  have HNIL := hide hnil
  clear hM hnil
  go_enter Try.func3, Try.ntmps3
  go_wp2_with fail
  refine (bytes_6 s ao m cap ss w hs hm hsec).mono ?_
  rintro e w' ⟨b, rfl, hw⟩
  rw [hw]
  clear hw
  unfold maxLen at hs hm
  cases b
  · go_wp2
    go_ret
    exact ⟨rfl, Below.refl _ _⟩
  by_cases h1 : 4096 < s.size
  · go_wp2
    go_ret
    exact ⟨rfl, Below.refl _ _⟩
  by_cases h2 : 4096 < m
  · go_wp2
    go_ret
    exact ⟨rfl, Below.refl _ _⟩
  clear hs hm
  have h1 : s.size ≤ 4096 := by omega
  have h2 : m ≤ 4096 := by omega
  go_wp2_with fail
  go_loop [5, 6] (fun zv iv => ∃ (Z : Int) (i : Nat), zv = .int .i64 Z ∧ iv = .int .i64 i ∧ i ≤ m ∧ 0 ≤ Z ∧ Z ≤ 4096 ∧ Hid (∀ j, j < i → (ss.getD j ByteArray.empty).size ≤ 4096)) (fun _ iv => m - (RowKit.intOf iv).toNat)
  case atStart => exact ⟨0, 0, rfl, rfl, Nat.zero_le _, by omega, by omega, fun _ h => absurd h (Nat.not_lt_zero _)⟩
  case round =>
    obtain ⟨Z, i, rfl, rfl, hi, hz0, hz1, hsm⟩ := hrel
    by_cases hlt : i < m
    · obtain ⟨b, o, hao, hbl, hcell⟩ := hsec.cells (by omega)
      have hck := hcell i hlt
      have HSEC := hide hsec
      subst hao
      have HSM : Hid ((ss.getD i ByteArray.empty).size ≤ 4096 → ∀ j, j < i + 1 → (ss.getD j ByteArray.empty).size ≤ 4096) := by
        intro h j hj
        by_cases e : j = i
        · subst e; exact h
        · exact hsm.out j (by omega)
      clear hcell hsec
      generalize hx : ss.getD i ByteArray.empty = x at hck HSM
      clear hx
      by_cases hx : x.size ≤ 4096
      · by_cases hz : Z + x.size ≤ 4096
        · go_wp2
          go_round
          case rel => exact ⟨_, i + 1, rfl, by go_num, by omega, by omega, by omega, unhide HSM hx⟩
          case measure => simp [RowKit.intOf]; omega
        · have hz' : 4096 < Z + x.size := by omega
          go_wp2
          go_ret
          exact ⟨rfl, Below.refl _ _⟩
      · have hx' : 4096 < x.size := by omega
        go_wp2
        go_ret
        exact ⟨rfl, Below.refl _ _⟩
    · obtain rfl : i = m := by omega
      go_wp2_with fail
      refine (clone_any ao i cap ss w hsec (by omega) (unhide HNIL)).mono ?_
      rintro e w1 ⟨ao1, cap1, rfl, hsec1, hb1⟩
      have HSM : Hid (∀ j, j < i → (ss.getD j ByteArray.empty).size ≤ 1048576) := fun j hj => Nat.le_trans (hsm.out j hj) (by omega)
      have HS1 := hide hsec1
      clear hsec hsm hsec1 hlt hi
      go_wp2_with fail
      refine (mask_out s ao1 i cap1 ss w1 (args_of (by omega) (unhide HS1) (unhide HSM) (unhide HM) hh hb1 (by omega))).mono ?_
      rintro e w2 ⟨c0, hc0, rfl, hb2⟩
      have HC0 := hide hc0
      have hb02 : Below w.heap.size w w2 := hb1.trans (hb2.mono hb1.size)
      have HS2 := hide ((unhide HS1).below (Nat.le_refl _) hb2)
      clear hc0 hb2 hb1
      generalize hgot : strOf (Mk.mo (lst s) c0 s.size) = got
      have HG := hide hgot
      clear hgot
      go_wp2_with fail
      refine (model_any s ao1 i cap1 ss w2 (args_of (by omega) (unhide HS2) (unhide HSM) (unhide HM) hh hb02 (by omega))).mono ?_
      rintro e w3 ⟨c1, hc1, rfl, hb3⟩
      rw [mask_same (unhide HC0) hc1 (iff_refl_mem _), unhide HG]
      have hb03 : Below w.heap.size w w3 := hb02.trans (hb3.mono hb02.size)
      clear hc1 hb3 hb02
      go_wp2
      go_ret
      exact ⟨ret_bool (by simp), hb03⟩

end Go.Proofs.Qxb6605388a
