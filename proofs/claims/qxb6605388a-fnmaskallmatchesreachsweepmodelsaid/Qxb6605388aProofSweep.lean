/- The proof of Rows.FnMaskAllMatchesReachSweepModelSaid. -/
import Derived.Test.Qxb6605388aRows
import Derived.Test.Qxb6605388aSweepLaw
import Derived.HandedShaped
import Derived.WalkKit
import Derived.ProofKit
import Derived.ShutString
import Derived.SliceStrings
import Derived.ChangeOld
import Derived.Below
import Derived.Carry
namespace Go.Proofs.Qxb6605388a.fnMaskAllMatchesReachSweepModel
open Go.ChangeShapes Go.WideShapes Go.ChangeAt Go.RowKit
open Go.ChangeMaps (open_string shut_string)
set_option linter.unusedVariables false

theorem own : ownKnob Try.prog.godebug = none := by kernel_rfl
theorem laidOut : laidOutB Try.prog = true := by kernel_rfl

set_option maxRecDepth 100000 in
theorem lifted (os : Os) (started : os.Started) (H : Type) (enc : TypeId × Value → H) :
    ReturnsInHanded {} Try.checked os 3 .any (Rows.fnMaskAllMatchesReachSweepModelSpec.pre6 enc Try.prog Try.f3 Rows.fnMaskAllMatchesReachSweepModelRow.domain false) (Rows.fnMaskAllMatchesReachSweepModelSpec.post enc Try.prog Try.f3 false true false false) := by
  refine returnsInHanded_of_change_shaped (C := Try.checked) own started (by kernel_rfl) Try.func3
    (ChangeSpec.witness6 (enc := enc) (C := Try.checked) false ⟨#[], #[.string ByteArray.empty, .slice none 0 0], []⟩ 8 (by kernel_rfl) (by kernel_rfl) (by kernel_rfl) (by kernel_rfl)) ?_
  intro W base args ds gs before hval0 hW hcnd _ hsh _
  have hval : ∀ (j : Nat) t v, Try.f3.params[j]? = some t → args[j]? = some v → Value.okWide Try.prog W .any base t v := hval0
  have hW' := hW
  obtain ⟨p, q, hA0, hV, rfl, hfz, hnd⟩ := hW
  have hA : DataW.TrodAll enc Try.prog W 0 (fun _ => true) true Try.f3.params.toList args.toList ds p := hA0
  rw [Try.params3] at hA hval
  obtain ⟨v0, v1, d0, d1, p0, p1, rfl, rfl, rfl, h0, h1⟩ := trodAll_two hA
  obtain ⟨rfl, rfl⟩ := trodVars_none hV
  obtain ⟨a0, rfl, rfl, rfl, w0⟩ := open_string Try.underlying9 (hval 0 9 v0 rfl rfl) h0
  obtain ⟨a1, len1, cap1, rfl⟩ := okWide_slice Try.underlying22 (hval 1 22 v1 rfl rfl)
  have k1 := h1
  have lt1 : ∀ x ∈ p1, x.block < W.heap.size := by obtain ⟨m, hm⟩ := k1; exact DataW.trod_lt m _ _ _ hm
  obtain ⟨M, hM⟩ : ∃ M, W.cell? ⟨0, 0, none⟩ = some (.int .i64 M) := Try.laysM143.s1_3 W hsh
  have hh : 0 < W.heap.size := World.block_lt_of_cell? W ⟨0, 0, none⟩ hM
  obtain ⟨ss, hsec, hlen, hnil⟩ : ∃ ss, Sec W a1 len1 ss ∧ len1 ≤ maxLen ∧ (a1 = none → len1 = 0) := by
    obtain ⟨fuel, hf⟩ := h1
    rcases open_strings Try.underlying22 Try.underlying9 (by kernel_rfl) hf with ⟨hcs, _⟩ | ⟨x, l, c, zs, hcs, _, hl, hm, hz, _, hcell, hwz⟩
    · simp [Value.cells] at hcs
      obtain ⟨rfl, rfl, rfl⟩ := hcs
      exact ⟨[], ⟨rfl, fun h => absurd h (Nat.lt_irrefl _)⟩, Nat.zero_le _, fun _ => rfl⟩
    · simp [Value.cells] at hcs
      obtain ⟨rfl, rfl, rfl⟩ := hcs
      have hz' : zs.length = cap1 := by simpa using hz
      refine ⟨zs.take len1, ⟨by rw [List.length_take, hz']; omega, fun hp => ?_⟩, Nat.le_trans hl hm, fun h => by cases h⟩
      obtain ⟨b, o, e, hb, hc⟩ := strs_at (m := len1) (ss := zs.take len1) (fun i hi => by
        rw [hcell i (by omega), List.getD_eq_getElem?_getD, List.getD_eq_getElem?_getD, List.getElem?_take_of_lt hi]) hp
      exact ⟨b, o, by rw [e], hb, hc⟩
  clear hA0 hval0
  simp only [List.nil_append] at hW'
  refine (sweep_walk a0 a1 len1 cap1 ss W w0 hlen hsec hnil ⟨M, hM⟩ hh).mono fun e W' ⟨he, bel⟩ => ?_
  subst he
  exact ⟨_, rfl, _, _, _, [], _, [], hW', trodAll_mk1 (shut_bool Try.underlying4 _), trodAll_mk2 (shut_string Try.underlying9 w0) (Below.trod laidOut (by kernel_rfl) (of_decide_eq_true (by kernel_rfl)) k1 bel lt1), rfl, bel.frame _, fun h => by cases h⟩

theorem over : Rows.fnMaskAllMatchesReachSweepModelRow.holds Try.pinned (OpenSpec.ofChange Rows.fnMaskAllMatchesReachSweepModelSpec) :=
  OpenClaim.holds_of_wide 3 Try.f3 rfl rfl rfl rfl rfl rfl rfl ⟨rfl, rfl, rfl, rfl, rfl⟩ rfl rfl rfl rfl rfl (by kernel_rfl) Try.func3 (by kernel_rfl)
    (of_decide_eq_true (by kernel_rfl)) (by unfold Func.isWrapper; first | (rw [if_pos (by decide +kernel)]; kernel_rfl) | (rw [if_neg (by decide +kernel)]; exact ⟨rfl, rfl⟩))
    (fun os started H enc _ => lifted os started H enc)

theorem proved : Rows.FnMaskAllMatchesReachSweepModelSaid := over
#print axioms proved
end Go.Proofs.Qxb6605388a.fnMaskAllMatchesReachSweepModel
