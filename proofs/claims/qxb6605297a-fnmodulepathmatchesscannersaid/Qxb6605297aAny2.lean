/- strings.IndexAny(s, ".[") at every string. -/
import Derived.Test.Qxb6605297aAny
namespace Go.Proofs.Qxb6605297a
open Go.RowKit

theorem get_bang (s : ByteArray) (j : Nat) (h : j < s.size) : s.get! j = s[j]'h := by
  simp [ByteArray.get!, getElem!_pos, h]
  rfl

/-- a rune that is no ASCII byte is made of bytes that are none -/
theorem decode_skip (s : ByteArray) (pos : Nat) (h : pos < s.size) (ha : 128 ≤ (s[pos]'h).toNat) :
    ∀ j, pos < j → j < pos + (Utf8.decode s pos).2 → ∃ hj : j < s.size, 128 ≤ (s[j]'hj).toNat := by
  have hn : ¬ (s[pos]'h).toNat < 128 := by omega
  have key : ∀ k, (decide (pos + k < s.size) && (s.get! (pos + k)).toNat / 64 == 2) = true → ∃ hj : pos + k < s.size, 128 ≤ (s[pos + k]'hj).toNat := by
    intro k hk
    simp only [Bool.and_eq_true, decide_eq_true_eq, beq_iff_eq] at hk
    refine ⟨hk.1, ?_⟩
    have := hk.2
    rw [get_bang s _ hk.1] at this
    omega
  intro j hj1 hj2
  simp only [Utf8.decode, Go.get_at s pos h, hn, if_false] at hj2
  have one : j < pos + 1 → ∃ hj : j < s.size, 128 ≤ (s[j]'hj).toNat := fun h => by omega
  by_cases c2 : ((s[pos]'h).toNat / 32 == 6 && (decide (pos + 1 < s.size) && (s.get! (pos + 1)).toNat / 64 == 2)) = true
  · rw [if_pos c2] at hj2
    have c2' := key 1 (Bool.and_eq_true_iff.1 c2).2
    split at hj2
    · obtain rfl : j = pos + 1 := by simp at hj2; omega
      exact c2'
    · exact one (by simpa using hj2)
  · rw [if_neg c2] at hj2
    by_cases c3 : ((s[pos]'h).toNat / 16 == 14 && (decide (pos + 1 < s.size) && (s.get! (pos + 1)).toNat / 64 == 2) && (decide (pos + 2 < s.size) && (s.get! (pos + 2)).toNat / 64 == 2)) = true
    · rw [if_pos c3] at hj2
      have c3' := Bool.and_eq_true_iff.1 c3
      have k1 := key 1 (Bool.and_eq_true_iff.1 c3'.1).2
      have k2 := key 2 c3'.2
      split at hj2
      · rcases (show j = pos + 1 ∨ j = pos + 2 by simp at hj2; omega) with rfl | rfl
        · exact k1
        · exact k2
      · exact one (by simpa using hj2)
    · rw [if_neg c3] at hj2
      by_cases c4 : ((s[pos]'h).toNat / 8 == 30 && (decide (pos + 1 < s.size) && (s.get! (pos + 1)).toNat / 64 == 2) && (decide (pos + 2 < s.size) && (s.get! (pos + 2)).toNat / 64 == 2) && (decide (pos + 3 < s.size) && (s.get! (pos + 3)).toNat / 64 == 2)) = true
      · rw [if_pos c4] at hj2
        have c4' := Bool.and_eq_true_iff.1 c4
        have c4'' := Bool.and_eq_true_iff.1 c4'.1
        have k1 := key 1 (Bool.and_eq_true_iff.1 c4''.1).2
        have k2 := key 2 c4''.2
        have k3 := key 3 c4'.2
        split at hj2
        · rcases (show j = pos + 1 ∨ j = pos + 2 ∨ j = pos + 3 by simp at hj2; omega) with rfl | rfl | rfl
          · exact k1
          · exact k2
          · exact k3
        · exact one (by simpa using hj2)
      · rw [if_neg c4] at hj2
        exact one (by simpa using hj2)

def DB : List UInt8 := [46, 91]

theorem noAny_skip (s : ByteArray) (pos : Nat) (h : pos < s.size) (ha : 128 ≤ (s[pos]'h).toNat) (hno : Lib.NoAny s.data.toList DB pos) :
    Lib.NoAny s.data.toList DB (pos + (Utf8.decode s pos).2) := by
  intro j b hj hb
  by_cases h1 : j < pos
  · exact hno j b h1 hb
  · have hbig : ∃ hj : j < s.size, 128 ≤ (s[j]'hj).toNat := by
      by_cases h2 : j = pos
      · subst h2; exact ⟨h, ha⟩
      · exact decode_skip s pos h ha j (by omega) hj
    obtain ⟨hj', hb'⟩ := hbig
    rw [Lib.data_getElem? s j hj'] at hb
    cases hb
    have n1 : s[j]'hj' ≠ 46 := by intro e; rw [e] at hb'; revert hb'; decide
    have n2 : s[j]'hj' ≠ 91 := by intro e; rw [e] at hb'; revert hb'; decide
    simp [DB, n1, n2]

set_option maxHeartbeats 4000000 in
set_option maxRecDepth 100000 in
theorem any_short (s : ByteArray) (w : World) (h8 : s.size ≤ 8) :
    Calls Try.prog 12 #[.string s, .string dotBr] w fun e w' => e = .returned (.int .i64 (Lib.indexAny s.data.toList DB)) ∧ Below w.heap.size w w' := by
  have h8z : decide ((8 : Int) < (s.size : Int)) = false := decide_eq_false (by omega)
  unfold dotBr
  go_enter Try.func12, Try.ntmps12
  go_wp2_with (go_at_call 20; refine (Try.strings_shouldUseASCIISet _ _).mono ?_; rintro e w' ⟨rfl, hw⟩; rw [hw, h8z])
  go_loopw [9, 10] (fun _ _ wx => ∃ pos : Nat, Hid (wx.heap[w.heap.size]? = some (.stringIter s pos)) ∧ Hid (Below w.heap.size w wx) ∧ Hid (Lib.NoAny s.data.toList DB pos)) (fun _ _ wx => s.size - wx.iterPos w.heap.size)
  case atStart => exact ⟨0, World.iter_heap _ _ _, (Below.refl _ _).alloc (Nat.le_refl _) _, Lib.NoAny.zero _ _⟩
  case round =>
    obtain ⟨pos, hit, hbl, hno⟩ := hrel
    by_cases hp : pos < s.size
    · by_cases ha : (s[pos]'hp).toNat < 128
      · have hnx := fun ty => Lib.run_next_ascii_at (P := Try.prog) wr w.heap.size s pos ty hit.out hp ha
        have hbl' : Hid (Below w.heap.size w (wr.iterAt w.heap.size s (pos + 1))) := Lib.below_iterAt hbl.out (Nat.le_refl _) s _
        have hit' : Hid ((wr.iterAt w.heap.size s (pos + 1)).heap[w.heap.size]? = some (.stringIter s (pos + 1))) := Lib.iterAt_heap wr _ s pos _ hit.out
        have Hx : Hid (s.data.toList[pos]? = some (s[pos]'hp)) := Lib.data_getElem? s pos hp
        have hcon := Lib.contains_iff_indexByte DB (s[pos]'hp)
        have Hback : Hid ((((s[pos]'hp).toNat : Int)).toNat.toUInt8 = s[pos]'hp) := by show _ = _; simp
        cases hin : DB.contains (s[pos]'hp)
        · rw [hin] at hcon
          have hlt : ¬ ((0 : Int) ≤ Lib.indexByte DB (s[pos]'hp)) := of_decide_eq_false hcon.symm
          have HN : Hid (Lib.NoAny s.data.toList DB (pos + 1)) := hno.out.succ Hx.out hin
          clear hcon hin
          go_wp2_with fail
          refine (Try.strings_IndexRune_ascii _ _ _ (by omega) (by omega)).mono ?_
          rintro e w' ⟨rfl, hw⟩
          rw [hw, Hback.out, show (⟨#[46, 91]⟩ : ByteArray).data.toList = DB from rfl]
          clear hw
          go_wp2_with fail
          go_roundw
          case rel => exact ⟨pos + 1, hit', hbl', HN⟩
          case measure => simp only [iterPos_of hit'.out, iterPos_of hit.out]; omega
        · rw [hin] at hcon
          have hge : (0 : Int) ≤ Lib.indexByte DB (s[pos]'hp) := of_decide_eq_true hcon.symm
          have HN : Hid (Lib.indexAny s.data.toList DB = pos) := Lib.indexAny_hit hno.out Hx.out hin
          clear hcon hin
          go_wp2_with fail
          refine (Try.strings_IndexRune_ascii _ _ _ (by omega) (by omega)).mono ?_
          rintro e w' ⟨rfl, hw⟩
          rw [hw, Hback.out, show (⟨#[46, 91]⟩ : ByteArray).data.toList = DB from rfl]
          clear hw
          go_wp2_with fail
          go_ret
          exact ⟨by rw [HN.out]; rfl, hbl'⟩
      · have hnx := fun ty => Lib.run_next_any_at (P := Try.prog) wr w.heap.size s pos ty hit.out hp
        have ha' : 128 ≤ (s[pos]'hp).toNat := by omega
        obtain ⟨d1, d2⟩ := decode_high s pos hp ha'
        have d3 := decode_le s pos
        have HN : Hid (Lib.NoAny s.data.toList DB (pos + (Utf8.decode s pos).2)) := noAny_skip s pos hp ha' hno.out
        generalize Utf8.decode s pos = D at d1 d2 d3 HN hnx
        obtain ⟨D1, D2⟩ := D
        dsimp only at d1 d2 d3 HN hnx
        have hbl' : Hid (Below w.heap.size w (wr.iterAt w.heap.size s (pos + D2))) := Lib.below_iterAt hbl.out (Nat.le_refl _) s _
        have hit' : Hid ((wr.iterAt w.heap.size s (pos + D2)).heap[w.heap.size]? = some (.stringIter s (pos + D2))) := Lib.iterAt_heap wr _ s pos _ hit.out
        go_wp2_with fail
        refine (rune_high _ _ (by omega) (by omega)).mono ?_
        rintro e w' ⟨rfl, hb2⟩
        have hsz : w.heap.size < (wr.iterAt w.heap.size s (pos + D2)).heap.size := (Array.getElem?_eq_some_iff.1 hit'.out).1
        have hit2 : Hid (w'.heap[w.heap.size]? = some (.stringIter s (pos + D2))) := (hb2.block _ hsz).trans hit'.out
        have hbl2 : Hid (Below w.heap.size w w') := hbl'.out.trans (hb2.mono (Nat.le_of_lt hsz))
        clear hb2 hsz hit' hbl'
        go_wp2_with fail
        go_roundw
        case rel => exact ⟨pos + D2, hit2, hbl2, HN⟩
        case measure => simp only [iterPos_of hit2.out, iterPos_of hit.out]; omega
    · have hnx := fun ty => Lib.run_next_end_at (P := Try.prog) wr w.heap.size s pos ty hit.out hp
      have HN : Hid (Lib.indexAny s.data.toList DB = -1) := Lib.indexAny_none (fun j b hj hb => hno.out j b (by rw [← Lib.size_eq] at hj; omega) hb)
      go_wp2_with fail
      go_ret
      exact ⟨by rw [HN.out]; rfl, hbl⟩

theorem any_any (s : ByteArray) (w : World) (hs : s.size ≤ 1048576) :
    Calls Try.prog 12 #[.string s, .string ⟨#[46, 91]⟩] w fun e w' => e = .returned (.int .i64 (Lib.indexAny s.data.toList DB)) ∧ Below w.heap.size w w' := by
  by_cases h8 : s.size ≤ 8
  · exact any_short s w h8
  · refine (Try.strings_IndexAny_long (by intro w; kernel_rfl) s ⟨#[46, 91]⟩ w (by decide) (by omega) (by omega) (by decide) ?_).mono ?_
    · intro j b hj
      match j, hj with
      | 0, hj => simp at hj; subst hj; decide
      | 1, hj => simp at hj; subst hj; decide
    · rintro e w' ⟨rfl, rfl⟩
      exact ⟨rfl, ((Below.refl _ _).alloc (Nat.le_refl _) _).alloc (by simp) _⟩

end Go.Proofs.Qxb6605297a
