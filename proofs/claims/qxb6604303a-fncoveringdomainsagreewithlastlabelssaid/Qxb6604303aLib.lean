/- The library's functions on the road, at this program's own calls: strings.Cut at ".", strings.LastIndexByte. -/
import Derived.Test.Qxb6604303aProg
import Derived.Test.Qxb6604303aPlain
import Derived.WalkKit
import Derived.RegionTactic
import Derived.Deep.Draws
import Derived.OwnWalk
import Derived.WalkSpells
import Derived.WalkLawsBesides
import Derived.Outline
import Derived.Deep.DeepFit
import Derived.Deep.QuietTactic
import Derived.BigQuiet
import Derived.Lib.Walk
import Derived.Lib.Strings
import Derived.Lib.Slices
import Derived.Lib.Bytealg
import Derived.Lib.IndexBytes
namespace Go.Proofs.Qxb6604303a
open Go.Lib Go.RowKit

theorem hide {p : Prop} (h : p) : Hid p := h
theorem unhide {p : Prop} (h : Hid p) : p := h

theorem ix_cut (l : List UInt8) : (Lib.indexByte l 46 = -1 ∧ Pl.cut l = []) ∨ ∃ i : Nat, Lib.indexByte l 46 = i ∧ i < l.length ∧ Pl.cut l = l.drop (i + 1) := by
  induction l with
  | nil => left; exact ⟨rfl, rfl⟩
  | cons c t ih =>
    rw [Pl.cut_cons]
    by_cases h : c = 46
    · subst h; right; exact ⟨0, by simp [Lib.indexByte], by simp, by simp⟩
    · have hb : (c == 46) = false := by simp [h]
      rw [if_neg h]
      rcases ih with ⟨h1, h2⟩ | ⟨i, h1, h2, h3⟩
      · left; exact ⟨by simp [Lib.indexByte, hb, h1], h2⟩
      · right
        refine ⟨i + 1, ?_, by simpa using h2, by simpa using h3⟩
        have : ((i : Int) == -1) = false := by rw [beq_eq_false_iff_ne]; omega
        simp [Lib.indexByte, hb, h1, this]

set_option maxHeartbeats 1000000 in
theorem IndexByte_any (s : ByteArray) (c : Int) (w : World) :
    Calls Try.prog 19 #[.string s, .int .u8 c] w fun e w' => e = .returned (.int .i64 (Lib.indexByte s.data.toList c.toNat.toUInt8)) ∧ w' = w := by
  go_enter Try.func19, Try.ntmps19
  go_wp2
  rw [run_callFunc_extern Try.func23 (by kernel_rfl) (by kernel_rfl) (by kernel_rfl) (e := Extern.BytealgIndexByte.indexByte) (by kernel_rfl), Lib.run_indexByteString]
  simp only [Result.andThen]
  rw [Oper.upon_value]
  go_wp2
  go_ret
  exact ⟨rfl, rfl⟩

set_option maxHeartbeats 2000000 in
set_option maxRecDepth 100000 in
theorem Index_one (s : ByteArray) (c : UInt8) (w : World) :
    Calls Try.prog 18 #[.string s, .string ⟨#[c]⟩] w fun e w' => e = .returned (.int .i64 (Lib.indexByte s.data.toList c)) ∧ w' = w := by
  go_enter Try.func18, Try.ntmps18
  go_wp2_with (go_at_call 19; refine (IndexByte_any _ _ _).mono ?_; rintro e w' ⟨rfl, rfl⟩)
  · have h : ([c] == s.toList) = true := by assumption
    go_ret
    refine ⟨?_, rfl⟩
    have e : s.data.toList = [c] := by rw [← Lib.toList_data]; exact (beq_iff_eq.1 h).symm
    rw [e]
    simp [Lib.indexByte]
  · go_ret
    exact ⟨rfl, rfl⟩

theorem cutV (s : ByteArray) (i : Nat) (h3 : Pl.cut s.data.toList = s.data.toList.drop (i + 1)) : (s.extract (i + 1) s.size).data.toList = Pl.cut s.data.toList := by
  rw [Lib.extract_to_end, h3]

set_option maxHeartbeats 2000000 in
set_option maxRecDepth 100000 in
theorem Cut_lite (s : ByteArray) (w : World) (hs : s.size ≤ 1048576) :
    Calls Try.prog 17 #[.string s, .string ⟨#[46]⟩] w fun e w' => ∃ (b t : ByteArray) (f : Bool), e = .returned (.tuple #[.string b, .string t, .bool f]) ∧ t.data.toList = Pl.cut s.data.toList ∧ ∃ n, w' = w.drewN n := by
  rcases ix_cut s.data.toList with ⟨h1, h2⟩ | ⟨i, h1, h2, h3⟩
  · have H1 : Hid (Lib.indexByte s.data.toList 46 = -1) := h1
    clear h1
    go_enter Try.func17, Try.ntmps17
    go_wp2_with (go_at_call 18; refine (Index_one _ _ _).mono ?_; rintro e w' ⟨rfl, rfl⟩; rw [H1.out])
    go_ret3
    exact ⟨_, _, _, rfl, by rw [h2], 0, rfl⟩
  · have hi : i < s.size := by simpa using h2
    have H1 : Hid (Lib.indexByte s.data.toList 46 = i) := h1
    have H3 : Hid (Pl.cut s.data.toList = s.data.toList.drop (i + 1)) := h3
    clear h1 h2 h3
    have c1 : (0 : Int) ≤ ↑i := by omega
    have c2 : (↑i : Int) ≤ ↑s.size := by omega
    have c3 : (0 : Int) ≤ ↑i + 1 := by omega
    have c4 : (↑i + 1 : Int) ≤ ↑s.size := by omega
    go_enter Try.func17, Try.ntmps17
    go_wp2_with (go_at_call 18; refine (Index_one _ _ _).mono ?_; rintro e w' ⟨rfl, rfl⟩; rw [H1.out])
    go_region
    go_wp2
    go_ret3
    exact ⟨_, _, _, rfl, cutV s i H3.out, 1, rfl⟩

set_option maxHeartbeats 1000000 in
theorem Cut_any (s : ByteArray) (w : World) (hs : s.size ≤ 1048576) :
    Calls Try.prog 15 #[.string s, .string ⟨#[46]⟩] w fun e w' => ∃ (b t : ByteArray) (f : Bool), e = .returned (.tuple #[.string b, .string t, .bool f]) ∧ t.data.toList = Pl.cut s.data.toList ∧ ∃ n, w' = w.drewN n := by
  go_enter Try.func15, Try.ntmps15
  go_wp2_with (go_at_call 17; refine (Cut_lite _ _ hs).mono ?_; rintro e w' ⟨b, t, f, rfl, ht, n, rfl⟩; have Ht := hide ht; clear ht)
  go_ret3
  exact ⟨b, t, f, rfl, unhide Ht, n, rfl⟩

theorem byte_eq {s : ByteArray} {k : Nat} (h : k < s.size) (hc : ((s[k].toNat : Int) == 46) = true) : s.data.toList[k]'(by simpa using h) = 46 := by
  have e : s.data.toList[k]'(by simpa using h) = s[k] := by rw [Array.getElem_toList]; rfl
  rw [e]
  have := beq_iff_eq.1 hc
  exact UInt8.toNat_inj.1 (by simp; omega)

theorem byte_ne {s : ByteArray} {k : Nat} (h : k < s.size) (hc : ((s[k].toNat : Int) == 46) = false) : s.data.toList[k]'(by simpa using h) ≠ 46 := by
  have e : s.data.toList[k]'(by simpa using h) = s[k] := by rw [Array.getElem_toList]; rfl
  rw [e]
  intro h'
  rw [h'] at hc
  simp at hc

set_option maxHeartbeats 1000000 in
theorem LastByte_str (s : ByteArray) (w : World) (hs : s.size ≤ 1048576) :
    Calls Try.prog 16 #[.string s, .int .u8 46] w fun e w' => ∃ r : Int, e = .returned (.int .i64 r) ∧ Pl.LastAt s.data.toList r ∧ w' = w := by
  go_enter Try.func16, Try.ntmps16
  go_wp2
  go_loop [5] (fun vi => ∃ k : Nat, k ≤ s.size ∧ vi = .int .i64 ((k : Int) - 1) ∧ Hid (46 ∉ s.data.toList.drop k)) (fun vi => ((RowKit.intOf vi) + 1).toNat)
  case atStart => exact ⟨s.size, Nat.le_refl _, by first | rfl | go_num | (congr 1; omega), by rw [List.drop_of_length_le (by simp)]; exact List.not_mem_nil⟩
  case round =>
    obtain ⟨k, hk, rfl, hh⟩ := hrel
    go_wp2
    · have hc : (((s[k - 1]).toNat : Int) == 46) = true := by assumption
      have k1 : 1 ≤ k := by omega
      have e2 : ((k - 1 : Nat) : Int) = (k : Int) - 1 := by omega
      have hl : Pl.LastAt s.data.toList ((k - 1 : Nat) : Int) := Pl.lastAt_hit _ _ (by simp; omega) (byte_eq (by omega) hc) (by rw [show k - 1 + 1 = k by omega]; exact hh.out)
      go_ret
      exact ⟨_, rfl, by rw [← e2]; exact hl, rfl⟩
    · have hc : (((s[k - 1]).toNat : Int) == 46) = false := by assumption
      have k1 : 1 ≤ k := by omega
      have hl : 46 ∉ s.data.toList.drop (k - 1) := Pl.lastAt_step _ _ (by simp; omega) (byte_ne (by omega) hc) (by rw [show k - 1 + 1 = k by omega]; exact hh.out)
      refine ⟨⟨k - 1, by omega, by congr 1; omega, hl⟩, ?_⟩
      simp [RowKit.intOf]; omega
    · have k0 : k = 0 := by omega
      subst k0
      go_ret
      exact ⟨_, rfl, Pl.lastAt_none _ hh.out, rfl⟩

theorem LastByte_any (s : ByteArray) (w : World) (hs : s.size ≤ 1048576) :
    Calls Try.prog 14 #[.string s, .int .u8 46] w fun e w' => ∃ r : Int, e = .returned (.int .i64 r) ∧ Pl.LastAt s.data.toList r ∧ w' = w := by
  go_enter Try.func14, Try.ntmps14
  go_wp2_with (go_at_call 16; refine (LastByte_str _ _ hs).mono ?_; rintro e w' ⟨r, rfl, hr, rfl⟩)
  go_ret
  exact ⟨r, rfl, hr, rfl⟩

end Go.Proofs.Qxb6604303a
