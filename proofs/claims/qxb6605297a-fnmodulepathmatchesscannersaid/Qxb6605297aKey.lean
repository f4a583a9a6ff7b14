/- keyLen (function 16). -/
import Derived.Test.Qxb6605297aAny2
import Derived.Test.Qxb6605297aPlain
namespace Go.Proofs.Qxb6605297a
open Go.RowKit

def lst (g : ByteArray) : List UInt8 := g.data.toList
theorem lst_len (g : ByteArray) : (lst g).length = g.size := by simp [lst]
def strOf (l : List UInt8) : ByteArray := ⟨l.toArray⟩
theorem lst_strOf (l : List UInt8) : lst (strOf l) = l := by simp [lst, strOf]
theorem strOf_lst (s : ByteArray) : strOf (lst s) = s := Lib.mk_data s
theorem size_strOf (l : List UInt8) : (strOf l).size = l.length := by rw [← lst_len, lst_strOf]
theorem lst_extract (s : ByteArray) (a : Nat) : (s.extract a s.size).data.toList = (lst s).drop a := Lib.extract_to_end s a

theorem ix_br (l : List UInt8) : (Lib.indexByte l 93 = -1 ∧ Pl.afterBr l = []) ∨ ∃ i : Nat, Lib.indexByte l 93 = i ∧ i < l.length ∧ Pl.afterBr l = l.drop (i + 1) := by
  induction l with
  | nil => left; exact ⟨rfl, rfl⟩
  | cons c t ih =>
    rw [Pl.afterBr_cons]
    by_cases h : c = 93
    · subst h; right; exact ⟨0, by simp [Lib.indexByte], by simp, by simp⟩
    · have hb : (c == 93) = false := by simp [h]
      rw [if_neg h]
      rcases ih with ⟨h1, h2⟩ | ⟨i, h1, h2, h3⟩
      · left; exact ⟨by simp [Lib.indexByte, hb, h1], h2⟩
      · right
        refine ⟨i + 1, ?_, by simpa using h2, by simpa using h3⟩
        have : ((i : Int) == -1) = false := by rw [beq_eq_false_iff_ne]; omega
        simp [Lib.indexByte, hb, h1, this]

theorem get_lst (s : ByteArray) (k : Nat) (h : k < s.size) : (lst s)[k]'(by rw [lst_len]; exact h) = s[k] := by
  unfold lst; rw [Array.getElem_toList]; rfl

theorem drop_cons (s : ByteArray) (k : Nat) (h : k < s.size) : (lst s).drop k = s[k] :: (lst s).drop (k + 1) := by
  rw [List.drop_eq_getElem_cons (by rw [lst_len]; exact h), get_lst s k h]

theorem u8_eq {b c : UInt8} (h : b.toNat = c.toNat) : b = c := UInt8.toNat_inj.1 h
theorem u8_ne {b c : UInt8} (h : b.toNat ≠ c.toNat) : b ≠ c := fun e => h (by rw [e])

theorem q_esc (s : ByteArray) (k : Nat) (h : k < s.size) (hc : (s[k]).toNat = 92) : Pl.quoted false ((lst s).drop k) = Pl.quoted false ((lst s).drop (k + 2)) := by
  have e : s[k] = 92 := u8_eq hc
  rw [drop_cons s k h, e]
  simp only [Pl.quoted, if_true]
  by_cases h2 : k + 1 < s.size
  · rw [drop_cons s (k + 1) h2]; rfl
  · rw [List.drop_of_length_le (by rw [lst_len]; omega), List.drop_of_length_le (by rw [lst_len]; omega)]; rfl

theorem q_plain (s : ByteArray) (k : Nat) (h : k < s.size) (hc : ¬ (s[k]).toNat = 92) (hq : ¬ (s[k]).toNat = 34) : Pl.quoted false ((lst s).drop k) = Pl.quoted false ((lst s).drop (k + 1)) := by
  have e1 : s[k] ≠ 92 := u8_ne hc
  have e2 : s[k] ≠ 34 := u8_ne hq
  rw [drop_cons s k h]
  simp [Pl.quoted, e1, e2]

theorem q_end (s : ByteArray) (k : Nat) (h : k < s.size) (hq : (s[k]).toNat = 34) : Pl.afterBr (Pl.quoted false ((lst s).drop k)) = Pl.afterBr ((lst s).drop k) := by
  have e : s[k] = 34 := u8_eq hq
  rw [drop_cons s k h, e, Pl.afterBr_cons]
  simp [Pl.quoted]

/-- what keyLen answers -/
def KeyAt (s : ByteArray) (k : Nat) : Prop := 1 ≤ k ∧ k ≤ s.size ∧ (lst s).drop k = Pl.keyRest (lst s).tail

theorem keyRest_no {s : ByteArray} (h : Lib.hasPrefix (lst s) [91, 34] = false) (h0 : 0 < s.size) (hb : (s[0]'h0).toNat = 91) : Pl.keyRest (lst s).tail = Pl.afterBr ((lst s).drop 1) := by
  have e0 : s[0]'h0 = 91 := u8_eq hb
  have hl := drop_cons s 0 h0
  rw [List.drop_zero, e0] at hl
  unfold Pl.keyRest
  rw [if_neg, List.drop_one]
  intro hq
  rw [hl] at h hq
  simp only [List.tail_cons, Nat.zero_add] at hq
  cases ht : (lst s).drop 1 with
  | nil => rw [ht] at hq; simp at hq
  | cons c t => rw [ht] at hq h; simp at hq; subst hq; simp [Lib.hasPrefix, List.isPrefixOf] at h

theorem keyRest_yes {s : ByteArray} (h : Lib.hasPrefix (lst s) [91, 34] = true) : 2 ≤ s.size ∧ Pl.keyRest (lst s).tail = Pl.afterBr (Pl.quoted false ((lst s).drop 2)) := by
  rw [← lst_len]
  cases hl : lst s with
  | nil => rw [hl] at h; simp [Lib.hasPrefix] at h
  | cons a t =>
    cases t with
    | nil => rw [hl] at h; simp [Lib.hasPrefix, List.isPrefixOf] at h
    | cons b u =>
      rw [hl] at h
      simp [Lib.hasPrefix, List.isPrefixOf] at h
      refine ⟨by simp, ?_⟩
      simp [Pl.keyRest, h.2.symm]

theorem key_at {s : ByteArray} {i j : Nat} (hi : 1 ≤ i) (hle : i ≤ s.size) (hr : Pl.keyRest (lst s).tail = Pl.afterBr ((lst s).drop i)) (h2 : j < ((lst s).drop i).length) (h3 : Pl.afterBr ((lst s).drop i) = ((lst s).drop i).drop (j + 1)) : KeyAt s (i + j + 1) := by
  rw [List.length_drop, lst_len] at h2
  refine ⟨by omega, by omega, ?_⟩
  rw [hr, h3, List.drop_drop, Nat.add_assoc]

theorem key_end {s : ByteArray} (h0 : 0 < s.size) (hr : Pl.keyRest (lst s).tail = []) : KeyAt s s.size := by
  refine ⟨h0, Nat.le_refl _, ?_⟩
  rw [hr, List.drop_of_length_le (by rw [lst_len]; exact Nat.le_refl _)]

set_option maxHeartbeats 1000000 in
set_option maxRecDepth 100000 in
theorem keyLen_any (s : ByteArray) (w : World) (hs : s.size ≤ 1048576) (h0 : 0 < s.size) (hb : (s[0]'h0).toNat = 91) :
    Calls Try.prog 16 #[.string s] w fun e w' => ∃ k : Nat, e = .returned (.int .i64 k) ∧ KeyAt s k ∧ w' = w := by
  cases hp : Lib.hasPrefix (lst s) [91, 34]
  · have HR := hide (keyRest_no hp h0 hb)
    have HP := hide hp
    clear hp hb
    go_enter Try.func16, Try.ntmps16
    go_wp2_with (go_at_call 15; refine (Try.strings_HasPrefix _ _ _).mono ?_; rintro e w' ⟨rfl, rfl⟩; rw [show Lib.hasPrefix s.data.toList _ = _ from unhide HP])
    refine (Try.strings_IndexByte _ _ _).mono ?_
    rintro e w' ⟨rfl, rfl⟩
    rw [show (min (1 : Int) ↑s.size).toNat = 1 by omega, lst_extract, show (Int.toNat 93).toUInt8 = 93 from rfl]
    rcases ix_br ((lst s).drop 1) with ⟨i1, i2⟩ | ⟨j, i1, i2, i3⟩
    · have HK := hide (key_end (s := s) h0 (by rw [unhide HR, i2]))
      rw [i1]
      clear i1 i2
      go_wp2
      go_ret
      exact ⟨s.size, rfl, unhide HK, rfl⟩
    · have HK := hide (key_at (s := s) (i := 1) (by omega) (by omega) (unhide HR) i2 i3)
      have hj : j < s.size := by rw [List.length_drop, lst_len] at i2; omega
      rw [i1]
      clear i1 i2 i3
      go_wp2
      go_ret
      exact ⟨1 + j + 1, by first | rfl | go_num, unhide HK, rfl⟩
  · obtain ⟨h2, hr⟩ := keyRest_yes hp
    have HR := hide hr
    have HP := hide hp
    clear hp hb hr
    go_enter Try.func16, Try.ntmps16
    go_wp2_with (go_at_call 15; refine (Try.strings_HasPrefix _ _ _).mono ?_; rintro e w' ⟨rfl, rfl⟩; rw [show Lib.hasPrefix s.data.toList _ = _ from unhide HP])
    go_loop [3] (fun iv => ∃ k : Nat, iv = .int .i64 k ∧ 2 ≤ k ∧ k ≤ s.size + 1 ∧ Hid (Pl.quoted false ((lst s).drop 2) = Pl.quoted false ((lst s).drop k))) (fun iv => s.size + 1 - (RowKit.intOf iv).toNat)
    case atStart => exact ⟨2, rfl, Nat.le_refl _, by omega, rfl⟩
    case round =>
      obtain ⟨k, rfl, hk2, hk, hq⟩ := hrel
      by_cases hlt : k < s.size
      · by_cases h34 : (s[k]).toNat = 34
        · have HE : Hid (Pl.keyRest (lst s).tail = Pl.afterBr ((lst s).drop k)) := by
            show _ = _
            rw [unhide HR, hq.out, q_end s k hlt h34]
          go_wp2_with fail
          refine (Try.strings_IndexByte _ _ _).mono ?_
          rintro e w' ⟨rfl, rfl⟩
          rw [show (min (k : Int) ↑s.size).toNat = k by omega, lst_extract, show (Int.toNat 93).toUInt8 = 93 from rfl]
          rcases ix_br ((lst s).drop k) with ⟨i1, i2⟩ | ⟨j, i1, i2, i3⟩
          · have HK := hide (key_end (s := s) h0 (by rw [unhide HE, i2]))
            rw [i1]
            clear i1 i2
            go_wp2
            go_ret
            exact ⟨s.size, rfl, unhide HK, rfl⟩
          · have HK := hide (key_at (s := s) (i := k) (by omega) (by omega) (unhide HE) i2 i3)
            have hj : j < s.size := by rw [List.length_drop, lst_len] at i2; omega
            rw [i1]
            clear i1 i2 i3
            go_wp2
            go_ret
            exact ⟨k + j + 1, by first | rfl | go_num, unhide HK, rfl⟩
        · by_cases h92 : (s[k]).toNat = 92
          · have HQ := hide (q_esc s k hlt h92)
            go_wp2
            go_round
            case rel => exact ⟨k + 2, by go_num, by omega, by omega, hq.out.trans (unhide HQ)⟩
            case measure => simp [RowKit.intOf]; omega
          · have HQ := hide (q_plain s k hlt h92 h34)
            have h34' : (((s[k]).toNat : Int) == 34) = false := by rw [beq_eq_false_iff_ne]; omega
            have h92' : (((s[k]).toNat : Int) == 92) = false := by rw [beq_eq_false_iff_ne]; omega
            go_wp2
            go_round
            case rel => exact ⟨k + 1, by go_num, by omega, by omega, hq.out.trans (unhide HQ)⟩
            case measure => simp [RowKit.intOf]; omega
      · have HE : Hid (Pl.keyRest (lst s).tail = []) := by
          show _ = _
          rw [unhide HR, hq.out, List.drop_of_length_le (by rw [lst_len]; omega)]; rfl
        go_wp2_with fail
        refine (Try.strings_IndexByte _ _ _).mono ?_
        rintro e w' ⟨rfl, rfl⟩
        rw [show (min (k : Int) ↑s.size).toNat = s.size by omega, lst_extract, List.drop_of_length_le (by rw [lst_len]; exact Nat.le_refl _)]
        have HK := hide (key_end (s := s) h0 (unhide HE))
        rw [show Lib.indexByte [] _ = -1 from rfl]
        go_wp2
        go_ret
        exact ⟨s.size, rfl, unhide HK, rfl⟩
end Go.Proofs.Qxb6605297a
