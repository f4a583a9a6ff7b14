/- userPart, hostAndPath, zzSchemeEnd and the law over them. -/
import Derived.Test.Qxb6605388aShelf
import Derived.Lib.IndexMore
import Derived.Lib.IndexLaws
import Derived.Lib.IndexBytes
import Derived.Lib.LastIndexByte
import Derived.WalkKit
import Derived.WalkSpells
import Derived.WalkLawsBesides
import Derived.Outline
import Derived.Deep.DeepFit
import Derived.Deep.Draws
import Derived.OwnWalk
namespace Go.Proofs.Qxb6605388a
open Go.RowKit

theorem hide {p : Prop} (h : p) : Hid p := h
theorem unhide {p : Prop} (h : Hid p) : p := h
def lst (g : ByteArray) : List UInt8 := g.data.toList
theorem lst_len (g : ByteArray) : (lst g).length = g.size := by simp [lst]
def strOf (l : List UInt8) : ByteArray := ⟨l.toArray⟩
theorem lst_strOf (l : List UInt8) : lst (strOf l) = l := by simp [lst, strOf]
theorem strOf_lst (s : ByteArray) : strOf (lst s) = s := Lib.mk_data s
theorem size_strOf (l : List UInt8) : (strOf l).size = l.length := by rw [← lst_len, lst_strOf]
theorem lst_extract (s : ByteArray) (a : Nat) : lst (s.extract a s.size) = (lst s).drop a := Lib.extract_to_end s a
theorem get_lst (s : ByteArray) (k : Nat) (h : k < s.size) : (lst s)[k]'(by rw [lst_len]; exact h) = s[k] := by
  unfold lst; rw [Array.getElem_toList]; rfl
theorem get?_lst (s : ByteArray) (k : Nat) (h : k < s.size) : (lst s)[k]? = some s[k] := Lib.data_getElem? s k h
theorem drop_cons (s : ByteArray) (k : Nat) (h : k < s.size) : (lst s).drop k = s[k] :: (lst s).drop (k + 1) := by
  rw [List.drop_eq_getElem_cons (by rw [lst_len]; exact h), get_lst s k h]
theorem u8_eq {b c : UInt8} (h : b.toNat = c.toNat) : b = c := UInt8.toNat_inj.1 h
theorem u8_ne {b c : UInt8} (h : b.toNat ≠ c.toNat) : b ≠ c := fun e => h (by rw [e])

/-- the bytes of '://' -/
def css : List UInt8 := [58, 47, 47]
/-- the place just after the first '://', or 0 -/
def sch (l : List UInt8) : Nat := if Lib.index l css = -1 then 0 else (Lib.index l css + 3).toNat

theorem sch_cases (s : ByteArray) : (Lib.index (lst s) css = -1 ∧ sch (lst s) = 0) ∨ ∃ i : Nat, Lib.index (lst s) css = i ∧ i + 3 ≤ s.size ∧ sch (lst s) = i + 3 := by
  rcases Lib.index_spec (lst s) css with ⟨h, _⟩ | ⟨i, h, _, ho, _⟩
  · exact .inl ⟨h, by unfold sch; rw [if_pos h]⟩
  · have hr := Lib.index_room (lst s) css (by rw [h]; omega)
    rw [h, lst_len] at hr
    have h' : (i : Int) + 3 ≤ s.size := by simpa [css] using hr
    refine .inr ⟨i, h, by omega, ?_⟩
    unfold sch
    rw [if_neg (by rw [h]; omega), h]
    omega

theorem occ_css (s : ByteArray) (i : Nat) (h : i + 3 ≤ s.size) : Lib.occAt (lst s) css i = (decide ((s[i]'(by omega)).toNat = 58) && decide ((s[i + 1]'(by omega)).toNat = 47) && decide ((s[i + 2]'(by omega)).toNat = 47)) := by
  have e : ∀ (b c : UInt8), (c == b) = decide (b.toNat = c.toNat) := by
    intro b c
    rw [Bool.eq_iff_iff, beq_iff_eq, decide_eq_true_eq]
    exact ⟨fun h => by rw [h], fun h => (u8_eq h).symm⟩
  unfold Lib.occAt css
  rw [drop_cons s i (by omega), drop_cons s (i + 1) (by omega), drop_cons s (i + 2) (by omega)]
  simp only [List.isPrefixOf, e, Bool.and_true]
  rw [Bool.and_assoc]
  rfl

theorem ret_int {k : IntKind} {a b : Int} (h : a = b) : Ending.returned (.int k a) = .returned (.int k b) := by rw [h]
theorem ret_bool {b : Bool} (h : b = true) : Ending.returned (.bool b) = .returned (.bool true) := by rw [h]

/-! ### zzSchemeEnd -/
set_option maxHeartbeats 1000000 in
theorem scheme_any (s : ByteArray) (w : World) (hs : s.size ≤ 1048576) :
    Calls Try.prog 13 #[.string s] w fun e w' => e = .returned (.int .i64 (sch (lst s))) ∧ w' = w := by
  go_enter Try.func13, Try.ntmps13
  go_wp2_with fail
  go_loop [3] (fun iv => ∃ i : Nat, iv = .int .i64 i ∧ i ≤ s.size ∧ Hid (Lib.NoOcc (lst s) css i)) (fun iv => s.size - (RowKit.intOf iv).toNat)
  case atStart => exact ⟨0, rfl, Nat.zero_le _, Lib.NoOcc.zero _ _⟩
  case round =>
    obtain ⟨i, rfl, hi, hno⟩ := hrel
    by_cases hlt : i + 3 ≤ s.size
    · have ho := occ_css s i hlt
      have hstep : Lib.occAt (lst s) css i = false → Hid (Lib.NoOcc (lst s) css (i + 1)) := fun h => hno.out.succ h
      have HS := hide hstep
      clear hstep
      by_cases h1 : (s[i]'(by omega)).toNat = 58
      · by_cases h2 : (s[i + 1]'(by omega)).toNat = 47
        · by_cases h3 : (s[i + 2]'(by omega)).toNat = 47
          · have HR : Hid (sch (lst s) = i + 3) := by
              have hx := Lib.index_hit hno.out (by rw [lst_len]; omega) (by rw [ho]; simp [h1, h2, h3])
              show _ = _
              unfold sch
              rw [if_neg (by rw [hx]; omega), hx]
              omega
            clear ho HS
            go_wp2
            go_ret
            exact ⟨ret_int (by rw [HR.out]; push_cast; rfl), rfl⟩
          · have HN := unhide HS (by rw [ho]; simp [h3])
            have h3' : (((s[i + 2]'(by omega)).toNat : Int) == 47) = false := by rw [beq_eq_false_iff_ne]; omega
            clear ho HS
            go_wp2
            go_round
            case rel => exact ⟨i + 1, by go_num, by omega, HN⟩
            case measure => simp [RowKit.intOf]; omega
        · have HN := unhide HS (by rw [ho]; simp [h2])
          have h2' : (((s[i + 1]'(by omega)).toNat : Int) == 47) = false := by rw [beq_eq_false_iff_ne]; omega
          clear ho HS
          go_wp2
          go_round
          case rel => exact ⟨i + 1, by go_num, by omega, HN⟩
          case measure => simp [RowKit.intOf]; omega
      · have HN := unhide HS (by rw [ho]; simp [h1])
        have h1' : (((s[i]'(by omega)).toNat : Int) == 58) = false := by rw [beq_eq_false_iff_ne]; omega
        clear ho HS
        go_wp2
        go_round
        case rel => exact ⟨i + 1, by go_num, by omega, HN⟩
        case measure => simp [RowKit.intOf]; omega
    · have HR : Hid (sch (lst s) = 0) := by
        show _ = _
        unfold sch
        rw [if_pos (Lib.index_past (by decide) hno.out (by rw [lst_len]; show s.size < i + 3; omega))]
      go_wp2
      go_ret
      exact ⟨ret_int (by rw [HR.out]; rfl), rfl⟩

/-! ### userPart -/
theorem last_spec (x : ByteArray) : (Lib.lastIndexByte x 64 = -1 ∧ ∀ j : Nat, (lst x)[j]? ≠ some 64) ∨
    ∃ i : Nat, Lib.lastIndexByte x 64 = i ∧ i < x.size ∧ (lst x)[i]? = some 64 ∧ ∀ j : Nat, i < j → (lst x)[j]? ≠ some 64 := by
  have bang : ∀ j (h : j < x.size), x.data[j]! = x[j] := fun j h => by rw [getElem!_pos x.data j (by simpa using h)]; rfl
  have no : ∀ j : Nat, (j < x.size → ((x.data[j]!).toNat : Int) ≠ 64) → (lst x)[j]? ≠ some 64 := by
    intro j h e
    by_cases hj : j < x.size
    · rw [get?_lst x j hj] at e
      refine h hj ?_
      rw [bang j hj, Option.some.inj e]; rfl
    · rw [List.getElem?_eq_none (by rw [lst_len]; omega)] at e; cases e
  rcases Lib.lastIndexByte_spec x 64 with ⟨h, hn⟩ | ⟨i, hi, h, hc, hn⟩
  · exact .inl ⟨h, fun j => no j (fun hj => hn j hj)⟩
  · refine .inr ⟨i, h, hi, ?_, fun j hj => no j (fun hj' => hn j hj hj')⟩
    rw [get?_lst x i hi]
    rw [bang i hi] at hc
    exact congrArg some (u8_eq (c := 64) (by show _ = 64; omega))

structure UP (s : ByteArray) (p e : Nat) (ok : Bool) : Prop where
  sc : p = sch (lst s)
  le : p ≤ s.size
  no : ok = false → e = p ∧ ∀ j, p ≤ j → (lst s)[j]? ≠ some 64
  yes : ok = true → p ≤ e ∧ e < s.size ∧ (lst s)[e]? = some 64 ∧ ∀ j, e < j → (lst s)[j]? ≠ some 64

theorem up_no {s x : ByteArray} {p : Nat} (h1 : p = sch (lst s)) (h2 : p ≤ s.size) (hx : lst x = (lst s).drop p) (h : ∀ j : Nat, (lst x)[j]? ≠ some 64) : UP s p p false := by
  refine ⟨h1, h2, fun _ => ⟨rfl, fun j hj => ?_⟩, fun h => (by cases h)⟩
  have := h (j - p)
  rw [hx, List.getElem?_drop, show p + (j - p) = j by omega] at this
  exact this

theorem up_yes {s x : ByteArray} {p i : Nat} (h1 : p = sch (lst s)) (h2 : p ≤ s.size) (hx : lst x = (lst s).drop p) (hi : i < x.size) (h : (lst x)[i]? = some 64) (hn : ∀ j : Nat, i < j → (lst x)[j]? ≠ some 64) : UP s p (p + i) true := by
  rw [← lst_len, hx, List.length_drop, lst_len] at hi
  rw [hx, List.getElem?_drop] at h
  refine ⟨h1, h2, fun h => (by cases h), fun _ => ⟨by omega, by omega, h, fun j hj => ?_⟩⟩
  have := hn (j - p) (by omega)
  rw [hx, List.getElem?_drop, show p + (j - p) = j by omega] at this
  exact this

theorem last_any (x : ByteArray) (w : World) (hx : x.size ≤ 1048576) : Calls Try.prog 25 #[.string x, .string ⟨#[64]⟩] w fun e w' => e = .returned (.int .i64 (Lib.lastIndexByte x 64)) ∧ w' = w :=
  Try.strings_LastIndex_one x ⟨#[64]⟩ (by decide) (by omega) w

set_option maxHeartbeats 1000000 in
theorem user_any (s : ByteArray) (w : World) (M : Int) (hs : s.size ≤ 1048576) (hM : w.cell? ⟨0, 0, none⟩ = some (.int .i64 M)) :
    Calls Try.prog 21 #[.string s] w fun e w' => ∃ (p q : Nat) (ok : Bool), e = .returned (.tuple #[.int .i64 p, .int .i64 q, .bool ok]) ∧ UP s p q ok ∧ w' = w := by
  rcases sch_cases s with ⟨h1, h2⟩ | ⟨i, h1, h2, h3⟩
  · have H1 := hide h1
    have H2 := hide h2
    clear h1 h2
    go_enter Try.func21, Try.ntmps21
    go_wp2_with fail
    refine (Try.strings_Index _ _ M _ (by omega) hM).mono ?_
    rintro e w' ⟨rfl, rfl⟩
    rw [show Lib.index s.data.toList (⟨#[58, 47, 47]⟩ : ByteArray).data.toList = -1 from unhide H1]
    go_wp2_with fail
    refine (last_any _ _ (hs)).mono ?_
    rintro e w2 ⟨rfl, hw2⟩
    rw [hw2]
    clear hw2
    rcases last_spec s with ⟨i1, i2⟩ | ⟨j, i1, i2, i3, i4⟩
    · have HU := hide (up_no (s := s) (p := 0) (unhide H2).symm (Nat.zero_le _) rfl i2)
      rw [i1]
      clear i1 i2
      go_wp2
      go_ret3
      exact ⟨0, 0, false, by first | rfl | (push_cast; rfl), unhide HU, rfl⟩
    · have HU := hide (up_yes (s := s) (p := 0) (unhide H2).symm (Nat.zero_le _) rfl i2 i3 i4)
      have hj : j ≤ 1048576 := by have := i2; omega
      rw [i1]
      clear i1 i2 i3 i4
      go_wp2
      go_ret3
      exact ⟨0, 0 + j, true, by first | rfl | (push_cast; rfl) | simp, unhide HU, rfl⟩
  · have H1 := hide h1
    have H3 := hide h3
    clear h1 h3
    go_enter Try.func21, Try.ntmps21
    go_wp2_with fail
    refine (Try.strings_Index _ _ M _ (by omega) hM).mono ?_
    rintro e w' ⟨rfl, rfl⟩
    rw [show Lib.index s.data.toList (⟨#[58, 47, 47]⟩ : ByteArray).data.toList = (i : Int) from unhide H1]
    go_wp2_with fail
    have hxs : (s.extract (i + 3) s.size).size ≤ 1048576 := by rw [ByteArray.size_extract]; omega
    refine (last_any _ _ (hxs)).mono ?_
    rintro e w2 ⟨rfl, hw2⟩
    rw [hw2]
    clear hw2
    rcases last_spec (s.extract (i + 3) s.size) with ⟨i1, i2⟩ | ⟨j, i1, i2, i3, i4⟩
    · have HU := hide (up_no (s := s) (p := (i + 3)) (unhide H3).symm h2 (lst_extract s (i + 3)) i2)
      rw [i1]
      clear i1 i2
      go_wp2
      go_ret3
      exact ⟨i + 3, i + 3, false, by first | rfl | (push_cast; rfl), unhide HU, rfl⟩
    · have HU := hide (up_yes (s := s) (p := (i + 3)) (unhide H3).symm h2 (lst_extract s (i + 3)) i2 i3 i4)
      have hj : j ≤ 1048576 := by have := i2; omega
      rw [i1]
      clear i1 i2 i3 i4
      go_wp2
      go_ret3
      exact ⟨i + 3, i + 3 + j, true, by first | rfl | (push_cast; rfl) | simp, unhide HU, rfl⟩

end Go.Proofs.Qxb6605388a
