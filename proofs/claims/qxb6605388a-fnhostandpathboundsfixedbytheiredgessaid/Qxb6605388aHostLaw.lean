/- hostAndPath and the law over it (function 5). -/
import Derived.Test.Qxb6605388aHost
namespace Go.Proofs.Qxb6605388a
open Go.RowKit

structure HP (s : ByteArray) (st en : Nat) : Prop where
  lo : sch (lst s) ≤ st
  mid : st ≤ en
  hi : en ≤ s.size
  noAt : ∀ j, st ≤ j → (lst s)[j]? ≠ some 64
  at' : st = sch (lst s) ∨ (1 ≤ st ∧ (lst s)[st - 1]? = some 64)
  noQ : ∀ j, st ≤ j → j < en → (lst s)[j]? ≠ some 63
  q : en = s.size ∨ (en < s.size ∧ (lst s)[en]? = some 63)

/-- what stands of it once the start is known -/
structure HS (s : ByteArray) (st : Nat) : Prop where
  lo : sch (lst s) ≤ st
  hi : st ≤ s.size
  noAt : ∀ j, st ≤ j → (lst s)[j]? ≠ some 64
  at' : st = sch (lst s) ∨ (1 ≤ st ∧ (lst s)[st - 1]? = some 64)

theorem hs_no {s : ByteArray} {p q : Nat} (h : UP s p q false) : HS s p :=
  ⟨by rw [h.sc]; exact Nat.le_refl _, h.le, (h.no rfl).2, .inl h.sc⟩
theorem hs_yes {s : ByteArray} {p q : Nat} (h : UP s p q true) : HS s (q + 1) := by
  obtain ⟨h1, h2, h3, h4⟩ := h.yes rfl
  exact ⟨by rw [← h.sc]; omega, by omega, fun j hj => h4 j (by omega), .inr ⟨by omega, by simpa using h3⟩⟩

theorem ixq (l : List UInt8) : (Lib.indexByte l 63 = -1 ∧ ∀ k : Nat, l[k]? ≠ some 63) ∨ ∃ i : Nat, Lib.indexByte l 63 = i ∧ i < l.length ∧ l[i]? = some 63 ∧ ∀ k : Nat, k < i → l[k]? ≠ some 63 := by
  have hge := Lib.indexByte_ge l 63
  by_cases h : Lib.indexByte l 63 = -1
  · exact .inl ⟨h, Lib.indexByte_none h⟩
  · have hi : Lib.indexByte l 63 = ((Lib.indexByte l 63).toNat : Int) := by omega
    obtain ⟨h1, h2⟩ := Lib.indexByte_some hi
    exact .inr ⟨_, hi, (List.getElem?_eq_some_iff.1 h1).1, h1, h2⟩

theorem hp_none {s : ByteArray} {st : Nat} (h : HS s st) (hn : ∀ k : Nat, ((lst s).drop st)[k]? ≠ some 63) : HP s st s.size := by
  refine ⟨h.lo, h.hi, Nat.le_refl _, h.noAt, h.at', fun j hj _ => ?_, .inl rfl⟩
  have := hn (j - st)
  rw [List.getElem?_drop, show st + (j - st) = j by omega] at this
  exact this
theorem hp_some {s : ByteArray} {st i : Nat} (h : HS s st) (hi : i < ((lst s).drop st).length) (h1 : ((lst s).drop st)[i]? = some 63) (hn : ∀ k : Nat, k < i → ((lst s).drop st)[k]? ≠ some 63) : HP s st (st + i) := by
  rw [List.length_drop, lst_len] at hi
  rw [List.getElem?_drop] at h1
  refine ⟨h.lo, by omega, by omega, h.noAt, h.at', fun j hj hlt => ?_, .inr ⟨by omega, h1⟩⟩
  have := hn (j - st) (by omega)
  rw [List.getElem?_drop, show st + (j - st) = j by omega] at this
  exact this

set_option maxHeartbeats 1000000 in
theorem host_any (s : ByteArray) (w : World) (M : Int) (hs : s.size ≤ 1048576) (hM : w.cell? ⟨0, 0, none⟩ = some (.int .i64 M)) :
    Calls Try.prog 16 #[.string s] w fun e w' => ∃ (st en : Nat), e = .returned (.tuple #[.int .i64 st, .int .i64 en]) ∧ HP s st en ∧ w' = w := by
  go_enter Try.func16, Try.ntmps16
  go_wp2_with fail
  refine (user_any _ _ M hs hM).mono ?_
  rintro e w' ⟨p, q, ok, rfl, hup, rfl⟩
  cases ok
  · have hst := hs_no hup
    have hle := hst.hi
    clear hup
    go_wp2_with fail
    refine (Try.strings_IndexByte _ _ _).mono ?_
    rintro e w2 ⟨rfl, hw2⟩
    rw [hw2, show (s.extract p s.size).data.toList = (lst s).drop p from lst_extract s p, show (Int.toNat 63).toUInt8 = 63 from rfl]
    clear hw2
    rcases ixq ((lst s).drop p) with ⟨i1, i2⟩ | ⟨i, i1, i2, i3, i4⟩
    · have HH := hide (hp_none hst i2)
      rw [i1]
      clear i1 i2 hst
      go_wp2
      go_ret2
      exact ⟨p, s.size, rfl, unhide HH, rfl⟩
    · have HH := hide (hp_some hst i2 i3 i4)
      have hi : i ≤ 1048576 := by rw [List.length_drop, lst_len] at i2; omega
      rw [i1]
      clear i1 i2 i3 i4 hst
      go_wp2
      go_ret2
      exact ⟨p, p + i, by first | rfl | (push_cast; rfl), unhide HH, rfl⟩
  · have hst := hs_yes hup
    have hle := hst.hi
    clear hup
    go_wp2_with fail
    refine (Try.strings_IndexByte _ _ _).mono ?_
    rintro e w2 ⟨rfl, hw2⟩
    rw [hw2, show (s.extract (q + 1) s.size).data.toList = (lst s).drop (q + 1) from lst_extract s (q + 1), show (Int.toNat 63).toUInt8 = 63 from rfl]
    clear hw2
    rcases ixq ((lst s).drop (q + 1)) with ⟨i1, i2⟩ | ⟨i, i1, i2, i3, i4⟩
    · have HH := hide (hp_none hst i2)
      rw [i1]
      clear i1 i2 hst
      go_wp2
      go_ret2
      exact ⟨q + 1, s.size, by first | rfl | (push_cast; rfl), unhide HH, rfl⟩
    · have HH := hide (hp_some hst i2 i3 i4)
      have hi : i ≤ 1048576 := by rw [List.length_drop, lst_len] at i2; omega
      rw [i1]
      clear i1 i2 i3 i4 hst
      go_wp2
      go_ret2
      exact ⟨q + 1, q + 1 + i, by first | rfl | (push_cast; rfl), unhide HH, rfl⟩

theorem host_out (s : ByteArray) (w : World) (M : Int) (hs : s.size ≤ 1048576) (hM : w.cell? ⟨0, 0, none⟩ = some (.int .i64 M)) :
    Calls Try.prog 12 #[.string s] w fun e w' => ∃ (st en : Nat), e = .returned (.tuple #[.int .i64 st, .int .i64 en]) ∧ HP s st en ∧ w' = w := by
  go_enter Try.func12, Try.ntmps12
  go_wp2_with (go_at_call 16; refine (host_any _ _ M hs hM).mono ?_; rintro e w' ⟨st, en, rfl, hh, rfl⟩)
  go_ret2
  exact ⟨st, en, rfl, hh, rfl⟩

theorem byte_ne {s : ByteArray} {j : Nat} {c : UInt8} (h : j < s.size) (hn : (lst s)[j]? ≠ some c) : (((s[j]).toNat : Int) == (c.toNat : Int)) = false := by
  rw [beq_eq_false_iff_ne]
  intro e
  rw [get?_lst s j h] at hn
  exact hn (congrArg some (u8_eq (by omega)))
theorem byte_eq {s : ByteArray} {j : Nat} {c : UInt8} (h : j < s.size) (hn : (lst s)[j]? = some c) : (s[j]).toNat = c.toNat := by
  rw [get?_lst s j h] at hn
  rw [Option.some.inj hn]

set_option maxHeartbeats 1600000 in
set_option maxRecDepth 100000 in
theorem hostLaw_small (s : ByteArray) (w : World) (M : Int) (hs : s.size ≤ 65536) (hM : w.cell? ⟨0, 0, none⟩ = some (.int .i64 M)) :
    Calls Try.prog 5 #[.string s] w fun e w' => e = .returned (.bool true) ∧ w' = w := by
  go_enter Try.func5, Try.ntmps5
  go_wp2_with (first | (go_at_call 11; go_in) | fail)
  refine (host_out _ _ M (by omega) hM).mono ?_
  rintro e w' ⟨st, en, rfl, hh, rfl⟩
  go_wp2_with fail
  refine (scheme_any _ _ (by omega)).mono ?_
  rintro e w' ⟨rfl, hw⟩
  rw [hw]
  clear hw
  obtain ⟨h1, h2, h3, h4, h5, h6, h7⟩ := hh
  have H5 := hide h5
  have H7 := hide h7
  have H4 := hide h4
  have H6 := hide h6
  clear h4 h5 h6 h7
  generalize sch (lst s) = p at *
  go_wp2_with fail
  go_loop [7] (fun iv => ∃ i : Nat, iv = .int .i64 i ∧ st ≤ i ∧ i ≤ s.size) (fun iv => s.size - (RowKit.intOf iv).toNat)
  case atStart => exact ⟨st, rfl, Nat.le_refl _, by omega⟩
  case round =>
    obtain ⟨i, rfl, hi1, hi2⟩ := hrel
    by_cases hlt : i < s.size
    · have hb : (((s[i]).toNat : Int) == 64) = false := byte_ne (c := 64) hlt (unhide H4 i hi1)
      go_wp2
      go_round
      case rel => exact ⟨i + 1, by go_num, by omega, by omega⟩
      case measure => simp [RowKit.intOf]; omega
    · rcases unhide H5 with hp | ⟨hp1, hp2⟩
      · subst hp
        go_wp2_with fail
        go_loop [8] (fun iv => ∃ i : Nat, iv = .int .i64 i ∧ st ≤ i ∧ i ≤ en) (fun iv => s.size - (RowKit.intOf iv).toNat)
        case atStart => exact ⟨st, rfl, Nat.le_refl _, by omega⟩
        case round =>
          obtain ⟨k, rfl, hk1, hk2⟩ := hrel
          by_cases hlt2 : k < en
          · have hb : (((s[k]'(by omega)).toNat : Int) == 63) = false := byte_ne (c := 63) (by omega) (unhide H6 k hk1 hlt2)
            go_wp2
            go_round
            case rel => exact ⟨k + 1, by go_num, by omega, by omega⟩
            case measure => simp [RowKit.intOf]; omega
          · rcases unhide H7 with he | ⟨he1, he2⟩
            · subst he
              go_wp2
              go_ret
              exact ⟨rfl, rfl⟩
            · have hb : (s[en]'he1).toNat = 63 := byte_eq (c := 63) he1 he2
              have hne : ((en : Int) == (s.size : Int)) = false := by rw [beq_eq_false_iff_ne]; omega
              clear he2
              go_wp2
              go_ret
              exact ⟨rfl, rfl⟩
      · have hb0 : (s[st - 1]'(by omega)).toNat = 64 := byte_eq (c := 64) (by omega) hp2
        by_cases hpe : st = p
        · subst hpe
          go_wp2_with fail
          go_loop [8] (fun iv => ∃ i : Nat, iv = .int .i64 i ∧ st ≤ i ∧ i ≤ en) (fun iv => s.size - (RowKit.intOf iv).toNat)
          case atStart => exact ⟨st, rfl, Nat.le_refl _, by omega⟩
          case round =>
            obtain ⟨k, rfl, hk1, hk2⟩ := hrel
            by_cases hlt2 : k < en
            · have hb : (((s[k]'(by omega)).toNat : Int) == 63) = false := byte_ne (c := 63) (by omega) (unhide H6 k hk1 hlt2)
              go_wp2
              go_round
              case rel => exact ⟨k + 1, by go_num, by omega, by omega⟩
              case measure => simp [RowKit.intOf]; omega
            · rcases unhide H7 with he | ⟨he1, he2⟩
              · subst he
                go_wp2
                go_ret
                exact ⟨rfl, rfl⟩
              · have hb : (s[en]'he1).toNat = 63 := byte_eq (c := 63) he1 he2
                have hne : ((en : Int) == (s.size : Int)) = false := by rw [beq_eq_false_iff_ne]; omega
                clear he2
                go_wp2
                go_ret
                exact ⟨rfl, rfl⟩
        · have hne0 : ((st : Int) == (p : Int)) = false := by rw [beq_eq_false_iff_ne]; omega
          clear hp2
          go_wp2_with fail
          go_loop [8] (fun iv => ∃ i : Nat, iv = .int .i64 i ∧ st ≤ i ∧ i ≤ en) (fun iv => s.size - (RowKit.intOf iv).toNat)
          case atStart => exact ⟨st, rfl, Nat.le_refl _, by omega⟩
          case round =>
            obtain ⟨k, rfl, hk1, hk2⟩ := hrel
            by_cases hlt2 : k < en
            · have hb : (((s[k]'(by omega)).toNat : Int) == 63) = false := byte_ne (c := 63) (by omega) (unhide H6 k hk1 hlt2)
              go_wp2
              go_round
              case rel => exact ⟨k + 1, by go_num, by omega, by omega⟩
              case measure => simp [RowKit.intOf]; omega
            · rcases unhide H7 with he | ⟨he1, he2⟩
              · subst he
                go_wp2
                go_ret
                exact ⟨rfl, rfl⟩
              · have hb : (s[en]'he1).toNat = 63 := byte_eq (c := 63) he1 he2
                have hne : ((en : Int) == (s.size : Int)) = false := by rw [beq_eq_false_iff_ne]; omega
                clear he2
                go_wp2
                go_ret
                exact ⟨rfl, rfl⟩

set_option maxRecDepth 100000 in
theorem hostLaw (s : ByteArray) (w : World) (M : Int) (hs : s.size ≤ maxLen) (hM : w.cell? ⟨0, 0, none⟩ = some (.int .i64 M)) :
    Calls Try.prog 5 #[.string s] w fun e w' => e = .returned (.bool true) ∧ w' = w := by
  by_cases hb : s.size ≤ 65536
  · exact hostLaw_small s w M hb hM
  · unfold maxLen at hs
    have hb' : 65536 < s.size := by omega
    by_cases hc : s.size ≤ 1048576
    · go_enter Try.func5, Try.ntmps5
      go_wp2
      go_ret
      exact ⟨rfl, rfl⟩
    · have hc' : 1048576 < s.size := by omega
      go_enter Try.func5, Try.ntmps5
      go_wp2
      go_ret
      exact ⟨rfl, rfl⟩

end Go.Proofs.Qxb6605388a
