/- The walk of FnCoveringDomainsAgreeWithLastLabels (function 5). -/
import Derived.Test.Qxb6604303aLawA
import Derived.Test.Qxb6604303aLast
namespace Go.Proofs.Qxb6604303a
open Go.Lib Go.RowKit

theorem good_get_any (l : List UInt8) : ∀ (n : Nat) (v : List UInt8), v.length ≤ n → Pl.After l v → v ≠ [] → ∀ i, i < (Pl.good true v).length →
    (Pl.good true v)[i]? = some (Pl.ll ((Pl.good true v).length - i + Pl.off l) l) := by
  intro n
  induction n with
  | zero => intro v h _ h0; exact absurd (List.eq_nil_of_length_eq_zero (by omega)) h0
  | succ n ih =>
    intro v hn hA hv i hi
    by_cases hs : v.length ≤ 253
    · exact Pl.good_get l v hA hv hs i hi
    · have hl := Pl.cut_le v
      rw [Pl.good_long v (by omega)] at hi ⊢
      have hne : Pl.cut v ≠ [] := by intro e; rw [e] at hi; simp [Pl.good] at hi
      exact ih (Pl.cut v) (by omega) (hA.cut hne) hne i hi

theorem getB {s : ByteArray} {gs : List ByteArray} (hg : gs.map lst = Pl.good true (lst s)) (h0 : 0 < s.size) (i : Nat) (hi : i < gs.length) :
    gs.getD i ByteArray.empty = strOf (Pl.ll (gs.length - i + Pl.off (lst s)) (lst s)) := by
  have hne : lst s ≠ [] := by intro e; have := lst_len s; rw [e] at this; simp at this; omega
  have hl : gs.length = (Pl.good true (lst s)).length := by rw [← hg]; simp
  have h := good_get_any (lst s) _ (lst s) (Nat.le_refl _) (Pl.After.refl _) hne i (by omega)
  rw [← hg, List.getElem?_map, List.getElem?_eq_getElem hi] at h
  simp only [Option.map_some, Option.some.injEq, List.length_map] at h
  have e1 : gs.getD i ByteArray.empty = gs[i] := by simp [List.getD_eq_getElem?_getD, hi]
  rw [e1, ← h, strOf_lst]

theorem firstB {s : ByteArray} {gs : List ByteArray} (hg : gs.map lst = Pl.good true (lst s)) (h0 : 0 < s.size) (hs : s.size ≤ 253) :
    0 < gs.length ∧ gs.getD 0 ByteArray.empty = s := by
  have hne : lst s ≠ [] := by intro e; have := lst_len s; rw [e] at this; simp at this; omega
  rw [Pl.good_short (lst s) hne (by rw [lst_len]; exact hs)] at hg
  cases gs with
  | nil => simp at hg
  | cons g t =>
    refine ⟨by simp, ?_⟩
    simp only [List.map_cons] at hg
    injection hg with h1 _
    show g = s
    rw [← strOf_lst g, h1, strOf_lst]

theorem stopB {s : ByteArray} {gs : List ByteArray} (hg : gs.map lst = Pl.good true (lst s)) (hs : 253 < s.size) :
    253 < (strOf (Pl.ll (gs.length + Pl.off (lst s) + 1) (lst s))).size := by
  have hl : gs.length = (Pl.good true (lst s)).length := by rw [← hg]; simp
  rw [size_strOf, hl]
  exact Pl.good_stop _ (lst s) (lst s) (Nat.le_refl _) (Pl.After.refl _) (by rw [lst_len]; exact hs)

theorem offB_yes {s : ByteArray} (h0 : 0 < s.size) (h : (s[s.size - 1]'(by omega)).toNat = 46) : Pl.off (lst s) = 1 := by
  unfold Pl.off
  rw [if_pos]
  have e := get_at s (s.size - 1) (by omega)
  rw [List.getLast?_eq_getElem?, lst_len]
  rw [List.getD_eq_getElem?_getD] at e
  have hlt : s.size - 1 < (lst s).length := by rw [lst_len]; omega
  rw [List.getElem?_eq_getElem hlt]
  unfold lst at hlt ⊢
  rw [List.getElem?_eq_getElem hlt, Option.getD_some] at e
  rw [e]
  congr 1
  exact UInt8.toNat_inj.1 (by simpa using h)

theorem offB_no {s : ByteArray} (h0 : 0 < s.size) (h : ¬ (s[s.size - 1]'(by omega)).toNat = 46) : Pl.off (lst s) = 0 := by
  unfold Pl.off
  rw [if_neg]
  have e := get_at s (s.size - 1) (by omega)
  rw [List.getLast?_eq_getElem?, lst_len]
  rw [List.getD_eq_getElem?_getD] at e
  have hlt : s.size - 1 < (lst s).length := by rw [lst_len]; omega
  rw [List.getElem?_eq_getElem hlt]
  unfold lst at hlt ⊢
  rw [List.getElem?_eq_getElem hlt, Option.getD_some] at e
  rw [e]
  intro h'
  injection h' with h'
  rw [h'] at h
  exact h (by decide)

theorem ret_bool {b : Bool} (h : b = true) : Ending.returned (.bool b) = .returned (.bool true) := by rw [h]

theorem wr1 {n i N : Nat} (hi : i ≤ n) (h : N = n - i + 1) : ((n : Int) - i + 1) = (N : Int) := by omega
theorem wr0 {n i N : Nat} (hi : i ≤ n) (h : N = n - i + 0) : ((n : Int) - i) = (N : Int) := by omega
theorem last_outN (s : ByteArray) (N : Nat) (w : World) (hs : s.size ≤ 1048576) (h1 : 1 ≤ N) (h2 : N ≤ 4194304) :
    Calls Try.prog 7 #[.string s, .int .i64 N] w fun e w' => e = .returned (.string (strOf (Pl.ll N (lst s)))) ∧ w' = w := by
  have := last_out s N w hs (by omega) (by omega)
  rwa [Int.toNat_natCast] at this

set_option maxHeartbeats 3200000 in
set_option maxRecDepth 100000 in
theorem lawB_small (s : ByteArray) (w : World) (hs : s.size ≤ 1048576) :
    Calls Try.prog 5 #[.string s] w fun e w' => e = .returned (.bool true) ∧ Below w.heap.size w w' := by
  have q25 : ∀ (w : World) (a : Option Addr) (n c n' c' : Nat), (binOp .eql 25 (.slice a n c) (.slice none n' c')).run Try.prog w = .ok (.bool a.isNone) w := fun w a n c n' c' => Lib.run_eql_slice_nil w _ _ a n c n' c' Try.underlying25
  go_enter Try.func5, Try.ntmps5
  go_wp2_with (first | (go_at_call 11; go_in) | (go_at_call 10; go_in) | fail)
  refine (cover_any _ _ hs).mono ?_
  rintro e w1 ⟨v, rfl, hcov, hbel⟩
  obtain ⟨ao, n, cap, gs, rfl, hn, hg, hnil, hnl, hcell⟩ := cov_open hcov
  rw [lst_len] at hnl
  by_cases h0 : s.size = 0
  · have hse : s = ByteArray.empty := by
      obtain ⟨⟨l⟩⟩ := s
      have : l = [] := List.eq_nil_of_length_eq_zero (by simpa [ByteArray.size] using h0)
      subst this; rfl
    obtain ⟨rfl, rfl⟩ := hnil (by omega)
    obtain rfl : n = 0 := by omega
    clear hcell hcov hg hnil hn
    subst hse
    go_wp2
    go_ret
    exact ⟨rfl, hbel⟩
  · have hne : s.toList.isEmpty = false := by
      rw [Lib.toList_data]; cases h : s.data.toList with
      | nil => exact absurd (by have := lst_len s; unfold lst at this; rw [h] at this; simpa using this.symm) h0
      | cons => rfl
    have hpos : 0 < s.size := by omega
    have HC := hide hcell
    have HG := hide hg
    have HN := hide hn
    clear hn hg hnil hcell hcov h0
    by_cases hd : (s[s.size - 1]'(by omega)).toNat = 46
    · have HO := hide (offB_yes hpos hd)
      go_wp2_with fail
      go_loopw [6] (fun iv wr => ∃ (i m : Nat), iv = .int .i64 i ∧ i ≤ n ∧ Hid (wr = w1.drewN m)) (fun iv _ => n - (RowKit.intOf iv).toNat)
      case atStart => exact ⟨0, 0, rfl, Nat.zero_le _, rfl⟩
      case round =>
        obtain ⟨i, m, rfl, hi, hwr⟩ := hrel
        have hbr : Below w.heap.size w wr := by rw [hwr.out]; exact hbel.trans ⟨rfl, rfl, rfl, Nat.le_refl _, fun _ _ => rfl⟩
        by_cases hlt : i < n
        · obtain ⟨g, rfl, hcl⟩ := unhide HC (by omega)
          have hck : wr.cell? ⟨g, i, none⟩ = some (.string (gs.getD i ByteArray.empty)) := by rw [hwr.out]; exact hcl i hlt
          rw [getB (unhide HG) hpos i (by have := unhide HN; omega), unhide HN, unhide HO] at hck
          clear hcl
          obtain ⟨N, hN⟩ : ∃ N, N = n - i + 1 := ⟨_, rfl⟩
          have hN1 : 1 ≤ N := by omega
          have hN2 : N ≤ 4194304 := by omega
          have HW := hide (wr1 hi hN)
          rw [← hN] at hck
          clear hN
          go_wp2_with fail
          go_quiet ((go_at_call 7; rw [unhide HW]; exact Calls.quiet_of_same (last_outN _ _ _ hs hN1 hN2)))
          go_wp2
          go_roundw
          case rel => exact ⟨i + 1, _, by go_num, hlt, by rw [hwr.out]; exact World.drewN_drewN _ _ _⟩
          case measure => simp [RowKit.intOf]; omega
        · obtain rfl : i = n := by omega
          have HS : Hid (253 < s.size → (253 : Int) < ((strOf (Pl.ll ((i : Int) + 1 + 1).toNat (lst s))).size : Int)) := by
            intro h
            have := stopB (unhide HG) h
            rw [unhide HN, unhide HO, show i + 1 + 1 = ((i : Int) + 1 + 1).toNat by omega] at this
            omega
          rcases Nat.eq_zero_or_pos i with hz | hz
          · have hlong : 253 < s.size := by
              by_cases h : s.size ≤ 253
              · have := (firstB (unhide HG) hpos h).1; have := unhide HN; omega
              · omega
            have hst := unhide HS hlong
            subst hz
            go_wp2_with (go_at_call 7; refine (last_out _ _ _ hs (by omega) (by omega)).mono ?_; rintro e w' ⟨rfl, rfl⟩)
            go_ret
            exact ⟨ret_bool (decide_eq_true hst), hbr⟩
          · obtain ⟨g, rfl, hcl⟩ := unhide HC (by omega)
            have hck : wr.cell? ⟨g, 0, none⟩ = some (.string (gs.getD 0 ByteArray.empty)) := by rw [hwr.out]; exact hcl 0 hz
            by_cases he : gs.getD 0 ByteArray.empty = s
            · rw [he] at hck
              clear hcl
              go_wp2
              go_ret
              exact ⟨rfl, hbr⟩
            · have hlong : 253 < s.size := by
                by_cases h : s.size ≤ 253
                · exact absurd (firstB (unhide HG) hpos h).2 he
                · omega
              have hst := unhide HS hlong
              generalize gs.getD 0 ByteArray.empty = x at hck he
              have hx : (x.toList == s.toList) = false := by
                rw [beq_eq_false_iff_ne]
                intro h
                rw [Lib.toList_data, Lib.toList_data] at h
                exact he (by rw [← strOf_lst x, ← strOf_lst s]; unfold lst; rw [h])
              clear hcl he
              go_wp2_with (go_at_call 7; refine (last_out _ _ _ hs (by omega) (by omega)).mono ?_; rintro e w' ⟨rfl, rfl⟩)
              go_ret
              exact ⟨ret_bool (decide_eq_true hst), hbr⟩
    · have HO := hide (offB_no hpos hd)
      have hd' : (((s[s.size - 1]'(by omega)).toNat : Int) == 46) = false := by rw [beq_eq_false_iff_ne]; omega
      go_wp2_with fail
      go_loopw [6] (fun iv wr => ∃ (i m : Nat), iv = .int .i64 i ∧ i ≤ n ∧ Hid (wr = w1.drewN m)) (fun iv _ => n - (RowKit.intOf iv).toNat)
      case atStart => exact ⟨0, 0, rfl, Nat.zero_le _, rfl⟩
      case round =>
        obtain ⟨i, m, rfl, hi, hwr⟩ := hrel
        have hbr : Below w.heap.size w wr := by rw [hwr.out]; exact hbel.trans ⟨rfl, rfl, rfl, Nat.le_refl _, fun _ _ => rfl⟩
        by_cases hlt : i < n
        · obtain ⟨g, rfl, hcl⟩ := unhide HC (by omega)
          have hck : wr.cell? ⟨g, i, none⟩ = some (.string (gs.getD i ByteArray.empty)) := by rw [hwr.out]; exact hcl i hlt
          rw [getB (unhide HG) hpos i (by have := unhide HN; omega), unhide HN, unhide HO] at hck
          clear hcl
          obtain ⟨N, hN⟩ : ∃ N, N = n - i + 0 := ⟨_, rfl⟩
          have hN1 : 1 ≤ N := by omega
          have hN2 : N ≤ 4194304 := by omega
          have HW := hide (wr0 hi hN)
          rw [← hN] at hck
          clear hN
          go_wp2_with fail
          go_quiet ((go_at_call 7; rw [unhide HW]; exact Calls.quiet_of_same (last_outN _ _ _ hs hN1 hN2)))
          go_wp2
          go_roundw
          case rel => exact ⟨i + 1, _, by go_num, hlt, by rw [hwr.out]; exact World.drewN_drewN _ _ _⟩
          case measure => simp [RowKit.intOf]; omega
        · obtain rfl : i = n := by omega
          have HS : Hid (253 < s.size → (253 : Int) < ((strOf (Pl.ll ((i : Int) + 1).toNat (lst s))).size : Int)) := by
            intro h
            have := stopB (unhide HG) h
            rw [unhide HN, unhide HO, show i + 0 + 1 = ((i : Int) + 1).toNat by omega] at this
            omega
          rcases Nat.eq_zero_or_pos i with hz | hz
          · have hlong : 253 < s.size := by
              by_cases h : s.size ≤ 253
              · have := (firstB (unhide HG) hpos h).1; have := unhide HN; omega
              · omega
            have hst := unhide HS hlong
            subst hz
            go_wp2_with (go_at_call 7; refine (last_out _ _ _ hs (by omega) (by omega)).mono ?_; rintro e w' ⟨rfl, rfl⟩)
            go_ret
            exact ⟨ret_bool (decide_eq_true hst), hbr⟩
          · obtain ⟨g, rfl, hcl⟩ := unhide HC (by omega)
            have hck : wr.cell? ⟨g, 0, none⟩ = some (.string (gs.getD 0 ByteArray.empty)) := by rw [hwr.out]; exact hcl 0 hz
            by_cases he : gs.getD 0 ByteArray.empty = s
            · rw [he] at hck
              clear hcl
              go_wp2
              go_ret
              exact ⟨rfl, hbr⟩
            · have hlong : 253 < s.size := by
                by_cases h : s.size ≤ 253
                · exact absurd (firstB (unhide HG) hpos h).2 he
                · omega
              have hst := unhide HS hlong
              generalize gs.getD 0 ByteArray.empty = x at hck he
              have hx : (x.toList == s.toList) = false := by
                rw [beq_eq_false_iff_ne]
                intro h
                rw [Lib.toList_data, Lib.toList_data] at h
                exact he (by rw [← strOf_lst x, ← strOf_lst s]; unfold lst; rw [h])
              clear hcl he
              go_wp2_with (go_at_call 7; refine (last_out _ _ _ hs (by omega) (by omega)).mono ?_; rintro e w' ⟨rfl, rfl⟩)
              go_ret
              exact ⟨ret_bool (decide_eq_true hst), hbr⟩

set_option maxRecDepth 100000 in
theorem lawB (s : ByteArray) (w : World) (hs : s.size ≤ maxLen) :
    Calls Try.prog 5 #[.string s] w fun e w' => e = .returned (.bool true) ∧ Below w.heap.size w w' := by
  by_cases hb : s.size ≤ 1048576
  · exact lawB_small s w hb
  · unfold maxLen at hs
    have hb' : 1048576 < s.size := by omega
    go_enter Try.func5, Try.ntmps5
    go_wp2
    go_ret
    exact ⟨rfl, Below.refl _ _⟩

end Go.Proofs.Qxb6604303a
