/- The walk of FnCoveringDomainsAreShortDotSuffixes (function 4). -/
import Derived.Test.Qxb6604303aCover
namespace Go.Proofs.Qxb6604303a
open Go.Lib Go.RowKit

/-- the slice that coveringDomains hands back, field by field -/
theorem cov_open {B : Nat} {l : List UInt8} {v : Value} {w : World} (h : Cov B l v w) : ∃ (ao : Option Addr) (n cap : Nat) (gs : List ByteArray), v = .slice ao n cap ∧ gs.length = n ∧ gs.map lst = Pl.good true l ∧
    (n = 0 → ao = none ∧ cap = 0) ∧ n ≤ l.length ∧ (0 < n → ∃ g, ao = some ⟨g, 0, none⟩ ∧ ∀ j, j < n → w.cell? ⟨g, j, none⟩ = some (.string (gs.getD j ByteArray.empty))) := by
  obtain ⟨gs, hown, he, hn⟩ := h
  have hl : gs.length ≤ l.length := by
    have h1 := congrArg List.length he
    have h2 := Pl.good_len true l
    simp at h1
    omega
  rcases hown.2 with ⟨rfl, h0⟩ | ⟨g, cap, cur, rfl, hb, hg, hc, hm, hcs, ht⟩
  · exact ⟨none, 0, 0, gs, rfl, h0, he, fun _ => ⟨rfl, rfl⟩, by omega, fun h => by omega⟩
  · refine ⟨_, _, _, gs, rfl, rfl, he, fun h => ?_, hl, fun _ => ⟨g, rfl, fun j hj => ?_⟩⟩
    · have := hn (List.eq_nil_of_length_eq_zero h)
      simp at this
    · have hc := hown.cells (g := g) rfl j (.string (gs.getD j ByteArray.empty)) (by
        simp [List.getD_eq_getElem?_getD, hj])
      have hadd : (⟨g, 0, none⟩ : Addr).add j = ⟨g, j, none⟩ := by unfold Addr.add; split <;> simp_all
      rwa [hadd] at hc

theorem prevDot_zero (l : List UInt8) : Pl.prevDot l 0 = true := rfl

theorem get_at (s : ByteArray) (k : Nat) (h : k < s.size) : s.data.toList.getD k 0 = s[k] := by
  have h' : k < s.data.toList.length := by simpa using h
  rw [List.getD_eq_getElem?_getD, List.getElem?_eq_getElem h', Option.getD_some, Array.getElem_toList]; rfl

theorem prevDot_yes (s : ByteArray) (i : Nat) (h : i < s.size) (h0 : 0 < i) (hc : (s[i - 1]).toNat = 46) : Pl.prevDot (lst s) i = true := by
  unfold Pl.prevDot
  rw [if_neg (by omega)]
  unfold lst
  rw [get_at s (i - 1) (by omega), beq_iff_eq]
  exact UInt8.toNat_inj.1 (by simpa using hc)

theorem prevDot_no (s : ByteArray) (i : Nat) (h : i < s.size) (h0 : 0 < i) (hc : ¬ (s[i - 1]).toNat = 46) : Pl.prevDot (lst s) i = false := by
  unfold Pl.prevDot
  rw [if_neg (by omega)]
  unfold lst
  rw [get_at s (i - 1) (by omega), beq_eq_false_iff_ne]
  intro e
  rw [e] at hc
  exact hc (by decide)

/-- where the checker stands -/
def At (s : ByteArray) (gs : List ByteArray) (k i : Nat) : Prop := (gs.map lst).drop k = Pl.good (Pl.prevDot (lst s) i) ((lst s).drop i)

theorem At.start {s : ByteArray} {gs : List ByteArray} (h : gs.map lst = Pl.good true (lst s)) : At s gs 0 0 := by
  unfold At; rw [prevDot_zero]; simpa using h

theorem At.skip {s : ByteArray} {gs : List ByteArray} {k i : Nat} (h : At s gs k i) (hi : i < s.size) (hc : Pl.prevDot (lst s) i = false ∨ 253 < s.size - i) : At s gs k (i + 1) := by
  unfold At
  rw [h, Pl.good_step_skip (lst s) i (by rw [lst_len]; exact hi) (by rw [lst_len]; exact hc)]

theorem At.take {s : ByteArray} {gs : List ByteArray} {k i : Nat} (h : At s gs k i) (hi : i < s.size) (hc : Pl.prevDot (lst s) i = true) (h2 : s.size - i ≤ 253) :
    k < gs.length ∧ gs.getD k ByteArray.empty = s.extract i s.size ∧ At s gs (k + 1) (i + 1) := by
  unfold At at h
  rw [Pl.good_step_take (lst s) i (by rw [lst_len]; exact hi) hc (by rw [lst_len]; exact h2)] at h
  have hk : k < (gs.map lst).length := by
    by_cases hk : k < (gs.map lst).length
    · exact hk
    · rw [List.drop_of_length_le (by omega)] at h; cases h
  rw [List.drop_eq_getElem_cons hk] at h
  injection h with h1 h3
  have hk' : k < gs.length := by simpa using hk
  refine ⟨hk', ?_, h3⟩
  have e1 : gs.getD k ByteArray.empty = gs[k] := by simp [List.getD_eq_getElem?_getD, hk']
  rw [e1]
  have e2 : lst gs[k] = (lst s).drop i := by simpa using h1
  have e3 : lst (s.extract i s.size) = (lst s).drop i := by unfold lst; rw [Lib.extract_to_end]
  rw [← Lib.mk_data gs[k], ← Lib.mk_data (s.extract i s.size)]
  unfold lst at e2 e3
  rw [e2, e3]

theorem At.done {s : ByteArray} {gs : List ByteArray} {k : Nat} (h : At s gs k s.size) (hk : k ≤ gs.length) : k = gs.length := by
  unfold At at h
  rw [List.drop_of_length_le (Nat.le_of_eq (lst_len s))] at h
  simp only [Pl.good] at h
  have := congrArg List.length h
  simp at this
  omega

set_option maxHeartbeats 1600000 in
set_option maxRecDepth 100000 in
theorem lawA_small (s : ByteArray) (w : World) (hs : s.size ≤ 1048576) :
    Calls Try.prog 4 #[.string s] w fun e w' => e = .returned (.bool true) ∧ Below w.heap.size w w' := by
  go_enter Try.func4, Try.ntmps4
  go_wp2_with (first | (go_at_call 9; go_in) | (go_at_call 10; go_in) | fail)
  refine (cover_any _ _ hs).mono ?_
  rintro e w1 ⟨v, rfl, hcov, hbel⟩
  obtain ⟨ao, n, cap, gs, rfl, hn, hg, hnil, hnl, hcell⟩ := cov_open hcov
  rw [lst_len] at hnl
  have HN := hide hn
  have HG := hide hg
  have HNil := hide hnil
  have HC := hide hcell
  clear hn hg hnil hcell hcov
  go_wp2_with fail
  go_loopw [4, 5] (fun kv iv wr => ∃ (k i m : Nat), kv = .int .i64 k ∧ iv = .int .i64 i ∧ k ≤ n ∧ i ≤ s.size ∧ Hid (At s gs k i) ∧ wr = w1.drewN m) (fun _ iv _ => s.size - (RowKit.intOf iv).toNat)
  case atStart => exact ⟨0, 0, 0, rfl, rfl, Nat.zero_le _, Nat.zero_le _, At.start (unhide HG), rfl⟩
  case round =>
    obtain ⟨k, i, m, rfl, rfl, hk, hi, hat, rfl⟩ := hrel
    by_cases hlt : i < s.size
    · have hskip : Pl.prevDot (lst s) i = false ∨ 253 < s.size - i → Hid (At s gs k (i + 1)) := fun hc => At.skip hat.out hlt hc
      have htake : Pl.prevDot (lst s) i = true → s.size - i ≤ 253 → Hid (k < gs.length ∧ gs.getD k ByteArray.empty = s.extract i s.size ∧ At s gs (k + 1) (i + 1)) := fun h1 h2 => At.take hat.out hlt h1 h2
      have HS := hide hskip
      have HT := hide htake
      clear hskip htake hat
      rcases Nat.eq_zero_or_pos i with h0 | h0
      · subst h0
        by_cases hlong : 253 < s.size
        · go_wp2
          go_roundw
          case rel => exact ⟨k, 1, m, rfl, by go_num, hk, by omega, unhide HS (.inr (by omega)), rfl⟩
          case measure => simp [RowKit.intOf]; omega
        · obtain ⟨hkl, he, hat'⟩ := (unhide HT rfl (by omega)).out
          have hkn : k < n := by have := unhide HN; omega
          obtain ⟨g, rfl, hcl⟩ := unhide HC (by omega)
          have hck := hcl k hkn
          rw [he] at hck
          have HA := hide hat'
          clear hat' he hcl HC HT HS
          go_wp2
          go_quiet (fail)
          go_wp2
          go_roundw
          case rel => exact ⟨k + 1, 1, _, by go_num, by go_num, hkn, by omega, unhide HA, rfl⟩
          case measure => simp [RowKit.intOf]; omega
      · by_cases hc : (s[i - 1]).toNat = 46
        · by_cases hlong : 253 < s.size - i
          · go_wp2
            go_roundw
            case rel => exact ⟨k, i + 1, m, rfl, by go_num, hk, by omega, unhide HS (.inr (by omega)), rfl⟩
            case measure => simp [RowKit.intOf]; omega
          · obtain ⟨hkl, he, hat'⟩ := (unhide HT (prevDot_yes s i hlt h0 hc) (by omega)).out
            have hkn : k < n := by have := unhide HN; omega
            obtain ⟨g, rfl, hcl⟩ := unhide HC (by omega)
            have hck := hcl k hkn
            rw [he] at hck
            have HA := hide hat'
            clear hat' he hcl HC HT HS
            go_wp2
            go_quiet (fail)
            go_wp2
            go_roundw
            case rel => exact ⟨k + 1, i + 1, _, by go_num, by go_num, hkn, by omega, unhide HA, rfl⟩
            case measure => simp [RowKit.intOf]; omega
        · have hc' : (((s[i - 1]).toNat : Int) == 46) = false := by rw [beq_eq_false_iff_ne]; omega
          go_wp2
          go_roundw
          case rel => first | exact ⟨k, i + 1, m, rfl, by go_num, hk, by omega, unhide HS (.inl (prevDot_no s i hlt h0 hc)), rfl⟩ | ((repeat apply Exists.intro); exact ⟨⟨k, i + 1, m, rfl, by go_num, hk, by omega, unhide HS (.inl (prevDot_no s i hlt h0 hc)), rfl⟩, rfl⟩)
          case measure => simp [RowKit.intOf]; omega
    · obtain rfl : i = s.size := by omega
      obtain rfl : k = n := by have := At.done hat.out (by have := unhide HN; omega); have := unhide HN; omega
      rcases Nat.eq_zero_or_pos k with h0 | h0
      · obtain ⟨rfl, rfl⟩ := unhide HNil h0
        subst h0
        go_wp2
        go_ret
        exact ⟨rfl, hbel.trans ⟨rfl, rfl, rfl, Nat.le_refl _, fun _ _ => rfl⟩⟩
      · go_wp2
        go_ret
        exact ⟨rfl, hbel.trans ⟨rfl, rfl, rfl, Nat.le_refl _, fun _ _ => rfl⟩⟩

set_option maxRecDepth 100000 in
theorem lawA (s : ByteArray) (w : World) (hs : s.size ≤ maxLen) :
    Calls Try.prog 4 #[.string s] w fun e w' => e = .returned (.bool true) ∧ Below w.heap.size w w' := by
  by_cases hb : s.size ≤ 1048576
  · exact lawA_small s w hb
  · unfold maxLen at hs
    have hb' : 1048576 < s.size := by omega
    go_enter Try.func4, Try.ntmps4
    go_wp2
    go_ret
    exact ⟨rfl, Below.refl _ _⟩

end Go.Proofs.Qxb6604303a
