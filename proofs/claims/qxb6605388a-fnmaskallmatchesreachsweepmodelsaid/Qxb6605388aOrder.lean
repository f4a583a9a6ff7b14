/- The walk of FnMaskAllOrderFreeAndMasksWholeText (function 4). -/
import Derived.Test.Qxb6605388aMaskLib
namespace Go.Proofs.Qxb6605388a
open Go.RowKit

/-- it answers true; nothing that was there has turned -/
def RetT (w : World) (e : Ending) (w' : World) : Prop := e = .returned (.bool true) ∧ Below w.heap.size w w'

theorem args_of {s : ByteArray} {w w' : World} {ao : Option Addr} {m : Nat} {ss : List ByteArray} (hs : s.size ≤ 1048576) (hsec : Sec w' ao m ss) (hsm : ∀ j, j < m → (ss.getD j ByteArray.empty).size ≤ 1048576)
    (hM : ∃ M, w.cell? ⟨0, 0, none⟩ = some (.int .i64 M)) (hh : 0 < w.heap.size) (hb : Below w.heap.size w w') (hm : m ≤ 4194304) : Args s w' ao m ss := by
  obtain ⟨M, hM⟩ := hM
  refine ⟨hs, hsec, fun i => ?_, ⟨M, (hb.cell (p := ⟨0, 0, none⟩) hh).trans hM⟩, by have := hb.size; omega, hm⟩
  by_cases hi : i < m
  · exact hsm i hi
  · rw [List.getD_eq_getElem?_getD, List.getElem?_eq_none (by rw [hsec.len]; omega)]
    exact Nat.zero_le _

theorem mask_nil {s : ByteArray} {c : Nat → Bool} (h : ∀ j, j < s.size → (c j = true ↔ Mk.CovP (lst s) ([].map lst) j)) : strOf (Mk.mo (lst s) c s.size) = s := by
  rw [Mk.mo_none (lst s) c s.size (by rw [lst_len]; exact Nat.le_refl _) (fun j hj => ?_), List.take_of_length_le (Nat.le_of_eq (lst_len s)), strOf_lst]
  cases hc : c j
  · rfl
  · exact absurd ((h j hj).1 hc) (Mk.covP_nil _ _)

theorem mask_same {s : ByteArray} {c c' : Nat → Bool} {xs ys : List (List UInt8)} (h : ∀ j, j < s.size → (c j = true ↔ Mk.CovP (lst s) xs j)) (h' : ∀ j, j < s.size → (c' j = true ↔ Mk.CovP (lst s) ys j))
    (he : ∀ x, x ∈ xs ↔ x ∈ ys) : strOf (Mk.mo (lst s) c' s.size) = strOf (Mk.mo (lst s) c s.size) := by
  rw [Mk.mo_congr (lst s) c' c s.size (fun j hj => ?_)]
  rw [Bool.eq_iff_iff, h j hj, h' j hj]
  exact (Mk.covP_congr he j).symm

theorem mask_whole {s : ByteArray} {c : Nat → Bool} {ss : List ByteArray} (h : ∀ j, j < s.size → (c j = true ↔ Mk.CovP (lst s) ((ss ++ [s]).map lst) j)) (h0 : 0 < s.size) : strOf (Mk.mo (lst s) c s.size) = ⟨#[120, 120, 120, 120, 120]⟩ := by
  obtain ⟨k, hk⟩ : ∃ k, s.size = k + 1 := ⟨s.size - 1, by omega⟩
  rw [hk, Mk.mo_all (lst s) c k (fun j hj => ?_)]
  · rfl
  · refine (h j (by omega)).2 ?_
    rw [List.map_append]
    exact Mk.covP_whole (lst s) _ j (by rw [lst_len]; omega)

/-- the three new rows, in the midst of their filling -/
structure Three (ss : List ByteArray) (n k : Nat) (w3 wr : World) : Prop where
  ex : ∃ f1 f2 f3 : Nat → Value, wr.rowIs w3.heap.size 9 n f1 ∧ wr.rowIs (w3.heap.size + 1) 9 (2 * n) f2 ∧ wr.rowIs (w3.heap.size + 1 + 1) 9 (n + 1) f3 ∧
    (∀ j, ∃ x, f1 j = .string x) ∧ (∀ j, ∃ x, f2 j = .string x) ∧ (∀ j, ∃ x, f3 j = .string x) ∧
    ∀ j, j < k → f1 j = .string (ss.getD (n - 1 - j) ByteArray.empty) ∧ f2 j = .string (ss.getD j ByteArray.empty) ∧ f2 (n + j) = .string (ss.getD j ByteArray.empty) ∧ f3 j = .string (ss.getD j ByteArray.empty)
  bel : Below w3.heap.size w3 wr

theorem three_start (ss : List ByteArray) (n : Nat) (w3 : World) : Three ss n 0 w3 (((w3.alloc (.cells (madeCells #[.string ByteArray.empty] n) 9)).alloc (.cells (madeCells #[.string ByteArray.empty] (2 * n)) 9)).alloc (.cells (madeCells #[.string ByteArray.empty] (n + 1)) 9)) := by
  refine ⟨⟨fun _ => .string ByteArray.empty, fun _ => .string ByteArray.empty, fun _ => .string ByteArray.empty, ?_, ?_, ?_, fun _ => ⟨_, rfl⟩, fun _ => ⟨_, rfl⟩, fun _ => ⟨_, rfl⟩, fun j hj => absurd hj (Nat.not_lt_zero _)⟩, ?_⟩
  · exact ((World.rowIs_made w3 _ n 9).alloc _).alloc _
  · have := World.rowIs_made (w3.alloc (.cells (madeCells #[.string ByteArray.empty] n) 9)) (.string ByteArray.empty) (2 * n) 9
    rw [show (w3.alloc (.cells (madeCells #[.string ByteArray.empty] n) 9)).heap.size = w3.heap.size + 1 by simp] at this
    exact this.alloc _
  · have := World.rowIs_made ((w3.alloc (.cells (madeCells #[.string ByteArray.empty] n) 9)).alloc (.cells (madeCells #[.string ByteArray.empty] (2 * n)) 9)) (.string ByteArray.empty) (n + 1) 9
    rw [show ((w3.alloc (.cells (madeCells #[.string ByteArray.empty] n) 9)).alloc (.cells (madeCells #[.string ByteArray.empty] (2 * n)) 9)).heap.size = w3.heap.size + 1 + 1 by simp] at this
    exact this
  · exact (((Below.refl _ _).alloc (Nat.le_refl _) _).alloc (by simp) _).alloc (by simp; omega) _

theorem three_step {ss : List ByteArray} {n k : Nat} {w3 wr : World} (h : Three ss n k w3 wr) (hk : k < n) {x y : ByteArray} (hx : x = ss.getD (n - 1 - k) ByteArray.empty) (hy : y = ss.getD k ByteArray.empty) :
    Three ss n (k + 1) w3 ((((wr.setCell ⟨w3.heap.size, k, none⟩ (.string x)).setCell ⟨w3.heap.size + 1, k, none⟩ (.string y)).setCell ⟨w3.heap.size + 1, n + k, none⟩ (.string y)).setCell ⟨w3.heap.size + 1 + 1, k, none⟩ (.string y)) := by
  obtain ⟨f1, f2, f3, r1, r2, r3, s1, s2, s3, hf⟩ := h.ex
  have up : ∀ (f : Nat → Value) (i : Nat) (z : ByteArray), (∀ j, ∃ x, f j = .string x) → ∀ j, ∃ x, (if j = i then Value.string z else f j) = .string x := by
    intro f i z hs j
    by_cases e : j = i
    · exact ⟨z, if_pos e⟩
    · rw [if_neg e]; exact hs j
  refine ⟨⟨_, _, _, (((r1.set k (.string x)).setOther (by simp) _).setOther (by simp) _).setOther (by simp; omega) _, (((r2.setOther (by simp) _).set k (.string y)).set (n + k) (.string y)).setOther (by simp) _, (((r3.setOther (by simp; omega) _).setOther (by simp) _).setOther (by simp) _).set k (.string y), up _ _ _ s1, up _ _ _ (up _ _ _ s2), up _ _ _ s3, ?_⟩, ?_⟩
  · intro j hj
    by_cases e : j = k
    · subst e
      refine ⟨by rw [if_pos rfl, hx], ?_, ?_, by rw [if_pos rfl, hy]⟩
      · rw [if_neg (by omega), if_pos rfl, hy]
      · rw [if_pos rfl, hy]
    · obtain ⟨h1, h2, h3, h4⟩ := hf j (by omega)
      refine ⟨by rw [if_neg e, h1], ?_, ?_, by rw [if_neg e, h4]⟩
      · rw [if_neg (by omega), if_neg e, h2]
      · rw [if_neg (by omega), if_neg (by omega), h3]
  · exact (((h.bel.setCell (Nat.le_refl _) _).setCell (by simp) _).setCell (by simp) _).setCell (by simp; omega) _

theorem three_end {ss : List ByteArray} {s : ByteArray} {n : Nat} {w3 wr : World} (h : Three ss n n w3 wr) (hl : ss.length = n) :
    Sec (wr.setCell ⟨w3.heap.size + 1 + 1, n, none⟩ (.string s)) (some ⟨w3.heap.size, 0, none⟩) n ss.reverse ∧ Sec (wr.setCell ⟨w3.heap.size + 1 + 1, n, none⟩ (.string s)) (some ⟨w3.heap.size + 1, 0, none⟩) (2 * n) (ss ++ ss) ∧
    Sec (wr.setCell ⟨w3.heap.size + 1 + 1, n, none⟩ (.string s)) (some ⟨w3.heap.size + 1 + 1, 0, none⟩) (n + 1) (ss ++ [s]) ∧ Below w3.heap.size w3 (wr.setCell ⟨w3.heap.size + 1 + 1, n, none⟩ (.string s)) := by
  obtain ⟨f1, f2, f3, r1, r2, r3, s1, s2, s3, hf⟩ := h.ex
  have t1 := r1.setOther (a := ⟨w3.heap.size + 1 + 1, n, none⟩) (by simp; omega) (.string s)
  have t2 := r2.setOther (a := ⟨w3.heap.size + 1 + 1, n, none⟩) (by simp) (.string s)
  have t3 := r3.set n (.string s)
  refine ⟨⟨by simpa using hl, fun _ => ⟨_, 0, rfl, t1.lt, fun i hi => ?_⟩⟩, ⟨by simp; omega, fun _ => ⟨_, 0, rfl, t2.lt, fun i hi => ?_⟩⟩, ⟨by simp; omega, fun _ => ⟨_, 0, rfl, t3.lt, fun i hi => ?_⟩⟩, h.bel.setCell (by simp; omega) _⟩
  · rw [Nat.zero_add, t1.cell hi, (hf i hi).1]
    congr 2
    rw [List.getD_eq_getElem?_getD, List.getD_eq_getElem?_getD, List.getElem?_reverse (by omega), hl]
  · rw [Nat.zero_add, t2.cell hi]
    by_cases h1 : i < n
    · rw [(hf i h1).2.1]
      congr 2
      rw [List.getD_eq_getElem?_getD, List.getD_eq_getElem?_getD, List.getElem?_append_left (by omega)]
    · have := (hf (i - n) (by omega)).2.2.1
      rw [show n + (i - n) = i by omega] at this
      rw [this]
      congr 2
      rw [List.getD_eq_getElem?_getD, List.getD_eq_getElem?_getD, List.getElem?_append_right (by omega), hl]
  · rw [Nat.zero_add, t3.cell hi]
    by_cases h1 : i = n
    · rw [if_pos h1]
      congr 2
      rw [List.getD_eq_getElem?_getD, List.getElem?_append_right (by omega), hl, h1]
      simp
    · rw [if_neg h1, (hf i (by omega)).2.2.2]
      congr 2
      rw [List.getD_eq_getElem?_getD, List.getD_eq_getElem?_getD, List.getElem?_append_left (by omega)]

theorem small_rev {ss : List ByteArray} {n : Nat} (h : ∀ j, j < n → (ss.getD j ByteArray.empty).size ≤ 1048576) (hl : ss.length = n) : ∀ j, j < n → (ss.reverse.getD j ByteArray.empty).size ≤ 1048576 := by
  intro j hj
  have := h (n - 1 - j) (by omega)
  rw [List.getD_eq_getElem?_getD, List.getElem?_reverse (by omega), hl, ← List.getD_eq_getElem?_getD]
  exact this
theorem small_dbl {ss : List ByteArray} {n : Nat} (h : ∀ j, j < n → (ss.getD j ByteArray.empty).size ≤ 1048576) (hl : ss.length = n) : ∀ j, j < 2 * n → ((ss ++ ss).getD j ByteArray.empty).size ≤ 1048576 := by
  intro j hj
  by_cases h1 : j < n
  · have := h j h1
    rw [List.getD_eq_getElem?_getD, List.getElem?_append_left (by omega), ← List.getD_eq_getElem?_getD]
    exact this
  · have := h (j - n) (by omega)
    rw [List.getD_eq_getElem?_getD, List.getElem?_append_right (by omega), hl, ← List.getD_eq_getElem?_getD]
    exact this
theorem small_whole {ss : List ByteArray} {s : ByteArray} {n : Nat} (h : ∀ j, j < n → (ss.getD j ByteArray.empty).size ≤ 1048576) (hl : ss.length = n) (hs : s.size ≤ 1048576) : ∀ j, j < n + 1 → ((ss ++ [s]).getD j ByteArray.empty).size ≤ 1048576 := by
  intro j hj
  by_cases h1 : j < n
  · have := h j h1
    rw [List.getD_eq_getElem?_getD, List.getElem?_append_left (by omega), ← List.getD_eq_getElem?_getD]
    exact this
  · rw [List.getD_eq_getElem?_getD, List.getElem?_append_right (by omega), hl, show j - n = 0 by omega]
    exact hs

set_option maxHeartbeats 8000000 in
set_option maxRecDepth 100000 in
theorem order_walk (s : ByteArray) (ao : Option Addr) (m cap : Nat) (ss : List ByteArray) (w : World) (hs : s.size ≤ maxLen) (hm : m ≤ maxLen) (hsec : Sec w ao m ss) (hnil : ao = none → m = 0)
    (hM : ∃ M, w.cell? ⟨0, 0, none⟩ = some (.int .i64 M)) (hh : 0 < w.heap.size) :
    Calls Try.prog 4 #[.string s, .slice ao m cap] w (RetT w) := by
  have HM := hide hM
  have HNIL := hide hnil
  clear hM hnil
  go_enter Try.func4, Try.ntmps4
  go_wp2_with fail
  refine (bytes_10 s ao m cap ss w hs hm hsec).mono ?_
  rintro e w' ⟨b, rfl, hw⟩
  rw [hw]
  clear hw
  unfold maxLen at hs hm
  cases b
  · go_wp2
    go_ret
    exact ⟨rfl, Below.refl _ _⟩
  by_cases h1 : 4096 < s.size
  · go_wp2
    go_ret
    exact ⟨rfl, Below.refl _ _⟩
  by_cases h2 : 4096 < m
  · go_wp2
    go_ret
    exact ⟨rfl, Below.refl _ _⟩
  clear hs hm
  have h1 : s.size ≤ 4096 := by omega
  have h2 : m ≤ 4096 := by omega
  go_wp2_with fail
  go_loop [5, 6] (fun zv iv => ∃ (Z : Int) (i : Nat), zv = .int .i64 Z ∧ iv = .int .i64 i ∧ i ≤ m ∧ 0 ≤ Z ∧ Z ≤ 4096 ∧ Hid (∀ j, j < i → (ss.getD j ByteArray.empty).size ≤ 4096)) (fun _ iv => m - (RowKit.intOf iv).toNat)
  case atStart => exact ⟨0, 0, rfl, rfl, Nat.zero_le _, by omega, by omega, fun _ h => absurd h (Nat.not_lt_zero _)⟩
  case round =>
    obtain ⟨Z, i, rfl, rfl, hi, hz0, hz1, hsm⟩ := hrel
    by_cases hlt : i < m
    · obtain ⟨b, o, hao, hbl, hcell⟩ := hsec.cells (by omega)
      have hck := hcell i hlt
      have HSEC := hide hsec
      subst hao
      have HSM : Hid ((ss.getD i ByteArray.empty).size ≤ 4096 → ∀ j, j < i + 1 → (ss.getD j ByteArray.empty).size ≤ 4096) := by
        intro h j hj
        by_cases e : j = i
        · subst e; exact h
        · exact hsm.out j (by omega)
      clear hcell hsec
      generalize hx : ss.getD i ByteArray.empty = x at hck HSM
      clear hx
      by_cases hx : x.size ≤ 4096
      · by_cases hz : Z + x.size ≤ 4096
        · go_wp2
          go_round
          case rel => exact ⟨_, i + 1, rfl, by go_num, by omega, by omega, by omega, unhide HSM hx⟩
          case measure => simp [RowKit.intOf]; omega
        · have hz' : 4096 < Z + x.size := by omega
          go_wp2
          go_ret
          exact ⟨rfl, Below.refl _ _⟩
      · have hx' : 4096 < x.size := by omega
        go_wp2
        go_ret
        exact ⟨rfl, Below.refl _ _⟩
    · obtain rfl : i = m := by omega
      go_wp2_with fail
      refine (clone_any ao i cap ss w hsec (by omega) (unhide HNIL)).mono ?_
      rintro e w1 ⟨ao1, cap1, rfl, hsec1, hb1⟩
      have HSM : Hid (∀ j, j < i → (ss.getD j ByteArray.empty).size ≤ 1048576) := fun j hj => Nat.le_trans (hsm.out j hj) (by omega)
      have HS1 := hide hsec1
      clear hsec hsm hsec1 hlt hi
      go_wp2_with fail
      refine (mask_out s ao1 i cap1 ss w1 (args_of (by omega) (unhide HS1) (unhide HSM) (unhide HM) hh hb1 (by omega))).mono ?_
      rintro e w2 ⟨c0, hc0, rfl, hb2⟩
      have HC0 := hide hc0
      have hb02 : Below w.heap.size w w2 := hb1.trans (hb2.mono hb1.size)
      clear hc0
      generalize hgot : strOf (Mk.mo (lst s) c0 s.size) = got
      have HG := hide hgot
      clear hgot
      go_wp2_with fail
      refine (mask_out s none 0 0 [] w2 (args_of (by omega) ⟨rfl, fun h => absurd h (Nat.lt_irrefl _)⟩ (fun j hj => absurd hj (Nat.not_lt_zero _)) (unhide HM) hh hb02 (by omega))).mono ?_
      rintro e w3 ⟨c1, hc1, rfl, hb3⟩
      rw [mask_nil hc1]
      have hb03 : Below w.heap.size w w3 := hb02.trans (hb3.mono hb02.size)
      have hsec3 : Sec w3 ao1 i ss := ((unhide HS1).below (Nat.le_refl _) hb2).below (Nat.le_refl _) hb3
      clear hc1 hb2 hb3 hb1 hb02 HS1
      have hmk1 := run_make_row' (P := Try.prog) 22 9 (.string ByteArray.empty) 16 Try.underlying22 Try.info9 rfl .i64 .i64 i (by omega) (by omega)
      have hmk2 := run_make_row' (P := Try.prog) 22 9 (.string ByteArray.empty) 16 Try.underlying22 Try.info9 rfl .i64 .i64 (2 * i) (by omega) (by omega)
      rw [show ((2 * i : Nat) : Int) = 2 * (i : Int) by omega] at hmk2
      have hmk3 := run_make_row' (P := Try.prog) 22 9 (.string ByteArray.empty) 16 Try.underlying22 Try.info9 rfl .i64 .i64 (i + 1) (by omega) (by omega)
      rw [show ((i + 1 : Nat) : Int) = (i : Int) + 1 by omega] at hmk3
      go_wp2_with fail
      clear hmk1 hmk2 hmk3
      go_loopw [12] (fun kv wr => ∃ k : Nat, kv = .int .i64 k ∧ k ≤ i ∧ Three ss i k w3 wr) (fun kv _ => i - (RowKit.intOf kv).toNat)
      case atStart => exact ⟨0, rfl, Nat.zero_le _, three_start ss i w3⟩
      case round =>
        obtain ⟨k, rfl, hk, h3⟩ := hrel
        by_cases hlt : k < i
        · obtain ⟨b, o, hao, hbl, hcell⟩ := hsec3.cells (by omega)
          have hcr : wr.cell? ⟨b, o + (i - 1 - k), none⟩ = some (.string (ss.getD (i - 1 - k) ByteArray.empty)) := (h3.bel.cell (p := ⟨b, o + (i - 1 - k), none⟩) hbl).trans (hcell (i - 1 - k) (by omega))
          have hcf : wr.cell? ⟨b, o + k, none⟩ = some (.string (ss.getD k ByteArray.empty)) := (h3.bel.cell (p := ⟨b, o + k, none⟩) hbl).trans (hcell k hlt)
          have HST := hide (three_step h3 hlt rfl rfl)
          obtain ⟨f1, f2, f3, r1, r2, r3, s1, s2, s3, _⟩ := h3.ex
          have c1 := r1.cell hlt
          have c2 := r2.cell (i := k) (by omega)
          have c3 := r2.cell (i := i + k) (by omega)
          have c4 := r3.cell (i := k) (by omega)
          obtain ⟨y1, e1⟩ := s1 k
          obtain ⟨y2, e2⟩ := s2 k
          obtain ⟨y3, e3⟩ := s2 (i + k)
          obtain ⟨y4, e4⟩ := s3 k
          rw [e1] at c1
          rw [e2] at c2
          rw [e3] at c3
          rw [e4] at c4
          have z1 := r1.frozen k
          have z2 := r2.frozen k
          have z3 := r2.frozen (i + k)
          have z4 := r3.frozen k
          have n1 : b ≠ w3.heap.size := by omega
          have n2 : b ≠ w3.heap.size + 1 := by omega
          have n3 : b ≠ w3.heap.size + 1 + 1 := by omega
          have HS3 := hide hsec3
          subst hao
          clear hcell h3 r1 r2 r3 s1 s2 s3 e1 e2 e3 e4 hsec3
          generalize ss.getD (i - 1 - k) ByteArray.empty = x at *
          generalize ss.getD k ByteArray.empty = y at *
          go_wp2
          go_roundw
          case rel => first | exact ⟨k + 1, by go_num, hlt, unhide HST⟩ | ((repeat apply Exists.intro); exact ⟨⟨k + 1, by go_num, hlt, unhide HST⟩, rfl⟩)
          case measure => simp [RowKit.intOf]; omega
        · obtain rfl : k = i := by omega
          obtain ⟨q1, q2, q3, q4⟩ := three_end (s := s) h3 hsec3.len
          obtain ⟨f1, f2, f3, r1, r2, r3, s1, s2, s3, _⟩ := h3.ex
          have c4 := r3.cell (i := k) (by omega)
          obtain ⟨y4, e4⟩ := s3 k
          rw [e4] at c4
          have z4 := r3.frozen k
          have Q1 := hide q1
          have Q2 := hide q2
          have Q3 := hide q3
          have Q4 := hide (hb03.trans (q4.mono hb03.size))
          have HLEN := hide hsec3.len
          clear h3 r1 r2 r3 s1 s2 s3 e4 q1 q2 q3 q4 hsec3 hlt hk
          go_wp2_with fail
          refine (mask_out s _ k k ss.reverse _ (args_of (by omega) (unhide Q1) (small_rev (unhide HSM) (unhide HLEN)) (unhide HM) hh (unhide Q4) (by omega))).mono ?_
          rintro e w5 ⟨c5, hc5, rfl, hb5⟩
          rw [mask_same (unhide HC0) hc5 (by intro x; simp), unhide HG]
          have q45 := (unhide Q4).trans (hb5.mono (unhide Q4).size)
          have Q25 := hide ((unhide Q2).below (Nat.le_refl _) hb5)
          have Q35 := hide ((unhide Q3).below (Nat.le_refl _) hb5)
          clear hc5 hb5 Q1 Q2 Q3
          go_wp2_with fail
          refine (mask_out s _ (2 * k) (2 * k) (ss ++ ss) _ (args_of (by omega) (unhide Q25) (small_dbl (unhide HSM) (unhide HLEN)) (unhide HM) hh q45 (by omega))).mono ?_
          rintro e w6 ⟨c6, hc6, rfl, hb6⟩
          rw [mask_same (unhide HC0) hc6 (by intro x; simp), unhide HG]
          have q46 := q45.trans (hb6.mono q45.size)
          have Q36 := hide ((unhide Q35).below (Nat.le_refl _) hb6)
          clear hc6 hb6 Q25 Q35 q45
          by_cases h0 : 0 < s.size
          · go_wp2_with fail
            refine (mask_out s _ (k + 1) (k + 1) (ss ++ [s]) _ (args_of (by omega) (unhide Q36) (small_whole (unhide HSM) (unhide HLEN) (by omega)) (unhide HM) hh q46 (by omega))).mono ?_
            rintro e w7 ⟨c7, hc7, rfl, hb7⟩
            rw [mask_whole hc7 h0]
            have q47 := q46.trans (hb7.mono q46.size)
            clear hc7 hb7
            go_wp2
            go_ret
            exact ⟨rfl, q47⟩
          · go_wp2
            go_ret
            exact ⟨rfl, q46⟩

end Go.Proofs.Qxb6605388a
