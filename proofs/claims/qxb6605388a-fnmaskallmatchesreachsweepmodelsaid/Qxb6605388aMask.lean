/- maskAll (function 14, its export 8). -/
import Derived.Test.Qxb6605388aHost
import Derived.Test.Qxb6605388aBuilder
import Derived.Test.Qxb6605388aMaskPlain
import Derived.Deep.OwnRows
import Derived.Deep.QuietTactic
import Derived.BigQuiet
namespace Go.Proofs.Qxb6605388a
open Go.RowKit

theorem Try.info4 : (Try.prog.info? 4).map (fun i => (i.zero, i.size, i.bytes)) = some (some (.bool false), 1, 1) := by kernel_rfl

/-- the slice (ao, m) holds the strings ss -/
structure Sec (w : World) (ao : Option Addr) (m : Nat) (ss : List ByteArray) : Prop where
  len : ss.length = m
  cells : 0 < m → ∃ b o, ao = some ⟨b, o, none⟩ ∧ b < w.heap.size ∧ ∀ i, i < m → w.cell? ⟨b, o + i, none⟩ = some (.string (ss.getD i ByteArray.empty))

theorem Sec.below {w w' : World} {ao : Option Addr} {m : Nat} {ss : List ByteArray} (h : Sec w ao m ss) {B : Nat} (hB : w.heap.size ≤ B) (hb : Below B w w') : Sec w' ao m ss := by
  refine ⟨h.len, fun h0 => ?_⟩
  obtain ⟨b, o, h1, h2, h3⟩ := h.cells h0
  exact ⟨b, o, h1, by have := hb.size; omega, fun i hi => (hb.cell (p := ⟨b, o + i, none⟩) (by show b < B; omega)).trans (h3 i hi)⟩

/-- the covered row, in the midst of the marking -/
structure CI (s : ByteArray) (w wr : World) (c : Nat → Bool) : Prop where
  row : wr.rowIs w.heap.size 4 s.size (fun j => .bool (c j))
  bel : Below w.heap.size w wr

theorem CI.congr {s : ByteArray} {w wr : World} {c c' : Nat → Bool} (h : CI s w wr c) (e : ∀ j, c j = c' j) : CI s w wr c' :=
  ⟨h.row.congr (fun j _ => by rw [e j]), h.bel⟩
theorem CI.set {s : ByteArray} {w wr : World} {c : Nat → Bool} {q j0 : Nat} (hq : q ≤ j0) (h : CI s w wr (fun j => c j || (decide (q ≤ j) && decide (j < j0)))) :
    CI s w (wr.setCell ⟨w.heap.size, j0, none⟩ (.bool true)) (fun j => c j || (decide (q ≤ j) && decide (j < j0 + 1))) := by
  refine ⟨(h.row.set j0 (.bool true)).congr (fun j _ => ?_), h.bel.setCell (Nat.le_refl _) _⟩
  by_cases e : j = j0
  · subst e; simp [hq]
  · rw [if_neg e]
    congr 2
    have : decide (j < j0) = decide (j < j0 + 1) := decide_eq_decide.2 (by omega)
    rw [this]

/-- what is asked of the arguments -/
structure Args (s : ByteArray) (w : World) (ao : Option Addr) (m : Nat) (ss : List ByteArray) : Prop where
  size : s.size ≤ 1048576
  sec : Sec w ao m ss
  small : ∀ i, (ss.getD i ByteArray.empty).size ≤ 1048576
  max : ∃ M, w.cell? ⟨0, 0, none⟩ = some (.int .i64 M)
  heap : 0 < w.heap.size
  many : m ≤ 4194304

theorem xs_get (ss : List ByteArray) (i : Nat) : (ss.map lst).getD i [] = lst (ss.getD i ByteArray.empty) := by
  simp only [List.getD_eq_getElem?_getD, List.getElem?_map]
  cases ss[i]? <;> rfl

theorem isEmpty_of {x : ByteArray} (h : x.size = 0) : x = ByteArray.empty := by
  obtain ⟨⟨l⟩⟩ := x
  have : l = [] := List.eq_nil_of_length_eq_zero (by simpa [ByteArray.size] using h)
  subst this; rfl
theorem notEmpty_of {x : ByteArray} (h : ¬ x.size = 0) : x.toList.isEmpty = false := by
  rw [Lib.toList_data]; cases h' : x.data.toList with
  | nil => exact absurd (by have := lst_len x; unfold lst at this; rw [h'] at this; simpa using this.symm) h
  | cons => rfl
theorem lst_ne {x : ByteArray} (h : ¬ x.size = 0) : lst x ≠ [] := by intro e; have := lst_len x; rw [e] at this; simp at this; omega

theorem isB_step {B b : Nat} {x y z : List UInt8} {cs : List Value} {w : World} (h : Lib.BuilderAt 37 5 B b (.pointer (some ⟨b, 0, none⟩)) (Lib.byteCells x ++ cs) w) (hc : cs = Lib.byteCells y) (e : z = x ++ y) : Hid (Lib.IsBuilder 37 5 B b (Lib.byteCells z) w) := by
  rw [e, Lib.byteCells_append, ← hc]; exact .inr h
theorem isB_eq {B b : Nat} {x y : List UInt8} {w : World} (h : Hid (Lib.IsBuilder 37 5 B b (Lib.byteCells y) w)) (e : x = y) : Hid (Lib.IsBuilder 37 5 B b (Lib.byteCells x) w) := by rw [e]; exact h

set_option maxHeartbeats 8000000 in
set_option maxRecDepth 100000 in
theorem mask_any (s : ByteArray) (ao : Option Addr) (m cap : Nat) (ss : List ByteArray) (w : World) (ha : Args s w ao m ss) :
    Calls Try.prog 14 #[.string s, .slice ao m cap] w fun e w' => ∃ c : Nat → Bool, (∀ j, j < s.size → (c j = true ↔ Mk.CovP (lst s) (ss.map lst) j)) ∧ e = .returned (.string (strOf (Mk.mo (lst s) c s.size))) ∧ Below w.heap.size w w' := by
  obtain ⟨hs, hsec, hsm, ⟨M, hM⟩, hh, hmany⟩ := ha
  have hmk := run_make_row' (P := Try.prog) 33 4 (.bool false) 1 Try.underlying33 Try.info4 rfl .i64 .i64 s.size (by omega) (by omega)
  have HM := hide hM
  have HSM := hide hsm
  clear hM hsm
  go_enter Try.func14, Try.ntmps14
  go_wp2_with fail
  clear hmk
  go_loopw [18] (fun kv wr => ∃ (k : Nat) (c : Nat → Bool), kv = .int .i64 k ∧ k ≤ m ∧ CI s w wr c ∧ Mk.Cv (lst s) (ss.map lst) k c) (fun kv _ => m - (RowKit.intOf kv).toNat)
  case atStart => exact ⟨0, fun _ => false, rfl, Nat.zero_le _, ⟨World.rowIs_made w (.bool false) s.size 4, (Below.refl _ _).alloc (Nat.le_refl _) _⟩, Mk.Cv.zero _ _⟩
  case round =>
    obtain ⟨k, c, rfl, hk, hci, hcv⟩ := hrel
    by_cases hlt : k < m
    · obtain ⟨b, o, hao, hbl, hcell⟩ := hsec.cells (by omega)
      have hck : wr.cell? ⟨b, o + k, none⟩ = some (.string (ss.getD k ByteArray.empty)) := (hci.bel.cell (p := ⟨b, o + k, none⟩) hbl).trans (hcell k hlt)
      have hx := xs_get ss k
      have hxs := unhide HSM k
      generalize ss.getD k ByteArray.empty = x at hck hx hxs
      have HX := hide hx
      have HCV := hide hcv
      have HSEC := hide hsec
      subst hao
      clear hx hcell hcv hsec
      by_cases h0 : x.size = 0
      · obtain rfl := isEmpty_of h0
        have HN := hide ((unhide HCV).skip (unhide HX))
        go_wp2
        go_roundw
        case rel => first | exact ⟨k + 1, c, by go_num, by omega, hci, unhide HN⟩ | ((repeat apply Exists.intro); exact ⟨⟨k + 1, c, by go_num, by omega, hci, unhide HN⟩, rfl⟩)
        case measure => simp [RowKit.intOf]; omega
      · have hne := notEmpty_of h0
        have HNE := hide (lst_ne h0)
        go_wp2_with fail
        go_loopw [8] (fun sv wx => ∃ (st : Nat) (c2 : Nat → Bool), sv = .int .i64 st ∧ st ≤ s.size ∧ CI s w wx c2 ∧ Hid (Mk.Cm (lst s) (ss.map lst) k (lst x) st c2)) (fun sv _ => s.size + 1 - (RowKit.intOf sv).toNat)
        case atStart => exact ⟨0, c, rfl, Nat.zero_le _, hci, (unhide HCV).start _⟩
        case round =>
          clear hci hck
          obtain ⟨st, c2, rfl, hst, hci2, hcm⟩ := hrel
          have hM2 : wr.cell? ⟨0, 0, none⟩ = some (.int .i64 M) := (hci2.bel.cell (p := ⟨0, 0, none⟩) hh).trans (unhide HM)
          have hxz : (s.extract st s.size).size < 4294967281 := by rw [ByteArray.size_extract]; omega
          go_wp2_with fail
          refine (Try.strings_Index _ _ M _ hxz hM2).mono ?_
          rintro e w2 ⟨rfl, hw2⟩
          rw [hw2, show (s.extract st s.size).data.toList = (lst s).drop st from lst_extract s st]
          clear hw2
          rcases Mk.find_rest (lst s) (lst x) st (unhide HNE) (by rw [lst_len]; exact hst) with ⟨i1, i2⟩ | ⟨i, i1, i2, i3, i4⟩
          · rw [show Lib.index ((lst s).drop st) x.data.toList = -1 from i1]
            have HN := hide (hcm.out.done (by rw [List.length_map, (unhide HSEC).len]; exact hlt) (unhide HX) (unhide HNE) i2)
            clear i1 i2 hcm hM2
            go_wp2
            go_roundw
            case rel => first | exact ⟨k + 1, c2, by go_num, by omega, hci2, unhide HN⟩ | ((repeat apply Exists.intro); exact ⟨⟨k + 1, c2, by go_num, by omega, hci2, unhide HN⟩, rfl⟩)
            case measure => simp [RowKit.intOf]; omega
          · rw [show Lib.index ((lst s).drop st) x.data.toList = (i : Int) from i1]
            rw [lst_len, lst_len] at i2
            have HN := hide (hcm.out.next i3 (by omega) i4)
            clear i1 i3 i4 hcm hM2
            go_wp2_with fail
            go_loopw [10] (fun jv wx => ∃ j0 : Nat, jv = .int .i64 j0 ∧ st + i ≤ j0 ∧ j0 ≤ st + i + x.size ∧ CI s w wx (fun j => c2 j || (decide (st + i ≤ j) && decide (j < j0)))) (fun jv _ => s.size + 1 - (RowKit.intOf jv).toNat)
            case atStart => exact ⟨st + i, by go_num, Nat.le_refl _, by omega, hci2.congr (fun j => by
              have : (decide (st + i ≤ j) && decide (j < st + i)) = false := by rw [Bool.and_eq_false_iff, decide_eq_false_iff_not, decide_eq_false_iff_not]; omega
              rw [this, Bool.or_false])⟩
            case round =>
              clear hci2
              obtain ⟨j0, rfl, hj1, hj2, hci3⟩ := hrel
              by_cases hlt3 : j0 < st + i + x.size
              · have hcl := hci3.row.cell (i := j0) (by omega)
                have hfz := hci3.row.frozen j0
                have HN3 := hide (hci3.set hj1)
                clear hci3
                generalize (c2 j0 || (decide (st + i ≤ j0) && decide (j0 < j0))) = bb at hcl
                go_wp2
                go_roundw
                case rel => first | exact ⟨j0 + 1, by go_num, by omega, by omega, unhide HN3⟩ | ((repeat apply Exists.intro); exact ⟨⟨j0 + 1, by go_num, by omega, by omega, unhide HN3⟩, rfl⟩)
                case measure => simp [RowKit.intOf]; omega
              · obtain rfl : j0 = st + i + x.size := by omega
                go_wp2
                go_roundw
                case rel => first | exact ⟨st + i + 1, _, by go_num, by omega, hci3, by rw [← lst_len x]; exact unhide HN⟩ | ((repeat apply Exists.intro); exact ⟨⟨st + i + 1, _, by go_num, by omega, hci3, by rw [← lst_len x]; exact unhide HN⟩, rfl⟩)
                case measure => simp [RowKit.intOf]; omega
    · obtain rfl : k = m := by omega
      have HC : Hid (∀ j, j < s.size → (c j = true ↔ Mk.CovP (lst s) (ss.map lst) j)) := by
        have h := hcv
        rw [← hsec.len, ← List.length_map (f := lst)] at h
        have := h.all
        rwa [lst_len] at this
      have hbel := hci.bel
      have hrow := hci.row
      have hglt := hrow.lt
      have hwz := hbel.size
      clear hcv hci hsec hlt
      go_wp2_with fail
      go_loopw [51] (fun iv wx => ∃ k2 : Nat, iv = .int .i64 k2 ∧ k2 ≤ s.size ∧ Hid (Lib.IsBuilder 37 5 wr.heap.size wr.heap.size (Lib.byteCells (Mk.mo (lst s) c k2)) wx) ∧ Below wr.heap.size wr wx) (fun iv _ => s.size - (RowKit.intOf iv).toNat)
      case atStart => exact ⟨0, rfl, Nat.zero_le _, .inl ⟨Nat.le_refl _, .slice none 0 0, heap_alloc_new _ _, World.ownsRow_nil _ _ _ _, by simp [Value.ownBlock]⟩, (Below.refl _ _).alloc (Nat.le_refl _) _⟩
      case round =>
        obtain ⟨k2, rfl, hk2, hbld, hbz⟩ := hrel
        have hml := Mk.mo_len (lst s) c k2
        by_cases hlt2 : k2 < s.size
        · have hcl := (hbz.cell (p := ⟨w.heap.size, k2, none⟩) hglt).trans (hrow.cell hlt2)
          cases hck : c k2
          · rw [hck] at hcl
            have HMo := hide (Mk.mo_plain (lst s) c k2 hck)
            have HG : Hid ((lst s).getD k2 0 = s[k2]) := by
              show _ = _
              rw [List.getD_eq_getElem?_getD, get?_lst s k2 hlt2]; rfl
            clear hck
            go_wp2_with fail
            refine (writeByte_any _ _ _ _ _ hbld (by rw [Lib.byteCells_length]; omega) hbz.size).mono ?_
            rintro e w4 ⟨rfl, hb4, hbe4⟩
            have HB := isB_step (z := Mk.mo (lst s) c (k2 + 1)) hb4 (y := [s[k2]]) rfl (by rw [HMo.out, HG.out])
            have hbz4 := hbz.trans hbe4
            clear hb4 hbe4 hbld
            go_wp2
            go_roundw
            case rel => first | exact ⟨k2 + 1, by go_num, by omega, HB, hbz4⟩ | ((repeat apply Exists.intro); exact ⟨⟨k2 + 1, by go_num, by omega, HB, hbz4⟩, rfl⟩)
            case measure => simp [RowKit.intOf]; omega
          · rw [hck] at hcl
            by_cases h0 : k2 = 0
            · subst h0
              have HMo := hide (Mk.mo_mask (lst s) c 0 hck (.inl rfl))
              clear hck
              go_wp2_with fail
              refine (writeString_any _ _ _ _ _ hbld (by rw [Lib.byteCells_length]; show _ + 5 ≤ _; omega) hbz.size).mono ?_
              rintro e w4 ⟨rfl, hb4, hbe4⟩
              have HB := isB_step hb4 (y := Mk.mask) rfl HMo.out
              have hbz4 := hbz.trans hbe4
              clear hb4 hbe4 hbld
              go_wp2
              go_roundw
              case rel => first | exact ⟨0 + 1, by first | rfl | go_num, by omega, HB, hbz4⟩ | ((repeat apply Exists.intro); exact ⟨⟨0 + 1, by first | rfl | go_num, by omega, HB, hbz4⟩, rfl⟩)
              case measure => simp [RowKit.intOf]; omega
            · have h0' : ((k2 : Int) == 0) = false := by rw [beq_eq_false_iff_ne]; omega
              have hcl1 := (hbz.cell (p := ⟨w.heap.size, k2 - 1, none⟩) hglt).trans (hrow.cell (i := k2 - 1) (by omega))
              cases hck1 : c (k2 - 1)
              · rw [hck1] at hcl1
                have HMo := hide (Mk.mo_mask (lst s) c k2 hck (.inr hck1))
                clear hck hck1
                go_wp2_with fail
                refine (writeString_any _ _ _ _ _ hbld (by rw [Lib.byteCells_length]; show _ + 5 ≤ _; omega) hbz.size).mono ?_
                rintro e w4 ⟨rfl, hb4, hbe4⟩
                have HB := isB_step hb4 (y := Mk.mask) rfl HMo.out
                have hbz4 := hbz.trans hbe4
                clear hb4 hbe4 hbld
                go_wp2
                go_roundw
                case rel => first | exact ⟨k2 + 1, by go_num, by omega, HB, hbz4⟩ | ((repeat apply Exists.intro); exact ⟨⟨k2 + 1, by go_num, by omega, HB, hbz4⟩, rfl⟩)
                case measure => simp [RowKit.intOf]; omega
              · rw [hck1] at hcl1
                have HMo := hide (Mk.mo_in (lst s) c k2 hck (by omega) hck1)
                clear hck hck1
                have HB := isB_eq hbld HMo.out
                clear hbld
                go_wp2
                go_roundw
                case rel => first | exact ⟨k2 + 1, by go_num, by omega, HB, hbz⟩ | ((repeat apply Exists.intro); exact ⟨⟨k2 + 1, by go_num, by omega, HB, hbz⟩, rfl⟩)
                case measure => simp [RowKit.intOf]; omega
        · obtain rfl : k2 = s.size := by omega
          go_wp2_with fail
          refine (Try.Builder_String_any _ _ _ _ hbld hbz.size).mono ?_
          rintro e w4 ⟨rfl, hb4⟩
          go_wp2
          go_ret
          exact ⟨c, unhide HC, rfl, hbel.trans ((hbz.trans hb4).mono hwz)⟩

theorem mask_out (s : ByteArray) (ao : Option Addr) (m cap : Nat) (ss : List ByteArray) (w : World) (ha : Args s w ao m ss) :
    Calls Try.prog 8 #[.string s, .slice ao m cap] w fun e w' => ∃ c : Nat → Bool, (∀ j, j < s.size → (c j = true ↔ Mk.CovP (lst s) (ss.map lst) j)) ∧ e = .returned (.string (strOf (Mk.mo (lst s) c s.size))) ∧ Below w.heap.size w w' := by
  go_enter Try.func8, Try.ntmps8
  go_wp2_with (go_at_call 14; refine (mask_any _ _ _ _ ss _ ha).mono ?_; rintro e w' ⟨c, hc, rfl, hb⟩)
  go_ret
  exact ⟨c, hc, rfl, hb⟩

end Go.Proofs.Qxb6605388a
