/- zzMaskModel (function 9). -/
import Derived.Test.Qxb6605388aSweep
namespace Go.Proofs.Qxb6605388a
open Go.RowKit

/-- the reach row, in the midst of its filling -/
structure RowR (s : ByteArray) (w wr : World) (R : Nat → Nat) : Prop where
  row : wr.rowIs w.heap.size 3 s.size (fun j => .int .i64 (R j))
  bel : Below w.heap.size w wr

theorem RowR.drewN {s : ByteArray} {w wr : World} {R : Nat → Nat} (h : RowR s w wr R) (n : Nat) : RowR s w (wr.drewN n) R := ⟨h.row, h.bel.trans ⟨rfl, rfl, rfl, Nat.le_refl _, fun _ _ => rfl⟩⟩
theorem RowR.set {s : ByteArray} {w wr : World} {R : Nat → Nat} (h : RowR s w wr R) (q v : Nat) {x : Int} (hx : x = (v : Int)) : RowR s w (wr.setCell ⟨w.heap.size, q, none⟩ (.int .i64 x)) (fun j => if j = q then v else R j) := by
  subst hx
  refine ⟨(h.row.set q _).congr (fun j _ => ?_), h.bel.setCell (Nat.le_refl _) _⟩
  by_cases e : j = q
  · simp [e]
  · simp [e]

theorem conv_own {w : World} {B : Nat} {v : Value} {l : List UInt8} (h : w.ownsRow B 5 1 v l.length (Lib.byteCells l)) : (convert 32 9 v).run Try.prog w = .ok (.string (strOf l)) w := by
  rcases h.2 with ⟨rfl, h0⟩ | ⟨g, cap, cur, rfl, _, hg, _⟩
  · have : l = [] := List.eq_nil_of_length_eq_zero h0
    subst this
    exact run_convert_bytes_nil w 32 5 Try.underlying32 Try.underlying5 0 0 9 Try.underlying9
  · refine run_convert_bytes_back w 32 9 5 ⟨g, 0, none⟩ cap l Try.underlying32 Try.underlying5 Try.underlying9 (fun j hj => ?_)
    exact h.cells (g := g) rfl j _ (by simp [Lib.byteCells, List.getElem?_eq_getElem hj])

/-- what the sweep has written so far -/
structure Out (l : List UInt8) (c : Nat → Bool) (i : Nat) (v : Value) (w3 wr : World) : Prop where
  own : wr.ownsRow w3.heap.size 5 1 v (Mk.mo l c i).length (Lib.byteCells (Mk.mo l c i))
  bel : Below w3.heap.size w3 wr

theorem Out.app {l : List UInt8} {c : Nat → Bool} {i : Nat} {v v' : Value} {w3 wr w' : World} {y : List UInt8} (_h : Out l c i v w3 wr) (he : Mk.mo l c (i + 1) = Mk.mo l c i ++ y)
    (ho : w'.ownsRow w3.heap.size 5 1 v' ((Mk.mo l c i).length + y.length) (Lib.byteCells (Mk.mo l c i) ++ Lib.byteCells y)) (hb : Below w3.heap.size w3 w') : Out l c (i + 1) v' w3 w' := by
  refine ⟨?_, hb⟩
  rw [he, List.length_append, Lib.byteCells_append]
  exact ho
theorem Out.keep {l : List UInt8} {c : Nat → Bool} {i : Nat} {v : Value} {w3 wr : World} (h : Out l c i v w3 wr) (he : Mk.mo l c (i + 1) = Mk.mo l c i) : Out l c (i + 1) v w3 wr := by
  refine ⟨?_, h.bel⟩
  rw [he]
  exact h.own

theorem emax_up {R : Nat → Nat} {i : Nat} (h : Mk.emax R i < R i) : Mk.emax R (i + 1) = R i := by simp [Mk.emax, h]
theorem emax_same {R : Nat → Nat} {i : Nat} (h : ¬ Mk.emax R i < R i) : Mk.emax R (i + 1) = Mk.emax R i := by simp [Mk.emax, h]

set_option maxHeartbeats 8000000 in
set_option maxRecDepth 100000 in
theorem model_any (s : ByteArray) (ao : Option Addr) (m cap : Nat) (ss : List ByteArray) (w : World) (ha : Args s w ao m ss) :
    Calls Try.prog 9 #[.string s, .slice ao m cap] w fun e w' => ∃ c : Nat → Bool, (∀ j, j < s.size → (c j = true ↔ Mk.CovP (lst s) (ss.map lst) j)) ∧ e = .returned (.string (strOf (Mk.mo (lst s) c s.size))) ∧ Below w.heap.size w w' := by
  obtain ⟨hs, hsec, hsm, _, hh, hmany⟩ := ha
  obtain ⟨i0, hi, hz0, hz1, hz2⟩ := info_parts Try.info5
  have hmk := run_make_row' (P := Try.prog) 30 3 (.int .i64 0) 8 Try.underlying30 Try.info3 rfl .i64 .i64 s.size (by omega) (by omega)
  have HSM := hide hsm
  clear hsm
  go_enter Try.func9, Try.ntmps9
  go_wp2_with fail
  clear hmk
  go_loopw [7] (fun kv wr => ∃ (k : Nat) (R : Nat → Nat), kv = .int .i64 k ∧ k ≤ m ∧ RowR s w wr R ∧ Mk.RS (lst s) (ss.map lst) k R) (fun kv _ => m - (RowKit.intOf kv).toNat)
  case atStart => exact ⟨0, fun _ => 0, rfl, Nat.zero_le _, ⟨World.rowIs_made w (.int .i64 0) s.size 3, (Below.refl _ _).alloc (Nat.le_refl _) _⟩, Mk.RS.zero _ _⟩
  case round =>
    obtain ⟨k, R, rfl, hk, hrr, hrs⟩ := hrel
    by_cases hlt : k < m
    · obtain ⟨b, o, hao, hbl, hcell⟩ := hsec.cells (by omega)
      have hck : wr.cell? ⟨b, o + k, none⟩ = some (.string (ss.getD k ByteArray.empty)) := (hrr.bel.cell (p := ⟨b, o + k, none⟩) hbl).trans (hcell k hlt)
      have hx := xs_get ss k
      have hxs := unhide HSM k
      generalize ss.getD k ByteArray.empty = x at hck hx hxs
      have HX := hide hx
      have HRS := hide hrs
      have HSEC := hide hsec
      subst hao
      clear hx hcell hrs hsec
      by_cases h0 : x.size = 0
      · have HN := hide ((unhide HRS).skip (.inl (by rw [unhide HX]; exact List.eq_nil_of_length_eq_zero (by rw [lst_len]; exact h0))))
        go_wp2
        go_roundw
        case rel => first | exact ⟨k + 1, R, by go_num, by omega, hrr, unhide HN⟩ | ((repeat apply Exists.intro); exact ⟨⟨k + 1, R, by go_num, by omega, hrr, unhide HN⟩, rfl⟩)
        case measure => simp [RowKit.intOf]; omega
      · have h0' : ((x.size : Int) == 0) = false := by rw [beq_eq_false_iff_ne]; omega
        by_cases hbig : s.size < x.size
        · have HN := hide ((unhide HRS).skip (.inr (by rw [unhide HX, lst_len, lst_len]; exact hbig)))
          go_wp2
          go_roundw
          case rel => first | exact ⟨k + 1, R, by go_num, by omega, hrr, unhide HN⟩ | ((repeat apply Exists.intro); exact ⟨⟨k + 1, R, by go_num, by omega, hrr, unhide HN⟩, rfl⟩)
          case measure => simp [RowKit.intOf]; omega
        · have HNE := hide (lst_ne h0)
          go_wp2_with fail
          go_loopw [10] (fun qv wx => ∃ (q : Nat) (R2 : Nat → Nat), qv = .int .i64 q ∧ q ≤ s.size ∧ RowR s w wx R2 ∧ Hid (Mk.RI (lst s) (ss.map lst) k (lst x) q R2)) (fun qv _ => s.size + 1 - (RowKit.intOf qv).toNat)
          case atStart => exact ⟨0, R, rfl, Nat.zero_le _, hrr, (unhide HRS).start _⟩
          case round =>
            clear hrr hck
            obtain ⟨q, R2, rfl, hq, hrr2, hri⟩ := hrel
            by_cases hlt2 : q + x.size ≤ s.size
            · have hcl := hrr2.row.cell (i := q) (by omega)
              have hfz := hrr2.row.frozen q
              by_cases hr : R2 q < q + x.size
              · cases ho : Lib.occAt (lst s) (lst x) q
                · have HN := hide (hri.out.keep (.inl ho))
                  have HO := hide ho
                  clear hri ho
                  generalize hrq : R2 q = r at hcl hr
                  clear hrq
                  go_wp2_with fail
                  refine (occ_any s x q _ (by omega) hlt2).mono ?_
                  rintro e w5 ⟨rfl, n5, rfl⟩
                  rw [unhide HO]
                  go_wp2
                  go_roundw
                  case rel => first | exact ⟨q + 1, R2, by go_num, by omega, hrr2.drewN n5, unhide HN⟩ | ((repeat apply Exists.intro); exact ⟨⟨q + 1, R2, by go_num, by omega, hrr2.drewN n5, unhide HN⟩, rfl⟩)
                  case measure => simp [RowKit.intOf]; omega
                · have HN := hide (hri.out.put (unhide HNE) ho (by rw [lst_len]; exact hr))
                  have HO := hide ho
                  clear hri ho
                  generalize hrq : R2 q = r at hcl hr
                  clear hrq
                  go_wp2_with fail
                  refine (occ_any s x q _ (by omega) hlt2).mono ?_
                  rintro e w5 ⟨rfl, n5, rfl⟩
                  rw [unhide HO]
                  have HR := hide ((hrr2.drewN n5).set q (q + (lst x).length) (x := (q : Int) + x.size) (by rw [lst_len]; push_cast; rfl))
                  clear hrr2
                  go_wp2
                  go_roundw
                  case rel => first | exact ⟨q + 1, _, by go_num, by omega, unhide HR, unhide HN⟩ | ((repeat apply Exists.intro); exact ⟨⟨q + 1, _, by go_num, by omega, unhide HR, unhide HN⟩, rfl⟩)
                  case measure => simp [RowKit.intOf]; omega
              · have HN := hide (hri.out.keep (.inr (by rw [lst_len]; omega)))
                clear hri
                generalize hrq : R2 q = r at hcl hr
                clear hrq
                go_wp2
                go_roundw
                case rel => first | exact ⟨q + 1, R2, by go_num, by omega, hrr2, unhide HN⟩ | ((repeat apply Exists.intro); exact ⟨⟨q + 1, R2, by go_num, by omega, hrr2, unhide HN⟩, rfl⟩)
                case measure => simp [RowKit.intOf]; omega
            · have HN := hide (hri.out.done (by rw [List.length_map, (unhide HSEC).len]; exact hlt) (unhide HX) (by rw [lst_len, lst_len]; omega))
              clear hri
              go_wp2
              go_roundw
              case rel => first | exact ⟨k + 1, R2, by go_num, by omega, hrr2, unhide HN⟩ | ((repeat apply Exists.intro); exact ⟨⟨k + 1, R2, by go_num, by omega, hrr2, unhide HN⟩, rfl⟩)
              case measure => simp [RowKit.intOf]; omega
    · obtain rfl : k = m := by omega
      have HC : Hid (∀ j, j < s.size → (Mk.swc R j = true ↔ Mk.CovP (lst s) (ss.map lst) j)) := by
        have h := hrs
        rw [← hsec.len, ← List.length_map (f := lst)] at h
        intro j hj
        exact Mk.swc_cov h j (by rw [lst_len]; exact hj)
      have hbel := hrr.bel
      have hrow := hrr.row
      have hglt := hrow.lt
      have hwz := hbel.size
      clear hrs hrr hsec hlt
      go_wp2_with fail
      go_loopw [11, 12, 13, 14] (fun v ev bv iv wx => ∃ i : Nat, iv = .int .i64 i ∧ i ≤ s.size ∧ ev = .int .i64 (Mk.emax R i) ∧ bv = .bool (Mk.flag (Mk.swc R) i) ∧ Out (lst s) (Mk.swc R) i v wr wx) (fun _ _ _ iv _ => s.size - (RowKit.intOf iv).toNat)
      case atStart => exact ⟨0, rfl, Nat.zero_le _, rfl, rfl, ⟨World.ownsRow_nil _ _ _ _, Below.refl _ _⟩⟩
      case round =>
        obtain ⟨i, rfl, hi2, rfl, rfl, hout⟩ := hrel
        have hml := Mk.mo_len (lst s) (Mk.swc R) i
        have hown := hout.own
        have hbz := hout.bel.size
        by_cases hlt3 : i < s.size
        · have hcl := (hout.bel.cell (p := ⟨w.heap.size, i, none⟩) hglt).trans (hrow.cell hlt3)
          have HFL : Hid (Mk.flag (Mk.swc R) i = Mk.flag (Mk.swc R) i) := rfl
          generalize hfl : Mk.flag (Mk.swc R) i = fl at HFL
          have HFL : Hid (Mk.flag (Mk.swc R) i = fl) := hfl
          clear hfl
          by_cases hE : Mk.emax R i < R i
          · have HE := hide (emax_up hE)
            by_cases hc : i < R i
            · have HCI : Hid (Mk.swc R i = true) := by show _ = _; unfold Mk.swc; rw [unhide HE]; exact decide_eq_true hc
              generalize hrq : R i = r at hcl hE hc HE
              generalize hem : Mk.emax R i = E at hE
              clear hrq hem
              cases fl
              · have HMo := hide (Mk.mo_flag_mask (lst s) (Mk.swc R) i (unhide HCI) (unhide HFL))
                go_wp2_with (at_builtin; refine Lib.wpList_append_own_string _ rfl _ _ 32 9 rfl _ 5 i0 Try.underlying32 Try.underlying9 hi hz0 hz1 hz2 _ _ _ rfl hown ⟨#[120, 120, 120, 120, 120]⟩ rfl ?d3 ?d4 ?d5 ?_)
                case d3 => simp [maxLen]; omega
                case d4 => omega
                first | (case d5 => exact hbz) | skip
                intro v1 w5 hown1 hgrow1 _
                have HN := hide (hout.app (y := Mk.mask) (unhide HMo) (by exact hown1) (hout.bel.grown hgrow1 hbz (fun j hj => (hown.lt j hj).1)))
                clear hown1 hgrow1 hout hown
                go_wp2
                go_roundw
                case rel => first | exact ⟨i + 1, by go_num, by omega, by rw [unhide HE], by rw [Mk.flag_succ, unhide HCI], unhide HN⟩ | ((repeat apply Exists.intro); exact ⟨⟨i + 1, by go_num, by omega, by rw [unhide HE], by rw [Mk.flag_succ, unhide HCI], unhide HN⟩, rfl⟩)
                case measure => simp [RowKit.intOf]; omega
              · have HN := hide (hout.keep (Mk.mo_flag_in (lst s) (Mk.swc R) i (unhide HCI) (unhide HFL)))
                clear hout hown
                go_wp2
                go_roundw
                case rel => first | exact ⟨i + 1, by go_num, by omega, by rw [unhide HE], by rw [Mk.flag_succ, unhide HCI], unhide HN⟩ | ((repeat apply Exists.intro); exact ⟨⟨i + 1, by go_num, by omega, by rw [unhide HE], by rw [Mk.flag_succ, unhide HCI], unhide HN⟩, rfl⟩)
                case measure => simp [RowKit.intOf]; omega
            · have HCI : Hid (Mk.swc R i = false) := by show _ = _; unfold Mk.swc; rw [unhide HE]; exact decide_eq_false hc
              generalize hrq : R i = r at hcl hE hc HE
              generalize hem : Mk.emax R i = E at hE
              clear hrq hem
              have HMo := hide (Mk.mo_plain (lst s) (Mk.swc R) i (unhide HCI))
              have HG : Hid ((lst s).getD i 0 = s[i]) := by
                show _ = _
                rw [List.getD_eq_getElem?_getD, get?_lst s i hlt3]; rfl
              go_wp2_with (at_builtin; refine wpList_append_own _ rfl _ _ 32 rfl _ 5 i0 (.int .u8 0) 1 1 Try.underlying32 hi hz0 hz1 hz2 rfl (by decide) _ _ _ rfl (hown.alloc _) ⟨wr.heap.size, 0, none⟩ 1 1 [.int .u8 (s[i]).toNat] rfl rfl ?c1 ?c2 ?c3 ?c4 ?c5 ?_)
              first
                | (case c1 =>
                    intro j y hj
                    match j, hj with
                    | 0, hj => simp at hj; subst hj; simp [Addr.add])
                | skip
              case c2 => first | rfl | (intro y hy; simp at hy; subst hy; rfl)
              case c3 => unfold maxLen; omega
              case c4 => omega
              case c5 => first | omega | (simp; omega)
              intro v1 w5 hown1 hgrow1 _
              have HN := hide (hout.app (y := [s[i]]) (by rw [unhide HMo, HG.out]) (by exact hown1) ((hout.bel.alloc hbz _).grown hgrow1 (by simp; omega) (fun j hj => (hown.lt j hj).1)))
              clear hown1 hgrow1 hout hown
              go_wp2
              go_roundw
              case rel => first | exact ⟨i + 1, by go_num, by omega, by rw [unhide HE], by rw [Mk.flag_succ, unhide HCI], unhide HN⟩ | ((repeat apply Exists.intro); exact ⟨⟨i + 1, by go_num, by omega, by rw [unhide HE], by rw [Mk.flag_succ, unhide HCI], unhide HN⟩, rfl⟩)
              case measure => simp [RowKit.intOf]; omega
          · have HE := hide (emax_same hE)
            by_cases hc : i < Mk.emax R i
            · have HCI : Hid (Mk.swc R i = true) := by show _ = _; unfold Mk.swc; rw [unhide HE]; exact decide_eq_true hc
              generalize hrq : R i = r at hcl hE
              generalize hem : Mk.emax R i = E at hE hc HE
              clear hrq hem
              cases fl
              · have HMo := hide (Mk.mo_flag_mask (lst s) (Mk.swc R) i (unhide HCI) (unhide HFL))
                go_wp2_with (at_builtin; refine Lib.wpList_append_own_string _ rfl _ _ 32 9 rfl _ 5 i0 Try.underlying32 Try.underlying9 hi hz0 hz1 hz2 _ _ _ rfl hown ⟨#[120, 120, 120, 120, 120]⟩ rfl ?d3 ?d4 ?d5 ?_)
                case d3 => simp [maxLen]; omega
                case d4 => omega
                first | (case d5 => exact hbz) | skip
                intro v1 w5 hown1 hgrow1 _
                have HN := hide (hout.app (y := Mk.mask) (unhide HMo) (by exact hown1) (hout.bel.grown hgrow1 hbz (fun j hj => (hown.lt j hj).1)))
                clear hown1 hgrow1 hout hown
                go_wp2
                go_roundw
                case rel => first | exact ⟨i + 1, by go_num, by omega, by rw [unhide HE], by rw [Mk.flag_succ, unhide HCI], unhide HN⟩ | ((repeat apply Exists.intro); exact ⟨⟨i + 1, by go_num, by omega, by rw [unhide HE], by rw [Mk.flag_succ, unhide HCI], unhide HN⟩, rfl⟩)
                case measure => simp [RowKit.intOf]; omega
              · have HN := hide (hout.keep (Mk.mo_flag_in (lst s) (Mk.swc R) i (unhide HCI) (unhide HFL)))
                clear hout hown
                go_wp2
                go_roundw
                case rel => first | exact ⟨i + 1, by go_num, by omega, by rw [unhide HE], by rw [Mk.flag_succ, unhide HCI], unhide HN⟩ | ((repeat apply Exists.intro); exact ⟨⟨i + 1, by go_num, by omega, by rw [unhide HE], by rw [Mk.flag_succ, unhide HCI], unhide HN⟩, rfl⟩)
                case measure => simp [RowKit.intOf]; omega
            · have HCI : Hid (Mk.swc R i = false) := by show _ = _; unfold Mk.swc; rw [unhide HE]; exact decide_eq_false hc
              generalize hrq : R i = r at hcl hE
              generalize hem : Mk.emax R i = E at hE hc HE
              clear hrq hem
              have HMo := hide (Mk.mo_plain (lst s) (Mk.swc R) i (unhide HCI))
              have HG : Hid ((lst s).getD i 0 = s[i]) := by
                show _ = _
                rw [List.getD_eq_getElem?_getD, get?_lst s i hlt3]; rfl
              go_wp2_with (at_builtin; refine wpList_append_own _ rfl _ _ 32 rfl _ 5 i0 (.int .u8 0) 1 1 Try.underlying32 hi hz0 hz1 hz2 rfl (by decide) _ _ _ rfl (hown.alloc _) ⟨wr.heap.size, 0, none⟩ 1 1 [.int .u8 (s[i]).toNat] rfl rfl ?c1 ?c2 ?c3 ?c4 ?c5 ?_)
              first
                | (case c1 =>
                    intro j y hj
                    match j, hj with
                    | 0, hj => simp at hj; subst hj; simp [Addr.add])
                | skip
              case c2 => first | rfl | (intro y hy; simp at hy; subst hy; rfl)
              case c3 => unfold maxLen; omega
              case c4 => omega
              case c5 => first | omega | (simp; omega)
              intro v1 w5 hown1 hgrow1 _
              have HN := hide (hout.app (y := [s[i]]) (by rw [unhide HMo, HG.out]) (by exact hown1) ((hout.bel.alloc hbz _).grown hgrow1 (by simp; omega) (fun j hj => (hown.lt j hj).1)))
              clear hown1 hgrow1 hout hown
              go_wp2
              go_roundw
              case rel => first | exact ⟨i + 1, by go_num, by omega, by rw [unhide HE], by rw [Mk.flag_succ, unhide HCI], unhide HN⟩ | ((repeat apply Exists.intro); exact ⟨⟨i + 1, by go_num, by omega, by rw [unhide HE], by rw [Mk.flag_succ, unhide HCI], unhide HN⟩, rfl⟩)
              case measure => simp [RowKit.intOf]; omega
        · obtain rfl : i = s.size := by omega
          have hcv := conv_own hown
          have hbo := hout.bel
          clear hout hown
          go_wp2
          go_ret
          exact ⟨Mk.swc R, unhide HC, rfl, hbel.trans (hbo.mono hwz)⟩

end Go.Proofs.Qxb6605388a
