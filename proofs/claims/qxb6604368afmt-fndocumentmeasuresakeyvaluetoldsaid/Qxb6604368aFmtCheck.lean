/- check (21): within the limits it answers nil; past one of them an error. For every interpretation F of fmt's texts. -/
import Derived.Test.Qxb6604368aFmtLine
namespace Go.Proofs.Qxb6604368aFmt
open Go.RowKit Go.Extern.Stop Go.Stop Go.Extern
variable {b d cap : Nat} {l : List UInt8} {L N E : Int}

/-- below the scanner's block nothing has turned; its position and its count can still be read -/
def BelowE (b : Nat) (w w' : World) : Prop := Below b w w' ∧ ∃ x y : Int, w'.cell? ⟨b, 1, none⟩ = some (.int .i64 x) ∧ w'.cell? ⟨b, 5, none⟩ = some (.int .i64 y)

theorem BelowE.after {b : Nat} {w w1 w2 : World} (h : Below b w w1) (k : BelowE b w1 w2) : BelowE b w w2 := ⟨h.trans k.1, k.2⟩

/-- it answers an error that is not nil; below the scanner's block nothing has turned -/
def ErrS (b : Nat) (w : World) (r : Ending) (w' : World) : Prop := (∃ a : Addr, r = .returned (.iface 56 (.pointer (some a)))) ∧ BelowE b w w'

theorem lineS (p : Nat) (e : Int) (w0 w : World) (h : Scan b d cap l L N E p e w) (hB : Below b w0 w) :
    Calls Tryf.prog 27 #[.pointer (some ⟨b, 0, none⟩)] w.drew fun r w' => (∃ x : Int, r = .returned (.int .i64 x)) ∧ Scan b d cap l L N E p e w' ∧ Below b w0 w' := by
  have h' : Scan b d cap l L N E p e w.drew := h.drewN 1
  refine (line_any p e w.drew h').mono ?_
  rintro r w' ⟨hx, hb⟩
  exact ⟨hx, h'.below hb, (below_drewN hB 1).trans (hb.mono (Nat.le_of_lt h'.bh))⟩

theorem errS (F : Interp) (f : ByteArray) (hfr : ∀ w : World, (FmtDoors.printed f 2).run Tryf.prog w = .ok [(0, 100, false), (1, 100, false)] w) (t : TypeId)
    (x y : Int) (p : Nat) (e : Int) (w0 w : World) (hF : F.answers w0.tape) (hB : Below b w0 w) (hs : Scan b d cap l L N E p e w) :
    Calls Tryf.prog 26 #[.string f, .slice (some ⟨w.heap.size, 0, none⟩) 2 2] (w.alloc (.cells #[.iface 3 (.int .i64 x), .iface 3 (.int .i64 y)] t)) (ErrS b w0) := by
  have bh := hs.bh
  have hB' := hB.alloc (Nat.le_of_lt bh) (.cells #[.iface 3 (.int .i64 x), .iface 3 (.int .i64 y)] t)
  refine (errorf_any F f hfr w.heap.size x y _ (by rw [hB'.tape]; exact hF) (by go_simp) (by go_simp)).mono ?_
  rintro r w' ⟨ha, hb⟩
  have hs2 := (hs.below ((Below.refl _ _).alloc (Nat.le_refl _) _)).below hb
  exact ⟨ha, hB'.trans (hb.mono (by simp; omega)), p, e, hs2.h1, hs2.h5⟩

theorem Scan.count {p : Nat} {e : Int} {w w0 : World} (h : Scan b d cap l L N E p e w) (hB : Below b w0 w) (e' : Int) :
    Scan b d cap l L N E p e' (w.setCell ⟨b, 5, none⟩ (.int .i64 e')) ∧ Below b w0 (w.setCell ⟨b, 5, none⟩ (.int .i64 e')) := ⟨h.ent e', hB.setCell (Nat.le_refl _) _⟩

set_option maxHeartbeats 1000000 in
theorem check_lv (F : Interp) (p : Nat) (e0 m : Nat) (lv nm : Int) (w : World) (hF : F.answers w.tape) (h : Scan b d cap l L N E p e0 w) (he : e0 + m ≤ 4194304) (hl : L < lv) :
    Calls Tryf.prog 21 #[.pointer (some ⟨b, 0, none⟩), .int .i64 lv, .int .i64 nm, .int .i64 m] w (ErrS b w) := by
  have HS := hide h
  have a5 := h.h5
  have f5 := h.f5
  have a2 := h.h2
  have bh := h.bh
  clear h
  go_enter Tryf.func21, Tryf.ntmps21
  go_wp2_with fail
  obtain ⟨hs1, hB1⟩ := (unhide HS).count (Below.refl b w) ((e0 : Int) + m)
  have hF1 : F.answers w.tape := hF
  clear a5 f5 a2 bh HS
  generalize w.setCell ⟨b, 5, none⟩ (.int .i64 ((e0 : Int) + m)) = w1 at hs1 hB1
  have HS := hide hs1
  have HB := hide hB1
  have HF := hide hF1
  have a2 := hs1.h2
  have bh := hs1.bh
  clear hs1 hB1 hF1 hF
  go_region_with (first
    | (go_at_call 27; refine (lineS p _ w w1 (unhide HS) (unhide HB)).mono ?_; rintro r w' ⟨⟨x, rfl⟩, hs', hb'⟩; have c2 := hs'.h2; have HSS := hide hs'; have HB' := hide hb'; clear hs' hb')
    | (go_at_call 26; refine (errS F fm0 fmt0r _ x _ _ _ w w' (unhide HF) (unhide HB') (unhide HSS)).mono ?_; rintro r2 w2 ⟨⟨a, rfl⟩, hb2⟩; have HB2 := hide hb2; clear hb2))
  all_goals
    go_wp2_with fail
    go_ret
    exact ⟨⟨_, rfl⟩, unhide HB2⟩
set_option maxHeartbeats 1000000 in
theorem check_nm (F : Interp) (p : Nat) (e0 m : Nat) (lv nm : Int) (w : World) (hF : F.answers w.tape) (h : Scan b d cap l L N E p e0 w) (he : e0 + m ≤ 4194304) (hl : lv ≤ L) (hn : N < nm) :
    Calls Tryf.prog 21 #[.pointer (some ⟨b, 0, none⟩), .int .i64 lv, .int .i64 nm, .int .i64 m] w (ErrS b w) := by
  have HS := hide h
  have a5 := h.h5
  have f5 := h.f5
  have a2 := h.h2
  have a3 := h.h3
  have bh := h.bh
  clear h
  go_enter Tryf.func21, Tryf.ntmps21
  go_wp2_with fail
  obtain ⟨hs1, hB1⟩ := (unhide HS).count (Below.refl b w) ((e0 : Int) + m)
  have hF1 : F.answers w.tape := hF
  clear a5 f5 a2 a3 bh HS
  generalize w.setCell ⟨b, 5, none⟩ (.int .i64 ((e0 : Int) + m)) = w1 at hs1 hB1
  have HS := hide hs1
  have HB := hide hB1
  have HF := hide hF1
  have a3 := hs1.h3
  have bh := hs1.bh
  clear hs1 hB1 hF1 hF
  go_region_with (first
    | (go_at_call 27; refine (lineS p _ w w1 (unhide HS) (unhide HB)).mono ?_; rintro r w' ⟨⟨x, rfl⟩, hs', hb'⟩; have c3 := hs'.h3; have HSS := hide hs'; have HB' := hide hb'; clear hs' hb')
    | (go_at_call 26; refine (errS F fm1 fmt1r _ x _ _ _ w w' (unhide HF) (unhide HB') (unhide HSS)).mono ?_; rintro r2 w2 ⟨⟨a, rfl⟩, hb2⟩; have HB2 := hide hb2; clear hb2))
  all_goals
    go_wp2_with fail
    go_ret
    exact ⟨⟨_, rfl⟩, unhide HB2⟩
set_option maxHeartbeats 1000000 in
theorem check_en (F : Interp) (p : Nat) (e0 m : Nat) (lv nm : Int) (w : World) (hF : F.answers w.tape) (h : Scan b d cap l L N E p e0 w) (he : e0 + m ≤ 4194304) (hl : lv ≤ L) (hn : nm ≤ N) (hE : E < (e0 : Int) + m) :
    Calls Tryf.prog 21 #[.pointer (some ⟨b, 0, none⟩), .int .i64 lv, .int .i64 nm, .int .i64 m] w (ErrS b w) := by
  have HF := hide hF
  clear hF
  have HS := hide h
  have a5 := h.h5
  have f5 := h.f5
  have a2 := h.h2
  have a3 := h.h3
  have bh := h.bh
  clear h
  go_enter Tryf.func21, Tryf.ntmps21
  go_wp2_with fail
  obtain ⟨hs1, hB1⟩ := (unhide HS).count (Below.refl b w) ((e0 : Int) + m)
  clear a5 f5 a2 a3 bh HS
  generalize w.setCell ⟨b, 5, none⟩ (.int .i64 ((e0 : Int) + m)) = w1 at hs1 hB1
  have HS := hide hs1
  have HB := hide hB1
  have a4 := hs1.h4
  have a5 := hs1.h5
  have bh := hs1.bh
  clear hs1 hB1
  have d1 : decide (E < (e0 : Int) + m) = true := decide_eq_true hE
  go_quiet (fail)
  go_wp2_with fail
  have HS3 := hide ((unhide HS).drewN nq)
  have HB3 := hide (below_drewN (unhide HB) nq)
  clear HS HB a4 a5
  generalize w1.drewN nq = w3 at HS3 HB3
  have HS := HS3
  have HB := HB3
  have a4 := (unhide HS3).h4
  clear HS3 HB3
  go_region_with (first
    | (go_at_call 27; refine (lineS p _ w w3 (unhide HS) (unhide HB)).mono ?_; rintro r w' ⟨⟨x, rfl⟩, hs', hb'⟩; have c4 := hs'.h4; have HSS := hide hs'; have HB' := hide hb'; clear hs' hb')
    | (go_at_call 26; refine (errS F fm2 fmt2r _ x _ _ _ w w' (unhide HF) (unhide HB') (unhide HSS)).mono ?_; rintro r2 w2 ⟨⟨a, rfl⟩, hb2⟩; have HB2 := hide hb2; clear hb2))
  all_goals
    go_wp2_with fail
    go_ret
    exact ⟨⟨_, rfl⟩, unhide HB2⟩

/-- within the limits -/
theorem check_ok (p : Nat) (e0 m : Nat) (lv nm : Int) (w : World) (h : Scan b d cap l L N E p e0 w) (he : e0 + m ≤ 4194304) (hl : lv ≤ L) (hn : nm ≤ N) (hE : (e0 : Int) + m ≤ E) :
    Calls Tryf.prog 21 #[.pointer (some ⟨b, 0, none⟩), .int .i64 lv, .int .i64 nm, .int .i64 m] w (Ends b d cap l L N E .nilIface p ((e0 + m : Nat) : Int) w) := by
  have HS := hide h
  have a5 := h.h5
  have f5 := h.f5
  have a2 := h.h2
  have a3 := h.h3
  have bh := h.bh
  clear h
  go_enter Tryf.func21, Tryf.ntmps21
  go_wp2_with fail
  obtain ⟨hs1, hB1⟩ := (unhide HS).count (Below.refl b w) ((e0 : Int) + m)
  clear a5 f5 a2 a3 bh HS
  generalize w.setCell ⟨b, 5, none⟩ (.int .i64 ((e0 : Int) + m)) = w1 at hs1 hB1
  have HS := hide hs1
  have HB := hide hB1
  have a4 := hs1.h4
  have a5 := hs1.h5
  have bh := hs1.bh
  clear hs1 hB1
  have d1 : decide (E < (e0 : Int) + m) = false := decide_eq_false (by omega)
  go_quiet (fail)
  go_wp2_with fail
  go_ret
  exact ⟨rfl, (unhide HS).drewN _, below_drewN (unhide HB) _⟩
end Go.Proofs.Qxb6604368aFmt
