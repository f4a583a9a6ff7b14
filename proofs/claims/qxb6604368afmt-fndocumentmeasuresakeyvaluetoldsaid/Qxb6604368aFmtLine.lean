/- line (27). -/
import Derived.Test.Qxb6604368aFmtFmt
import Derived.Test.Qxb6604368aFmtShelf
import Derived.Test.Qxb6604368aFmtSkip
import Derived.Deep.RegionWith
import Derived.Lib.SlBytesConst
namespace Go.Proofs.Qxb6604368aFmt
open Go.RowKit Go.Extern.Stop Go.Stop Go.Extern
variable {b d cap : Nat} {l : List UInt8} {L N E : Int}

/-- what line answers: some int -/
def Int1 (w : World) (r : Ending) (w' : World) : Prop := (∃ x : Int, r = .returned (.int .i64 x)) ∧ Below w.heap.size w w'

theorem count_any (p : Nat) (e : Int) (w : World) (h : Scan b d cap l L N E p e w) (w2 : World) (hc : Below w.heap.size w w2) (s : Nat) (h10 : w2.cell? ⟨s, 0, none⟩ = some (.int .u8 10)) (c1 c2 : Nat) :
    Calls Tryf.prog 33 #[.slice (some ⟨d, 0, none⟩) p c1, .slice (some ⟨s, 0, none⟩) 1 c2] w2 fun r w' => (∃ x : Int, r = .returned (.int .i64 x)) ∧ w' = w2 := by
  have hb := h.below hc
  refine (Tryf.bytes_Count_one d 0 p c1 s 0 c2 ((List.range p).map (byt l)) 10 w2 (by simp) (fun i hi => ?_) h10).mono ?_
  · rw [Nat.zero_add, hb.dat i (by have := h.le; omega)]
    simp [List.getD, List.getElem?_map, List.getElem?_range hi]
  · rintro r w' ⟨rfl, rfl⟩
    exact ⟨⟨_, rfl⟩, rfl⟩

abbrev nlObj : Obj := .cells #[.int .u8 10] 5 (1, 2)

theorem conv22 (w : World) : (convert 22 22 (.slice (some ⟨w.heap.size, 0, none⟩) 1 1)).run Tryf.prog (w.alloc (.cells #[.int .u8 10] 5)).drew = .ok (.slice (some ⟨w.heap.size, 0, none⟩) 1 1) (w.alloc nlObj).drew :=
  Lib.run_convert_bytes_const (P := Tryf.prog) w.drew 22 5 #[.int .u8 10] 1 1 Tryf.underlying22 Tryf.underlying5

theorem count_at (p : Nat) (e : Int) (w : World) (h : Scan b d cap l L N E p e w) :
    Calls Tryf.prog 33 #[.slice (some ⟨d, 0, none⟩) p cap, .slice (some ⟨w.heap.size, 0, none⟩) 1 1] (w.alloc nlObj).drew fun r w' => (∃ x : Int, r = .returned (.int .i64 x)) ∧ w' = (w.alloc nlObj).drew :=
  count_any p e w h _ (((Below.refl _ _).alloc (Nat.le_refl _) _).drew) w.heap.size (World.cell?_alloc_mark w #[.int .u8 10] 5 (1, 2) 0) cap 1

set_option maxHeartbeats 1000000 in
theorem line_any (p : Nat) (e : Int) (w : World) (h : Scan b d cap l L N E p e w) :
    Calls Tryf.prog 27 #[.pointer (some ⟨b, 0, none⟩)] w (Int1 w) := by
  have HS := hide h
  have a0 := h.h0
  have a1 := h.h1
  have db := h.db
  have bh := h.bh
  have ln := h.ln
  have le : p ≤ cap := Nat.le_trans h.le h.lc
  clear h
  have hcv := conv22 w
  go_enter Tryf.func27, Tryf.ntmps27
  go_wp2_with fail
  go_region_with (go_at_call 33; refine (count_at p e w (unhide HS)).mono ?_; rintro r w' ⟨⟨x, rfl⟩, rfl⟩)
  all_goals
    go_wp2_with fail
    go_ret
    exact ⟨⟨_, rfl⟩, ((Below.refl _ _).alloc (Nat.le_refl _) _).drew⟩
end Go.Proofs.Qxb6604368aFmt
