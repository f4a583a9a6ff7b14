/- ZZdocument (7) over a text of the law's shape. -/
import Derived.Test.Qxb6604368aFmtShape
namespace Go.Proofs.Qxb6604368aFmt
open Go.RowKit Go.Extern.Stop Go.Stop Go.Extern
variable {b d cap : Nat} {l : List UInt8} {L N E : Int}

theorem doc_ok {lev full ent : Nat} (hS : Shape l lev full ent) (w : World) (h : Scan b d cap l L N E 0 0 w) (hL : (lev : Int) ≤ L) (hN : (full : Int) ≤ N) (hE : (ent : Int) ≤ E) :
    Calls Tryf.prog 11 #[.pointer (some ⟨b, 0, none⟩)] w (Ends b d cap l L N E .nilIface l.length (ent : Int) w) := by
  rcases hS with ⟨z, ht, rfl, rfl, rfl⟩ | ⟨z0, q, z, ht, rfl, rfl, hf, rfl⟩
  · have := docA_ok z w h ht (by rw [Nat.zero_add]; exact hL) hN (by rw [Nat.zero_add]; exact hE)
    rwa [Nat.zero_add] at this
  · exact docB_ok z0 q z _ _ w h ht rfl rfl (by omega) (by omega) (by omega) hL hN hE

theorem doc_past (F : Interp) {lev full ent : Nat} (hS : Shape l lev full ent) (w : World) (hF : F.answers w.tape) (h : Scan b d cap l L N E 0 0 w) (hP : Past L N E (lev : Int) (full : Int) (ent : Int)) :
    Calls Tryf.prog 11 #[.pointer (some ⟨b, 0, none⟩)] w (ErrS b w) := by
  rcases hS with ⟨z, ht, rfl, rfl, rfl⟩ | ⟨z0, q, z, ht, rfl, rfl, hf, rfl⟩
  · exact docA_past F z w hF h ht (by rw [Nat.zero_add, show ((0 : Nat) : Int) + ((dots l 0 (z - 0) + 2 : Nat) : Int) = ((dots l 0 (z - 0) + 2 : Nat) : Int) by omega]; exact hP)
  · by_cases h1 : ((dots l (0 + 1) (z0 - (0 + 1)) + 1 : Nat) : Int) ≤ L
    · by_cases h2 : ((z0 - (0 + 1) : Nat) : Int) ≤ N
      · by_cases h3 : ((0 + (dots l (0 + 1) (z0 - (0 + 1)) + 1) : Nat) : Int) ≤ E
        · exact docB_past2 F z0 q z _ _ w hF h ht rfl rfl h1 h2 h3 (by rw [show ((dots l (0 + 1) (z0 - (0 + 1)) + 1 : Nat) : Int) + ((dots l q (z - q) + 2 : Nat) : Int) = ((dots l (0 + 1) (z0 - (0 + 1)) + 1 + (dots l q (z - q) + 2) : Nat) : Int) by omega]; exact hP)
        · exact docB_past1 F z0 q z _ _ w hF h ht rfl rfl (.inr (.inr (by omega)))
      · exact docB_past1 F z0 q z _ _ w hF h ht rfl rfl (.inr (.inl (by omega)))
    · exact docB_past1 F z0 q z _ _ w hF h ht rfl rfl (.inl (by omega))

/-- the text in memory -/
structure Dat (d cap : Nat) (l : List UInt8) (w : World) : Prop where
  dat : ∀ i, i < l.length → w.cell? ⟨d, i, none⟩ = some (.int .u8 (byt l i))
  dh : d < w.heap.size
  ln : l.length ≤ 1048576
  lc : l.length ≤ cap

theorem Dat.below {w w' : World} (h : Dat d cap l w) (hb : Below w.heap.size w w') : Dat d cap l w' :=
  ⟨fun i hi => by rw [hb.cell h.dh]; exact h.dat i hi, Nat.lt_of_lt_of_le h.dh hb.size, h.ln, h.lc⟩

abbrev boxObj (d n cap : Nat) (L N E : Int) : Obj := .cells #[.slice (some ⟨d, 0, none⟩) n cap, .int .i64 0, .int .i64 L, .int .i64 N, .int .i64 E, .int .i64 0] 36

theorem scan_new {w : World} (h : Dat d cap l w) (L N E : Int) : Scan w.heap.size d cap l L N E 0 0 (w.alloc (boxObj d l.length cap L N E)) := by
  have hb := (Below.refl w.heap.size w).alloc (Nat.le_refl _) (boxObj d l.length cap L N E)
  refine ⟨?_, ?_, ?_, ?_, ?_, ?_, ?_, ?_, fun i hi => by rw [hb.cell h.dh]; exact h.dat i hi, h.dh, by simp, h.ln, Nat.zero_le _, h.lc⟩
  all_goals go_simp
  all_goals first | rfl | done

def ZOk (n : Nat) (C : Int) (w : World) (r : Ending) (w' : World) : Prop := r = .returned (.tuple #[.int .i64 n, .int .i64 C, .nilIface]) ∧ Below w.heap.size w w'
def ZErr (w : World) (r : Ending) (w' : World) : Prop := (∃ (x y : Int) (a : Addr), r = .returned (.tuple #[.int .i64 x, .int .i64 y, .iface 56 (.pointer (some a))])) ∧ Below w.heap.size w w'

set_option maxHeartbeats 1000000 in
theorem zz_ok {lev full ent : Nat} (hS : Shape l lev full ent) (w : World) (h : Dat d cap l w) (L N E : Int) (hL : (lev : Int) ≤ L) (hN : (full : Int) ≤ N) (hE : (ent : Int) ≤ E) :
    Calls Tryf.prog 7 #[.slice (some ⟨d, 0, none⟩) l.length cap, .int .i64 L, .int .i64 N, .int .i64 E] w (ZOk l.length ent w) := by
  have HH := hide h
  have HS := hide hS
  have HL := hide hL
  have HN := hide hN
  have HE := hide hE
  clear h hS hL hN hE
  go_enter Tryf.func7, Tryf.ntmps7
  go_wp2_with fail
  have hsc := scan_new (unhide HH) L N E
  have hb := (Below.refl w.heap.size w).alloc (Nat.le_refl _) (boxObj d l.length cap L N E)
  generalize w.alloc (boxObj d l.length cap L N E) = w1 at hsc hb
  refine (doc_ok (unhide HS) w1 hsc (unhide HL) (unhide HN) (unhide HE)).mono ?_
  rintro r w2 ⟨rfl, hs2, hB2⟩
  have HB2 := hide (hb.trans hB2)
  have a1 := hs2.h1
  have a5 := hs2.h5
  clear hsc hb hs2 hB2
  go_wp2_with fail
  go_quiet (fail)
  go_wp2_with fail
  go_ret3
  exact ⟨rfl, below_drewN (unhide HB2) _⟩

set_option maxHeartbeats 1000000 in
theorem zz_past (F : Interp) {lev full ent : Nat} (hS : Shape l lev full ent) (w : World) (hF : F.answers w.tape) (h : Dat d cap l w) (L N E : Int) (hP : Past L N E (lev : Int) (full : Int) (ent : Int)) :
    Calls Tryf.prog 7 #[.slice (some ⟨d, 0, none⟩) l.length cap, .int .i64 L, .int .i64 N, .int .i64 E] w (ZErr w) := by
  have HH := hide h
  have HS := hide hS
  have HP := hide hP
  have HF := hide hF
  clear h hS hP hF
  go_enter Tryf.func7, Tryf.ntmps7
  go_wp2_with fail
  have hsc := scan_new (unhide HH) L N E
  have hb := (Below.refl w.heap.size w).alloc (Nat.le_refl _) (boxObj d l.length cap L N E)
  generalize w.alloc (boxObj d l.length cap L N E) = w1 at hsc hb
  refine (doc_past F (unhide HS) w1 (by rw [hb.tape]; exact unhide HF) hsc (unhide HP)).mono ?_
  rintro r w2 ⟨⟨a, rfl⟩, hB2, x, y, a1, a5⟩
  have HB2 := hide (hb.trans hB2)
  clear hsc hb hB2
  go_wp2_with fail
  go_quiet (fail)
  go_wp2_with fail
  go_ret3
  exact ⟨⟨_, _, _, rfl⟩, below_drewN (unhide HB2) _⟩
end Go.Proofs.Qxb6604368aFmt
