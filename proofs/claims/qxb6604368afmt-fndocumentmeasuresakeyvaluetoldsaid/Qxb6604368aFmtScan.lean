/- The scanner's state as a predicate on the world, and its small steps: skipLine (17), skipBlank (14), isTOMLDelimiter (25), skipScalar (30), joinLength (22). -/
import Derived.Test.Qxb6604368aFmtProg
import Derived.WalkKit
import Derived.RegionTactic
import Derived.Deep.Draws
import Derived.OwnWalk
import Derived.WalkSpells
import Derived.WalkLawsBesides
import Derived.Outline
import Derived.Deep.DeepFit
import Derived.Deep.QuietTactic
import Derived.BigQuiet
import Derived.Lib.Walk
import Derived.Lib.Strings
import Derived.Lib.Slices
import Derived.Lib.Bytealg
import Derived.Lib.IndexBytes
import Derived.Laws.BitsLemmas
namespace Go.Proofs.Qxb6604368aFmt
open Go.RowKit

theorem hide {p : Prop} (h : p) : Hid p := h
theorem unhide {p : Prop} (h : Hid p) : p := h

/-- byte i of the text, as the walk reads it -/
def byt (l : List UInt8) (i : Nat) : Int := ((l.getD i 0).toNat : Int)

structure Scan (b d cap : Nat) (l : List UInt8) (L N E : Int) (p : Nat) (e : Int) (w : World) : Prop where
  h0 : w.cell? ⟨b, 0, none⟩ = some (.slice (some ⟨d, 0, none⟩) l.length cap)
  h1 : w.cell? ⟨b, 1, none⟩ = some (.int .i64 p)
  h2 : w.cell? ⟨b, 2, none⟩ = some (.int .i64 L)
  h3 : w.cell? ⟨b, 3, none⟩ = some (.int .i64 N)
  h4 : w.cell? ⟨b, 4, none⟩ = some (.int .i64 E)
  h5 : w.cell? ⟨b, 5, none⟩ = some (.int .i64 e)
  f1 : w.frozen? ⟨b, 1, none⟩ = false
  f5 : w.frozen? ⟨b, 5, none⟩ = false
  dat : ∀ i, i < l.length → w.cell? ⟨d, i, none⟩ = some (.int .u8 (byt l i))
  db : d < b
  bh : b < w.heap.size
  ln : l.length ≤ 1048576
  le : p ≤ l.length
  lc : l.length ≤ cap

variable {b d cap : Nat} {l : List UInt8} {L N E : Int}

theorem Scan.below {p : Nat} {e : Int} {w w' : World} (h : Scan b d cap l L N E p e w) (hb : Below w.heap.size w w') : Scan b d cap l L N E p e w' := by
  have hc : ∀ a : Addr, a.block < w.heap.size → w'.cell? a = w.cell? a := fun a ha => hb.cell ha
  have hf : ∀ a : Addr, a.block < w.heap.size → w'.frozen? a = w.frozen? a := fun a ha => hb.frozen ha
  have bh := h.bh
  have db := h.db
  exact ⟨by rw [hc _ bh]; exact h.h0, by rw [hc _ bh]; exact h.h1, by rw [hc _ bh]; exact h.h2, by rw [hc _ bh]; exact h.h3, by rw [hc _ bh]; exact h.h4, by rw [hc _ bh]; exact h.h5,
    by rw [hf _ bh]; exact h.f1, by rw [hf _ bh]; exact h.f5, fun i hi => by rw [hc _ (show d < w.heap.size by omega)]; exact h.dat i hi, db, Nat.lt_of_lt_of_le bh hb.size, h.ln, h.le, h.lc⟩

theorem Scan.drewN {p : Nat} {e : Int} {w : World} (h : Scan b d cap l L N E p e w) (n : Nat) : Scan b d cap l L N E p e (w.drewN n) :=
  ⟨h.h0, h.h1, h.h2, h.h3, h.h4, h.h5, h.f1, h.f5, h.dat, h.db, h.bh, h.ln, h.le, h.lc⟩

theorem below_drewN {B : Nat} {a w : World} (h : Below B a w) (n : Nat) : Below B a (w.drewN n) := ⟨h.os, h.tape, h.output, h.size, h.block⟩

theorem Scan.pos {p : Nat} {e : Int} {w : World} (h : Scan b d cap l L N E p e w) (p' : Nat) (hp : p' ≤ l.length) : Scan b d cap l L N E p' e (w.setCell ⟨b, 1, none⟩ (.int .i64 p')) := by
  have db := h.db
  have bh := h.bh
  refine ⟨?_, ?_, ?_, ?_, ?_, ?_, ?_, ?_, ?_, db, ?_, h.ln, hp, h.lc⟩
  all_goals first | (intro i hi; have := h.dat i hi; go_simp) | skip
  all_goals have a0 := h.h0; have a1 := h.h1; have a2 := h.h2; have a3 := h.h3; have a4 := h.h4; have a5 := h.h5; have b1 := h.f1; have b5 := h.f5
  all_goals first | (simp [World.setCell]; done) | go_simp

theorem Scan.ent {p : Nat} {e : Int} {w : World} (h : Scan b d cap l L N E p e w) (e' : Int) : Scan b d cap l L N E p e' (w.setCell ⟨b, 5, none⟩ (.int .i64 e')) := by
  have db := h.db
  have bh := h.bh
  refine ⟨?_, ?_, ?_, ?_, ?_, ?_, ?_, ?_, ?_, db, ?_, h.ln, h.le, h.lc⟩
  all_goals first | (intro i hi; have := h.dat i hi; go_simp) | skip
  all_goals have a0 := h.h0; have a1 := h.h1; have a2 := h.h2; have a3 := h.h3; have a4 := h.h4; have a5 := h.h5; have b1 := h.f1; have b5 := h.f5
  all_goals first | (simp [World.setCell]; done) | go_simp

/-- it answers v; the scanner stands at p', has counted e'; below its block nothing has turned -/
def Ends (b d cap : Nat) (l : List UInt8) (L N E : Int) (v : Value) (p' : Nat) (e' : Int) (w : World) (r : Ending) (w' : World) : Prop :=
  r = .returned v ∧ Scan b d cap l L N E p' e' w' ∧ Below b w w'

def posOf (b : Nat) (w : World) : Nat := match w.cell? ⟨b, 1, none⟩ with | some v => (RowKit.intOf v).toNat | none => 0

end Go.Proofs.Qxb6604368aFmt
