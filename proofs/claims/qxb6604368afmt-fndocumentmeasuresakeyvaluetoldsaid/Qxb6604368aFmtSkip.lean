/- skipLine (17), skipBlank (14). -/
import Derived.Test.Qxb6604368aFmtScan
namespace Go.Proofs.Qxb6604368aFmt
open Go.RowKit
variable {b d cap : Nat} {l : List UInt8} {L N E : Int}

theorem pos_is {p : Nat} {e : Int} {w : World} (h : Scan b d cap l L N E p e w) : posOf b w = p := by
  unfold posOf; rw [h.h1]; rfl

theorem ne_b {c k : Int} (h : c ≠ k) : (c == k) = false := by rw [beq_eq_false_iff_ne]; exact h

theorem Scan.step {p p' : Nat} {e : Int} {w w0 : World} (h : Scan b d cap l L N E p e w) (hB : Below b w0 w) (x : Int) (hx : x = (p' : Int)) (hp : p' ≤ l.length) (n : Nat) :
    Scan b d cap l L N E p' e ((w.drewN n).setCell ⟨b, 1, none⟩ (.int .i64 x)) ∧ Below b w0 ((w.drewN n).setCell ⟨b, 1, none⟩ (.int .i64 x)) := by
  subst hx
  exact ⟨(h.drewN n).pos p' hp, (below_drewN hB n).setCell (Nat.le_refl _) _⟩

theorem pos_step {p p' : Nat} {e x : Int} {w : World} {n : Nat} (h : Scan b d cap l L N E p e w) (hp : p' ≤ l.length) (hx : x = (p' : Int)) : posOf b ((w.drewN n).setCell ⟨b, 1, none⟩ (.int .i64 x)) = p' :=
  pos_is (Scan.step h (Below.refl b w) x hx hp n).1

set_option maxHeartbeats 1000000 in
theorem skipLine_any (p p' : Nat) (e : Int) (w : World) (h : Scan b d cap l L N E p e w) (hp : p ≤ p') (hp' : p' < l.length) (hn : ∀ i, p ≤ i → i < p' → byt l i ≠ 10 ∧ byt l i ≠ 13) (he : byt l p' = 10) :
    Calls Tryf.prog 17 #[.pointer (some ⟨b, 0, none⟩)] w (Ends b d cap l L N E (.tuple #[]) (p' + 1) e w) := by
  have HN := hide hn
  clear hn
  go_enter Tryf.func17, Tryf.ntmps17
  go_wp2_with fail
  go_loopw [2] (fun _ wr => ∃ q : Nat, p ≤ q ∧ q ≤ p' ∧ Scan b d cap l L N E q e wr ∧ Below b w wr) (fun _ wr => l.length - posOf b wr)
  case atStart => exact ⟨p, Nat.le_refl _, hp, h, Below.refl _ _⟩
  case round =>
    obtain ⟨q, hq, hq', hs, hB⟩ := hrel
    have HS := hide hs
    have a0 := hs.h0
    have a1 := hs.h1
    have b1 := hs.f1
    have cq := hs.dat q (by omega)
    have db := hs.db
    have ln := hs.ln
    have hlt : q < l.length := by omega
    have HB := hide hB
    clear hs hB h
    generalize hc : byt l q = c at cq
    by_cases hcq : q = p'
    · subst hcq
      have hc10 : c = 10 := by rw [← hc]; exact he
      subst hc10
      clear hc he
      go_wp2_with fail
      go_quiet (fail)
      go_wp2_with fail
      go_quiet (fail)
      go_wp2_with fail
      go_end0
      refine ⟨rfl, ?_⟩
      exact Scan.step (unhide HS) (unhide HB) _ (by go_num) (by omega) _
    · have h10 : (c == 10) = false := ne_b (by rw [← hc]; exact (unhide HN q hq (by omega)).1)
      have h13 : (c == 13) = false := ne_b (by rw [← hc]; exact (unhide HN q hq (by omega)).2)
      clear hc he
      go_wp2_with fail
      go_quiet (fail)
      go_wp2_with fail
      go_quiet (fail)
      go_wp2_with fail
      go_roundw
      case rel =>
        exact ⟨q + 1, by omega, by omega, Scan.step (unhide HS) (unhide HB) _ (by go_num) (by omega) _⟩
      case measure =>
        rw [pos_step (unhide HS) (show q + 1 ≤ l.length by omega), pos_is (unhide HS)]
        · omega
        · go_num

/-- neither a blank, a line break nor a comment's start -/
def Plain (c : Int) : Prop := c ≠ 32 ∧ c ≠ 9 ∧ c ≠ 10 ∧ c ≠ 13 ∧ c ≠ 35

set_option maxHeartbeats 1000000 in
theorem skipBlank_any (nl : Bool) (p p' : Nat) (e : Int) (w : World) (h : Scan b d cap l L N E p e w) (hp : p ≤ p') (hp' : p' ≤ l.length) (hn : ∀ i, p ≤ i → i < p' → byt l i = 32) (he : p' < l.length → Plain (byt l p')) :
    Calls Tryf.prog 14 #[.pointer (some ⟨b, 0, none⟩), .bool nl] w (Ends b d cap l L N E (.tuple #[]) p' e w) := by
  have HN := hide hn
  have HE := hide he
  clear hn he
  go_enter Tryf.func14, Tryf.ntmps14
  go_wp2_with fail
  go_loopw [24] (fun _ wr => ∃ q : Nat, p ≤ q ∧ q ≤ p' ∧ Scan b d cap l L N E q e wr ∧ Below b w wr) (fun _ wr => l.length - posOf b wr)
  case atStart => exact ⟨p, Nat.le_refl _, hp, h, Below.refl _ _⟩
  case round =>
    obtain ⟨q, hq, hq', hs, hB⟩ := hrel
    have HS := hide hs
    have a0 := hs.h0
    have a1 := hs.h1
    have b1 := hs.f1
    have HD := hide hs.dat
    have db := hs.db
    have ln := hs.ln
    have HB := hide hB
    clear hs hB h
    by_cases hcq : q = p'
    · subst hcq
      by_cases hlt : q < l.length
      · have cq := unhide HD q hlt
        obtain ⟨n1, n2, n3, n4, n5⟩ := unhide HE hlt
        generalize byt l q = c at cq n1 n2 n3 n4 n5
        have m1 := ne_b n1
        have m2 := ne_b n2
        have m3 := ne_b n3
        have m4 := ne_b n4
        have m5 := ne_b n5
        clear n1 n2 n3 n4 n5
        go_wp2_with fail
        go_quiet (fail)
        go_wp2_with fail
        go_quiet (fail)
        go_wp2_with fail
        go_end0
        exact ⟨rfl, (unhide HS).drewN _, below_drewN (unhide HB) _⟩
      · obtain rfl : q = l.length := by omega
        go_wp2_with fail
        go_quiet (fail)
        go_wp2_with fail
        go_end0
        exact ⟨rfl, (unhide HS).drewN _, below_drewN (unhide HB) _⟩
    · have hlt : q < l.length := by omega
      have cq := unhide HD q hlt
      rw [unhide HN q hq (by omega)] at cq
      go_wp2_with fail
      go_quiet (fail)
      go_wp2_with fail
      go_quiet (fail)
      go_wp2_with fail
      go_roundw
      case rel =>
        exact ⟨q + 1, by omega, by omega, Scan.step (unhide HS) (unhide HB) _ (by go_num) (by omega) _⟩
      case measure =>
        rw [pos_step (unhide HS) (show q + 1 ≤ l.length by omega), pos_is (unhide HS)]
        · omega
        · go_num

end Go.Proofs.Qxb6604368aFmt
