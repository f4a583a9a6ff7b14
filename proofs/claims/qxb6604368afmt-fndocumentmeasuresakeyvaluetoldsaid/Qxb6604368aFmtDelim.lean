/- isTOMLDelimiter (25), joinLength (22), skipScalar (30). -/
import Derived.Test.Qxb6604368aFmtSkip
namespace Go.Proofs.Qxb6604368aFmt
open Go.RowKit
variable {b d cap : Nat} {l : List UInt8} {L N E : Int}

def NoDelim (c : Int) : Prop := c ≠ 32 ∧ c ≠ 9 ∧ c ≠ 10 ∧ c ≠ 13 ∧ c ≠ 91 ∧ c ≠ 93 ∧ c ≠ 123 ∧ c ≠ 125 ∧ c ≠ 44 ∧ c ≠ 35 ∧ c ≠ 34 ∧ c ≠ 39

theorem delim_no (c : Int) (w : World) (h : NoDelim c) : Calls Tryf.prog 25 #[.int .u8 c] w fun e w' => e = .returned (.bool false) ∧ w' = w := by
  obtain ⟨h1, h2, h3, h4, h5, h6, h7, h8, h9, h10, h11, h12⟩ := h
  have m1 := ne_b h1
  have m2 := ne_b h2
  have m3 := ne_b h3
  have m4 := ne_b h4
  have m5 := ne_b h5
  have m6 := ne_b h6
  have m7 := ne_b h7
  have m8 := ne_b h8
  have m9 := ne_b h9
  have m10 := ne_b h10
  have m11 := ne_b h11
  have m12 := ne_b h12
  clear h1 h2 h3 h4 h5 h6 h7 h8 h9 h10 h11 h12
  go_enter Tryf.func25, Tryf.ntmps25
  go_wp2
  go_ret
  exact ⟨rfl, rfl⟩

theorem delim_10 (w : World) : Calls Tryf.prog 25 #[.int .u8 10] w fun e w' => e = .returned (.bool true) ∧ w' = w := by
  go_enter Tryf.func25, Tryf.ntmps25
  go_wp2
  go_ret
  exact ⟨rfl, rfl⟩
theorem delim_32 (w : World) : Calls Tryf.prog 25 #[.int .u8 32] w fun e w' => e = .returned (.bool true) ∧ w' = w := by
  go_enter Tryf.func25, Tryf.ntmps25
  go_wp2
  go_ret
  exact ⟨rfl, rfl⟩
theorem delim_93 (w : World) : Calls Tryf.prog 25 #[.int .u8 93] w fun e w' => e = .returned (.bool true) ∧ w' = w := by
  go_enter Tryf.func25, Tryf.ntmps25
  go_wp2
  go_ret
  exact ⟨rfl, rfl⟩

/-- joinLength, in plain words -/
def join (a c : Nat) : Nat := if a = 0 ∨ c = 0 then a + c else a + 1 + c

theorem join_any (a c : Nat) (w : World) (ha : a ≤ 1048576) (hc : c ≤ 1048576) : Calls Tryf.prog 22 #[.int .i64 a, .int .i64 c] w fun e w' => e = .returned (.int .i64 (join a c)) ∧ w' = w := by
  by_cases h1 : a = 0
  · subst h1
    go_enter Tryf.func22, Tryf.ntmps22
    go_wp2
    go_ret
    exact ⟨by simp [join], rfl⟩
  · have m1 : ((a : Int) == 0) = false := ne_b (by omega)
    by_cases h2 : c = 0
    · subst h2
      go_enter Tryf.func22, Tryf.ntmps22
      go_wp2
      go_ret
      exact ⟨by simp [join], rfl⟩
    · have m2 : ((c : Int) == 0) = false := ne_b (by omega)
      have e : join a c = a + 1 + c := by simp [join, h1, h2]
      rw [e]
      clear e
      go_enter Tryf.func22, Tryf.ntmps22
      go_wp2
      go_ret
      exact ⟨by first | rfl | (congr 1; go_num) | (congr 2; omega), rfl⟩

set_option maxHeartbeats 1000000 in
theorem skipScalar_any (p p' : Nat) (e : Int) (w : World) (h : Scan b d cap l L N E p e w) (hp : p ≤ p') (hp' : p' < l.length) (hn : ∀ i, p ≤ i → i < p' → NoDelim (byt l i)) (he : byt l p' = 10) :
    Calls Tryf.prog 30 #[.pointer (some ⟨b, 0, none⟩)] w (Ends b d cap l L N E (.tuple #[]) p' e w) := by
  have HN := hide hn
  clear hn
  go_enter Tryf.func30, Tryf.ntmps30
  go_wp2_with fail
  go_loopw [25] (fun _ wr => ∃ q : Nat, p ≤ q ∧ q ≤ p' ∧ Scan b d cap l L N E q e wr ∧ Below b w wr) (fun _ wr => l.length - posOf b wr)
  case atStart => exact ⟨p, Nat.le_refl _, hp, h, Below.refl _ _⟩
  case round =>
    obtain ⟨q, hq, hq', hs, hB⟩ := hrel
    have HS := hide hs
    have a0 := hs.h0
    have a1 := hs.h1
    have b1 := hs.f1
    have cq := hs.dat q (by omega)
    have db := hs.db
    have ln := hs.ln
    have hlt : q < l.length := by omega
    have HB := hide hB
    clear hs hB h
    generalize hc : byt l q = c at cq
    by_cases hcq : q = p'
    · subst hcq
      have hc10 : c = 10 := by rw [← hc]; exact he
      subst hc10
      clear hc he
      go_wp2_with fail
      go_quiet ((go_at_call 25; exact Calls.quiet_of_same (delim_10 _)))
      go_wp2_with fail
      go_end0
      exact ⟨rfl, (unhide HS).drewN _, below_drewN (unhide HB) _⟩
    · have hd : Hid (NoDelim c) := by rw [← hc]; exact unhide HN q hq (by omega)
      clear hc he
      go_wp2_with fail
      go_quiet ((go_at_call 25; exact Calls.quiet_of_same (delim_no _ _ (unhide hd))))
      go_wp2_with fail
      go_roundw
      case rel =>
        exact ⟨q + 1, by omega, by omega, Scan.step (unhide HS) (unhide HB) _ (by go_num) (by omega) _⟩
      case measure =>
        rw [pos_step (unhide HS) (show q + 1 ≤ l.length by omega), pos_is (unhide HS)]
        · omega
        · go_num
end Go.Proofs.Qxb6604368aFmt
