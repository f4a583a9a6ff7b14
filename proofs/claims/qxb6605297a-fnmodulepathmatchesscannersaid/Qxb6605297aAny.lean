/- strings.IndexAny(s, ".[") at every string (the shelf has ASCII strings, and those of more than 8 bytes). -/
import Derived.Test.Qxb6605297aShelf
import Derived.Laws.RangeAny
import Derived.Lib.OthersKept
import Derived.Lib.IndexAny
import Derived.Lib.IndexBytes
import Derived.WalkSpells
import Derived.WalkLawsBesides
import Derived.Outline
import Derived.Deep.DeepFit
import Derived.Deep.QuietTactic
import Derived.BigQuiet
import Derived.OwnWalk
import Derived.WalkMore
namespace Go.Proofs.Qxb6605297a
open Go.RowKit

theorem hide {p : Prop} (h : p) : Hid p := h
theorem unhide {p : Prop} (h : Hid p) : p := h

/-- the string ".[" -/
def dotBr : ByteArray := ⟨#[46, 91]⟩

theorem enc2 (r : Int) (h0 : 128 ≤ r) (h1 : r < 2048) : (Utf8.encode r).size = 2 ∧ ∀ h : 1 < (Utf8.encode r).size, 128 ≤ ((Utf8.encode r)[1]'h).toNat := by
  have hv : Utf8.valid r = true := by simp [Utf8.valid]; omega
  have e : Utf8.encode r = ⟨#[UInt8.ofNat (0xC0 + r.toNat / 64), UInt8.ofNat (0x80 + r.toNat % 64)]⟩ := by
    simp only [Utf8.encode, hv, if_true]
    rw [if_neg (by omega), if_pos (by omega)]
  refine ⟨by rw [e]; rfl, fun h => ?_⟩
  simp only [e]
  show 128 ≤ (UInt8.ofNat (0x80 + r.toNat % 64)).toNat
  rw [UInt8.toNat_ofNat']
  omega

theorem enc3 (r : Int) (h0 : 2048 ≤ r) : 3 ≤ (Utf8.encode r).size ∧ (Utf8.encode r).size ≤ 4 := by
  by_cases hv : Utf8.valid r = true
  · simp only [Utf8.encode, hv, if_true]
    rw [if_neg (by omega), if_neg (by omega)]
    split
    · exact ⟨Nat.le_refl 3, Nat.le_succ 3⟩
    · exact ⟨Nat.le_succ 3, Nat.le_refl 4⟩
  · simp only [Utf8.encode, hv, Utf8.runeError]
    simp [ByteArray.size]

theorem ib_empty (s : ByteArray) (c : Int) (w : World) (h : s.size = 0) :
    Calls Try.prog 25 #[.string s, .int .u8 c] w fun e w' => e = .returned (.int .i64 (-1)) ∧ w' = w := by
  have e : s.data.toList = [] := List.eq_nil_of_length_eq_zero (by simpa using h)
  have := Try.strings_IndexByte s c w
  rw [e] at this
  exact this

set_option maxHeartbeats 1000000 in
set_option maxRecDepth 100000 in
theorem rune_high (r : Int) (w : World) (h0 : 128 ≤ r) (h1 : r ≤ 2147483647) :
    Calls Try.prog 19 #[.string dotBr, .int .i32 r] w fun e w' => e = .returned (.int .i64 (-1)) ∧ Below w.heap.size w w' := by
  unfold dotBr
  by_cases hE : r = 65533
  · subst hE
    go_enter Try.func19, Try.ntmps19
    go_wp2_with fail
    have n0 := fun ty => run_next_ascii (P := Try.prog) w ⟨#[46, 91]⟩ 0 ty (by decide) (by decide)
    have n1 := fun ty => run_next_ascii (P := Try.prog) w ⟨#[46, 91]⟩ 1 ty (by decide) (by decide)
    have n2 := fun ty => run_next_end (P := Try.prog) w ⟨#[46, 91]⟩ 2 ty (by decide)
    refine wp_loop_rounds 3 ?_
    rw [rounds_succ]
    go_wp2
    rw [rounds_succ]
    go_wp2
    rw [rounds_succ]
    go_wp2
    go_ret
    exact ⟨rfl, (Below.refl _ _).alloc (Nat.le_refl _) _⟩
  · have hE' : (r == 65533) = false := by rw [beq_eq_false_iff_ne]; exact hE
    have hd : decide (r < 128) = false := decide_eq_false (by omega)
    cases hv : Lib.validRune r
    · go_enter Try.func19, Try.ntmps19
      go_wp2_with (go_at_call 26; refine (Try.utf8_ValidRune _ _).mono ?_; rintro e w' ⟨rfl, rfl⟩; rw [hv])
      go_ret
      exact ⟨rfl, Below.refl _ _⟩
    · by_cases h2 : r < 2048
      · obtain ⟨e1, e2⟩ := enc2 r h0 h2
        have e3 := e2 (by omega)
        go_enter Try.func19, Try.ntmps19
        go_wp2_with (go_at_call 26; refine (Try.utf8_ValidRune _ _).mono ?_; rintro e w' ⟨rfl, rfl⟩; rw [hv])
        go_step3
        go_wp2_with fail
        refine wp_loop_rounds 1 ?_
        rw [rounds_succ]
        go_wp2_with fail
        go_step3
        go_wp2_with fail
        have hq : ((((⟨#[46, 91]⟩ : ByteArray)[1]'(by decide)).toNat : Int) != (((Utf8.encode r)[1]'(by omega)).toNat : Int)) = true := by
          rw [bne_iff_ne]; show ((91 : Nat) : Int) ≠ _; omega
        go_quiet (fail)
        go_wp2_with fail
        have HB : Below w'.heap.size w' (w'.drewN nq) := ⟨rfl, rfl, rfl, Nat.le_refl _, fun _ _ => rfl⟩
        generalize w'.drewN nq = wq at HB ⊢
        go_quiet ((go_at_call 25; exact Calls.quiet_of_same (ib_empty _ _ _ (by decide))))
        go_wp2_with fail
        rw [Exit.noGoto_ret]
        go_wp2_with fail
        rw [Exit.noGoto_ret]
        go_ret
        exact ⟨rfl, HB.trans ⟨rfl, rfl, rfl, Nat.le_refl _, fun _ _ => rfl⟩⟩
      · obtain ⟨e1, e2⟩ := enc3 r (by omega)
        go_enter Try.func19, Try.ntmps19
        go_wp2_with (go_at_call 26; refine (Try.utf8_ValidRune _ _).mono ?_; rintro e w' ⟨rfl, rfl⟩; rw [hv])
        go_step3
        go_wp2_with fail
        refine wp_loop_rounds 1 ?_
        rw [rounds_succ]
        go_wp2_with fail
        rw [Exit.noGoto_ret]
        go_ret
        exact ⟨rfl, Below.refl _ _⟩
end Go.Proofs.Qxb6605297a
