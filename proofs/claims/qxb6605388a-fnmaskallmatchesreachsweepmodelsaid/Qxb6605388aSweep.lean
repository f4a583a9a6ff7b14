/- zzOccursAt (function 15) and zzMaskModel (function 9). -/
import Derived.Test.Qxb6605388aMask
import Derived.Test.Qxb6605388aSweepPlain
import Derived.Laws.BitsLemmas
namespace Go.Proofs.Qxb6605388a
open Go.RowKit

theorem Try.info3 : (Try.prog.info? 3).map (fun i => (i.zero, i.size, i.bytes)) = some (some (.int .i64 0), 1, 8) := by kernel_rfl

/-- it answers b; nothing turns but the count of draws -/
def RetBD (b : Bool) (w : World) (e : Ending) (w' : World) : Prop := e = .returned (.bool b) ∧ ∃ n, w' = w.drewN n

theorem occ_no {s x : ByteArray} {q i : Nat} (hr : q + x.size ≤ s.size) (hi : i < x.size) (hb : ((((s[q + i]'(by omega)).toNat : Int)) == (((x[i]).toNat : Int))) = false) : Lib.occAt (lst s) (lst x) q = false := by
  cases h : Lib.occAt (lst s) (lst x) q
  · rfl
  · have := (Mk.occ_iff (lst s) (lst x) q).1 h i (by rw [lst_len]; exact hi)
    rw [get?_lst s (q + i) (by omega), get?_lst x i hi] at this
    rw [beq_eq_false_iff_ne] at hb
    exact absurd (by rw [Option.some.inj this]) hb
theorem occ_yes {s x : ByteArray} {q : Nat} (h : ∀ j, j < x.size → (lst s)[q + j]? = (lst x)[j]?) : Lib.occAt (lst s) (lst x) q = true :=
  (Mk.occ_iff (lst s) (lst x) q).2 (by rw [lst_len]; exact h)

set_option maxHeartbeats 1000000 in
theorem occ_any (s x : ByteArray) (q : Nat) (w : World) (hs : s.size ≤ 1048576) (hr : q + x.size ≤ s.size) :
    Calls Try.prog 15 #[.string s, .int .i64 q, .string x] w (RetBD (Lib.occAt (lst s) (lst x) q) w) := by
  go_enter Try.func15, Try.ntmps15
  go_wp2_with fail
  go_loopw [7] (fun iv wr => ∃ (i n : Nat), iv = .int .i64 i ∧ i ≤ x.size ∧ Hid (∀ j, j < i → (lst s)[q + j]? = (lst x)[j]?) ∧ Hid (wr = w.drewN n)) (fun iv _ => x.size - (RowKit.intOf iv).toNat)
  case atStart => exact ⟨0, 0, rfl, Nat.zero_le _, fun _ h => absurd h (Nat.not_lt_zero _), rfl⟩
  case round =>
    obtain ⟨i, n, rfl, hi, hj, hw⟩ := hrel
    by_cases hlt : i < x.size
    · have b1 : (q : Int) + i < s.size := by omega
      have b0 : (0 : Int) ≤ (q : Int) + i := by omega
      have hwr : IntKind.i64.wrap ((q : Int) + (i : Int)) = (q : Int) + (i : Int) := by rw [IntKind.wrap_i64]; omega
      cases hb : ((((s[q + i]'(by omega)).toNat : Int)) == (((x[i]).toNat : Int)))
      · have HO := hide (occ_no hr hlt hb)
        go_wp2_with fail
        go_quiet (fail)
        go_wp2
        go_ret
        exact ⟨by rw [unhide HO]; rfl, _, by rw [hw.out]; exact World.drewN_drewN _ _ _⟩
      · have HJ : Hid (∀ j, j < i + 1 → (lst s)[q + j]? = (lst x)[j]?) := by
          intro j hj'
          by_cases e : j = i
          · subst e
            rw [get?_lst s (q + j) (by omega), get?_lst x j hlt]
            have := beq_iff_eq.1 hb
            exact congrArg some (u8_eq (by omega))
          · exact hj.out j (by omega)
        go_wp2_with fail
        go_quiet (fail)
        go_wp2
        go_roundw
        case rel => exact ⟨i + 1, _, by go_num, hlt, HJ, by rw [hw.out]; exact World.drewN_drewN _ _ _⟩
        case measure => simp [RowKit.intOf]; omega
    · obtain rfl : i = x.size := by omega
      have HO := hide (occ_yes hj.out)
      go_wp2
      go_ret
      exact ⟨by rw [unhide HO]; rfl, n, hw.out⟩

end Go.Proofs.Qxb6605388a
