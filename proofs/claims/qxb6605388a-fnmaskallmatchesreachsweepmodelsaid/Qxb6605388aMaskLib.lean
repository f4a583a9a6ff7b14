/- zzBytes of the two laws over maskAll, zzCloneStrings; how a slice of strings comes in. -/
import Derived.Test.Qxb6605388aMask
import Derived.SliceStrings
namespace Go.Proofs.Qxb6605388a
open Go.RowKit

theorem Try.info9 : (Try.prog.info? 9).map (fun i => (i.zero, i.size, i.bytes)) = some (some (.string ByteArray.empty), 1, 16) := by kernel_rfl

theorem strs_at {w : World} {a : Addr} {ss : List ByteArray} {m : Nat} (h : ∀ i, i < m → w.cell? (a.add i) = some (.string (ss.getD i ByteArray.empty))) (hp : 0 < m) :
    ∃ b off, a = ⟨b, off, none⟩ ∧ b < w.heap.size ∧ ∀ j, j < m → w.cell? ⟨b, off + j, none⟩ = some (.string (ss.getD j ByteArray.empty)) := by
  obtain ⟨b, off, spot⟩ := a
  have hspot : spot = none := by simpa [Addr.add] using World.cell?_spot (h 0 hp)
  subst hspot
  have hc : ∀ j, j < m → w.cell? ⟨b, off + j, none⟩ = some (.string (ss.getD j ByteArray.empty)) := fun j hj => by rw [← Go.WideShapes.add_plain]; exact h j hj
  exact ⟨b, off, rfl, World.block_lt_of_cell? w ⟨b, off + 0, none⟩ (hc 0 hp), hc⟩

/-- it answers a bool; nothing turns -/
def RetB (w : World) (e : Ending) (w' : World) : Prop := ∃ b : Bool, e = .returned (.bool b) ∧ w' = w
/-- it hands back a slice that holds ss -/
def RetS (m : Nat) (ss : List ByteArray) (w : World) (e : Ending) (w' : World) : Prop := ∃ (ao' : Option Addr) (cap' : Nat), e = .returned (.slice ao' m cap') ∧ Sec w' ao' m ss ∧ Below w.heap.size w w'

set_option maxHeartbeats 2000000 in
set_option maxRecDepth 100000 in
theorem bytes_10 (s : ByteArray) (ao : Option Addr) (m cap : Nat) (ss : List ByteArray) (w : World) (hs : s.size ≤ maxLen) (hm : m ≤ maxLen) (hsec : Sec w ao m ss) :
    Calls Try.prog 10 #[.string s, .slice ao m cap] w (RetB w) := by
  unfold maxLen at hs hm
  by_cases h1 : s.size ≤ 1048576
  · by_cases h2 : m ≤ 1048576
    · by_cases h3 : s.size + m ≤ 1048576
      · go_enter Try.func10, Try.ntmps10
        go_wp2_with fail
        go_loop [5, 6] (fun zv iv => ∃ (Z : Int) (i : Nat), zv = .int .i64 Z ∧ iv = .int .i64 i ∧ i ≤ m ∧ 0 ≤ Z ∧ Z ≤ 1048576) (fun _ iv => m - (RowKit.intOf iv).toNat)
        case atStart => exact ⟨_, 0, rfl, rfl, Nat.zero_le _, by omega, by omega⟩
        case round =>
          obtain ⟨Z, i, rfl, rfl, hi, hz0, hz1⟩ := hrel
          by_cases hlt : i < m
          · obtain ⟨b, o, hao, hbl, hcell⟩ := hsec.cells (by omega)
            have hck := hcell i hlt
            have HSEC := hide hsec
            subst hao
            clear hcell hsec
            generalize ss.getD i ByteArray.empty = x at hck
            by_cases hx : x.size ≤ 1048576
            · by_cases hz : Z + x.size ≤ 1048576
              · go_wp2
                go_round
                case rel => exact ⟨_, i + 1, rfl, by go_num, by omega, by omega, by omega⟩
                case measure => simp [RowKit.intOf]; omega
              · have hz' : 1048576 < Z + x.size := by omega
                go_wp2
                go_ret
                exact ⟨_, rfl, rfl⟩
            · have hx' : 1048576 < x.size := by omega
              go_wp2
              go_ret
              exact ⟨_, rfl, rfl⟩
          · clear hsec
            go_wp2
            go_ret
            exact ⟨_, rfl, rfl⟩
      · have h3' : 1048576 < s.size + m := by omega
        go_enter Try.func10, Try.ntmps10
        go_wp2
        go_ret
        exact ⟨_, rfl, rfl⟩
    · have h2' : 1048576 < m := by omega
      go_enter Try.func10, Try.ntmps10
      go_wp2
      go_ret
      exact ⟨_, rfl, rfl⟩
  · have h1' : 1048576 < s.size := by omega
    go_enter Try.func10, Try.ntmps10
    go_wp2
    go_ret
    exact ⟨_, rfl, rfl⟩

set_option maxHeartbeats 2000000 in
set_option maxRecDepth 100000 in
theorem bytes_6 (s : ByteArray) (ao : Option Addr) (m cap : Nat) (ss : List ByteArray) (w : World) (hs : s.size ≤ maxLen) (hm : m ≤ maxLen) (hsec : Sec w ao m ss) :
    Calls Try.prog 6 #[.string s, .slice ao m cap] w (RetB w) := by
  unfold maxLen at hs hm
  by_cases h1 : s.size ≤ 1048576
  · by_cases h2 : m ≤ 1048576
    · by_cases h3 : s.size + m ≤ 1048576
      · go_enter Try.func6, Try.ntmps6
        go_wp2_with fail
        go_loop [5, 6] (fun zv iv => ∃ (Z : Int) (i : Nat), zv = .int .i64 Z ∧ iv = .int .i64 i ∧ i ≤ m ∧ 0 ≤ Z ∧ Z ≤ 1048576) (fun _ iv => m - (RowKit.intOf iv).toNat)
        case atStart => exact ⟨_, 0, rfl, rfl, Nat.zero_le _, by omega, by omega⟩
        case round =>
          obtain ⟨Z, i, rfl, rfl, hi, hz0, hz1⟩ := hrel
          by_cases hlt : i < m
          · obtain ⟨b, o, hao, hbl, hcell⟩ := hsec.cells (by omega)
            have hck := hcell i hlt
            have HSEC := hide hsec
            subst hao
            clear hcell hsec
            generalize ss.getD i ByteArray.empty = x at hck
            by_cases hx : x.size ≤ 1048576
            · by_cases hz : Z + x.size ≤ 1048576
              · go_wp2
                go_round
                case rel => exact ⟨_, i + 1, rfl, by go_num, by omega, by omega, by omega⟩
                case measure => simp [RowKit.intOf]; omega
              · have hz' : 1048576 < Z + x.size := by omega
                go_wp2
                go_ret
                exact ⟨_, rfl, rfl⟩
            · have hx' : 1048576 < x.size := by omega
              go_wp2
              go_ret
              exact ⟨_, rfl, rfl⟩
          · clear hsec
            go_wp2
            go_ret
            exact ⟨_, rfl, rfl⟩
      · have h3' : 1048576 < s.size + m := by omega
        go_enter Try.func6, Try.ntmps6
        go_wp2
        go_ret
        exact ⟨_, rfl, rfl⟩
    · have h2' : 1048576 < m := by omega
      go_enter Try.func6, Try.ntmps6
      go_wp2
      go_ret
      exact ⟨_, rfl, rfl⟩
  · have h1' : 1048576 < s.size := by omega
    go_enter Try.func6, Try.ntmps6
    go_wp2
    go_ret
    exact ⟨_, rfl, rfl⟩



set_option maxHeartbeats 2000000 in
set_option maxRecDepth 100000 in
theorem clone_any (ao : Option Addr) (m cap : Nat) (ss : List ByteArray) (w : World) (hsec : Sec w ao m ss) (hm : m ≤ 4194304) (hnil : ao = none → m = 0) :
    Calls Try.prog 7 #[.slice ao m cap] w (RetS m ss w) := by
  have q22 : ∀ (w : World) (a : Option Addr) (n c n' c' : Nat), (binOp .eql 22 (.slice a n c) (.slice none n' c')).run Try.prog w = .ok (.bool a.isNone) w := fun w a n c n' c' => Lib.run_eql_slice_nil w _ _ a n c n' c' Try.underlying22
  cases ao with
  | none =>
    obtain rfl := hnil rfl
    go_enter Try.func7, Try.ntmps7
    go_wp2
    go_ret
    exact ⟨none, 0, rfl, hsec, Below.refl _ _⟩
  | some a =>
    have hmk := run_make_row' (P := Try.prog) 22 9 (.string ByteArray.empty) 16 Try.underlying22 Try.info9 rfl .i64 .i64 m (by omega) (by omega)
    go_enter Try.func7, Try.ntmps7
    go_wp2_with fail
    clear hmk
    go_loopw [4] (fun kv wr => ∃ (k : Nat) (f : Nat → Value), kv = .int .i64 k ∧ k ≤ m ∧ wr.rowIs w.heap.size 9 m f ∧ Hid (∀ j, j < k → f j = .string (ss.getD j ByteArray.empty)) ∧ Hid (∀ j, ∃ x, f j = .string x) ∧ Below w.heap.size w wr) (fun kv _ => m - (RowKit.intOf kv).toNat)
    case atStart => exact ⟨0, fun _ => .string ByteArray.empty, rfl, Nat.zero_le _, World.rowIs_made w (.string ByteArray.empty) m 9, fun _ h => absurd h (Nat.not_lt_zero _), fun _ => ⟨_, rfl⟩, (Below.refl _ _).alloc (Nat.le_refl _) _⟩
    case round =>
      obtain ⟨k, f, rfl, hk, hrow, hf, hfs, hbel⟩ := hrel
      by_cases hlt : k < m
      · obtain ⟨b, o, hao, hbl, hcell⟩ := hsec.cells (by omega)
        have hck : wr.cell? ⟨b, o + k, none⟩ = some (.string (ss.getD k ByteArray.empty)) := (hbel.cell (p := ⟨b, o + k, none⟩) hbl).trans (hcell k hlt)
        have hcl := hrow.cell hlt
        have hfz := hrow.frozen k
        have HSEC := hide hsec
        have hrow' := hrow.set k (.string (ss.getD k ByteArray.empty))
        have hbel' := hbel.setCell (p := ⟨w.heap.size, k, none⟩) (Nat.le_refl _) (.string (ss.getD k ByteArray.empty))
        have HF : Hid (∀ j, j < k + 1 → (if j = k then Value.string (ss.getD k ByteArray.empty) else f j) = .string (ss.getD j ByteArray.empty)) := by
          intro j hj
          by_cases e : j = k
          · subst e; rw [if_pos rfl]
          · rw [if_neg e]; exact hf.out j (by omega)
        have HFS : Hid (∀ j, ∃ x, (if j = k then Value.string (ss.getD k ByteArray.empty) else f j) = .string x) := by
          intro j
          by_cases e : j = k
          · subst e; exact ⟨_, if_pos rfl⟩
          · rw [if_neg e]; exact hfs.out j
        obtain ⟨y, hy⟩ := hfs.out k
        rw [hy] at hcl
        have HR := hide hrow'
        have HB := hide hbel'
        obtain rfl := Option.some.inj hao
        clear hao hcell hrow hrow' hbel' hf hfs hy hsec
        generalize ss.getD k ByteArray.empty = x at *
        go_wp2
        go_roundw
        case rel => first | exact ⟨k + 1, _, by go_num, hlt, unhide HR, HF, HFS, unhide HB⟩ | ((repeat apply Exists.intro); exact ⟨⟨k + 1, _, by go_num, hlt, unhide HR, HF, HFS, unhide HB⟩, rfl⟩)
        case measure => simp [RowKit.intOf]; omega
      · obtain rfl : k = m := by omega
        have HS : Hid (Sec wr (some ⟨w.heap.size, 0, none⟩) k ss) := ⟨hsec.len, fun _ => ⟨w.heap.size, 0, rfl, hrow.lt, fun i hi => by rw [Nat.zero_add, hrow.cell hi, hf.out i hi]⟩⟩
        clear hsec hrow hf hfs
        go_wp2
        go_ret
        exact ⟨_, _, rfl, HS.out, hbel⟩

end Go.Proofs.Qxb6605388a
