/- lastLabels (function 12, and its export 7): what it hands back. -/
import Derived.Test.Qxb6604303aCover
namespace Go.Proofs.Qxb6604303a
open Go.Lib Go.RowKit

/-- the string of a list of bytes -/
def strOf (l : List UInt8) : ByteArray := ⟨l.toArray⟩
theorem lst_strOf (l : List UInt8) : lst (strOf l) = l := by simp [lst, strOf]
theorem strOf_lst (s : ByteArray) : strOf (lst s) = s := Lib.mk_data s
theorem size_strOf (l : List UInt8) : (strOf l).size = l.length := by rw [← lst_len, lst_strOf]

/-- where a round of lastLabels stands: p is the end, or a dot's place; j dots stand from p on -/
structure LL (l : List UInt8) (j p : Nat) : Prop where
  cnt : (l.drop p).count 46 = j
  le : p ≤ l.length
  dot : j = 0 ∨ (p < l.length ∧ l = l.take p ++ 46 :: l.drop (p + 1))

theorem LL.start (l : List UInt8) : LL l 0 l.length := ⟨by simp, Nat.le_refl _, .inl rfl⟩
theorem LL.none {l : List UInt8} {j p n : Nat} (h : LL l j p) (hj : j < n) (r : Pl.LastAt (l.take p) (-1)) : Pl.ll n l = l := Pl.ll_round_none l n j p hj h.cnt r
theorem LL.some {l : List UInt8} {j p i : Nat} (h : LL l j p) (r : Pl.LastAt (l.take p) i) : LL l (j + 1) i ∧ i < p := by
  obtain ⟨h1, h2, h3⟩ := Pl.ll_round_some l j p i h.le h.cnt r
  exact ⟨⟨h2, by have := h.le; omega, .inr ⟨by have := h.le; omega, h3⟩⟩, h1⟩
theorem LL.done {l : List UInt8} {n p : Nat} (h : LL l n p) (hn : 1 ≤ n) : Pl.ll n l = l.drop (p + 1) ∧ p < l.length := by
  rcases h.dot with e | ⟨h1, h2⟩
  · omega
  · exact ⟨Pl.ll_done l n p h.cnt h2 h1, h1⟩

theorem ret_str {a b : ByteArray} (h : a = b) : Ending.returned (.string a) = .returned (.string b) := by rw [h]

theorem lastAt_cases {l : List UInt8} {r : Int} (h : Pl.LastAt l r) : r = -1 ∨ ∃ i : Nat, r = i := by
  rcases h with ⟨e, _⟩ | ⟨i, e, _⟩
  · exact .inl e
  · exact .inr ⟨i, e⟩

set_option maxHeartbeats 1000000 in
theorem last_any (s : ByteArray) (n : Int) (w : World) (hs : s.size ≤ 1048576) (h1 : 1 ≤ n) (h2 : n ≤ 4194304) :
    Calls Try.prog 12 #[.string s, .int .i64 n] w fun e w' => e = .returned (.string (strOf (Pl.ll n.toNat (lst s)))) ∧ w' = w := by
  obtain ⟨m, rfl⟩ := Int.eq_ofNat_of_zero_le (show 0 ≤ n by omega)
  rw [Int.toNat_natCast]
  go_enter Try.func12, Try.ntmps12
  go_wp2_with fail
  go_loop [5, 9] (fun pv jv => ∃ p j : Nat, pv = .int .i64 p ∧ jv = .int .i64 j ∧ j ≤ m ∧ p ≤ s.size ∧ Hid (LL (lst s) j p)) (fun _ jv => m - (RowKit.intOf jv).toNat)
  case atStart => exact ⟨s.size, 0, rfl, rfl, Nat.zero_le _, Nat.le_refl _, by rw [← lst_len]; exact LL.start _⟩
  case round =>
    obtain ⟨p, j, rfl, rfl, hj, hp, hh⟩ := hrel
    by_cases hlt : j < m
    · have hsz : (s.extract 0 p).size ≤ 1048576 := by rw [ByteArray.size_extract]; omega
      have HE : Hid (∀ r, Pl.LastAt (s.extract 0 p).data.toList r → Pl.LastAt ((lst s).take p) r) := by
        intro r hr
        rw [Lib.extract_data] at hr
        simpa [lst] using hr
      go_wp2_with fail
      refine (LastByte_any _ _ hsz).mono ?_
      rintro e w' ⟨r, rfl, hr, rfl⟩
      have hr' := unhide HE r hr
      clear hr
      rcases lastAt_cases hr' with rfl | ⟨i, rfl⟩
      · have HF : Hid (Pl.ll m (lst s) = lst s) := LL.none hh.out hlt hr'
        clear hr' HE
        go_wp2
        go_ret
        exact ⟨ret_str (by rw [HF.out, strOf_lst]), rfl⟩
      · have HF := hide (LL.some hh.out hr')
        clear hr' HE
        go_wp2
        go_round
        case rel => exact ⟨i, j + 1, rfl, by go_num, by omega, by have := (unhide HF).2; omega, (unhide HF).1⟩
        case measure => simp [RowKit.intOf]; omega
    · obtain rfl : j = m := by omega
      obtain ⟨hd, hp'⟩ := LL.done hh.out (by omega)
      rw [lst_len] at hp'
      have HD := hide hd
      clear hd
      go_wp2
      go_ret
      exact ⟨ret_str (by
        rw [unhide HD, ← strOf_lst (s.extract (p + 1) s.size)]
        unfold lst
        rw [Lib.extract_to_end]), rfl⟩

theorem last_out (s : ByteArray) (n : Int) (w : World) (hs : s.size ≤ 1048576) (h1 : 1 ≤ n) (h2 : n ≤ 4194304) :
    Calls Try.prog 7 #[.string s, .int .i64 n] w fun e w' => e = .returned (.string (strOf (Pl.ll n.toNat (lst s)))) ∧ w' = w := by
  go_enter Try.func7, Try.ntmps7
  go_wp2_with (go_at_call 12; refine (last_any _ _ _ hs h1 h2).mono ?_; rintro e w' ⟨rfl, rfl⟩)
  go_ret
  exact ⟨rfl, rfl⟩

end Go.Proofs.Qxb6604303a
