/- zzAlnum (18), zzBareByte (12), zzDottedKey (9), zzDots (10), zzBytes (8). -/
import Derived.Test.Qxb6604368aFmtKey
namespace Go.Proofs.Qxb6604368aFmt
open Go.RowKit

def lst (g : ByteArray) : List UInt8 := g.data.toList
theorem lst_len (g : ByteArray) : (lst g).length = g.size := by simp [lst]
theorem byt_lst (s : ByteArray) (k : Nat) (h : k < s.size) : byt (lst s) k = ((s[k]).toNat : Int) := by
  unfold byt lst
  rw [List.getD_eq_getElem?_getD, List.getElem?_eq_getElem (by simpa using h), Option.getD_some, Array.getElem_toList]
  rfl

theorem or_fact : ∀ u : Fin 256, (bits .or .u8 ((u.val : Nat) : Int) 32 - 97) % 256 < 26 → (65 ≤ u.val ∧ u.val ≤ 90) ∨ (97 ≤ u.val ∧ u.val ≤ 122) := by decide +kernel

theorem bare_num {n : Nat} (h : (48 ≤ n ∧ n ≤ 57) ∨ (65 ≤ n ∧ n ≤ 90) ∨ (97 ≤ n ∧ n ≤ 122) ∨ n = 95 ∨ n = 45) : Bare (n : Int) := by
  unfold Bare NoDelim; omega

def RetBare (P : Prop) (w : World) (r : Ending) (w' : World) : Prop := ∃ t : Bool, r = .returned (.bool t) ∧ w' = w ∧ (t = true → P)

theorem alnum_any (u : UInt8) (w : World) : Calls Tryf.prog 18 #[.int .u8 (u.toNat : Int)] w (RetBare (Bare (u.toNat : Int)) w) := by
  have HU := hide (or_fact ⟨u.toNat, u.toNat_lt⟩)
  have hlt := u.toNat_lt
  go_enter Tryf.func18, Tryf.ntmps18
  go_wp2
  case _ h =>
    go_ret
    exact ⟨true, rfl, rfl, fun _ => bare_num (.inl (by omega))⟩
  case _ h =>
    go_ret
    exact ⟨_, rfl, rfl, fun ht => bare_num (.inr ((unhide HU (of_decide_eq_true ht)).imp id .inl))⟩

theorem bare_any (u : UInt8) (w : World) : Calls Tryf.prog 12 #[.int .u8 (u.toNat : Int)] w (RetBare (Bare (u.toNat : Int)) w) := by
  go_enter Tryf.func12, Tryf.ntmps12
  go_wp2_with fail
  refine (alnum_any u w).mono ?_
  rintro r w' ⟨t, rfl, rfl, ht⟩
  have HT := hide ht
  clear ht
  cases t
  · cases h1 : ((u.toNat : Int) == 95)
    · cases h2 : ((u.toNat : Int) == 45)
      · go_wp2_with fail
        go_ret
        exact ⟨false, rfl, rfl, fun h => (by cases h)⟩
      · go_wp2_with fail
        go_ret
        exact ⟨true, rfl, rfl, fun _ => bare_num (.inr (.inr (.inr (.inr (by have := beq_iff_eq.1 h2; omega)))))⟩
    · go_wp2_with fail
      go_ret
      exact ⟨true, rfl, rfl, fun _ => bare_num (.inr (.inr (.inr (.inl (by have := beq_iff_eq.1 h1; omega)))))⟩
  · go_wp2_with fail
    go_ret
    exact ⟨true, rfl, rfl, fun _ => (unhide HT) trivial⟩

theorem isEmpty_of {x : ByteArray} (h : x.size = 0) : x = ByteArray.empty := by
  obtain ⟨⟨l⟩⟩ := x
  have : l = [] := List.eq_nil_of_length_eq_zero (by simpa [ByteArray.size] using h)
  subst this; rfl
theorem notEmpty_of {x : ByteArray} (h : ¬ x.size = 0) : x.toList.isEmpty = false := by
  rw [Lib.toList_data]; cases h' : x.data.toList with
  | nil => exact absurd (by have := lst_len x; unfold lst at this; rw [h'] at this; simpa using this.symm) h
  | cons => rfl

/-- a dotted key, whole -/
structure DK (l : List UInt8) : Prop where
  ne : 0 < l.length
  all : ∀ i, i < l.length → byt l i = 46 ∨ Bare (byt l i)
  first : byt l 0 ≠ 46
  next : ∀ i, i < l.length → byt l i = 46 → i + 1 < l.length ∧ byt l (i + 1) ≠ 46

/-- between two rounds of zzDottedKey: the first k bytes -/
structure DKat (l : List UInt8) (k : Nat) (pd : Bool) : Prop where
  all : ∀ i, i < k → byt l i = 46 ∨ Bare (byt l i)
  first : 0 < k → byt l 0 ≠ 46
  next : ∀ i, i + 1 < k → byt l i = 46 → byt l (i + 1) ≠ 46
  last : pd = true ↔ (k = 0 ∨ byt l (k - 1) = 46)

theorem DKat.dot {l : List UInt8} {k : Nat} (h : DKat l k false) (hc : byt l k = 46) : DKat l (k + 1) true := by
  have hl := h.last
  have hk : ¬ (k = 0 ∨ byt l (k - 1) = 46) := fun x => by have := hl.2 x; cases this
  refine ⟨fun i hi => ?_, fun _ => h.first (by omega), fun i hi hd => ?_, ⟨fun _ => .inr (by simpa using hc), fun _ => rfl⟩⟩
  · by_cases e : i = k
    · subst e; exact .inl hc
    · exact h.all i (by omega)
  · by_cases e : i + 1 = k
    · exact absurd (.inr (by rw [← e]; simpa using hd)) hk
    · exact h.next i (by omega) hd

theorem DKat.bare {l : List UInt8} {k : Nat} {pd : Bool} (h : DKat l k pd) (hc : Bare (byt l k)) : DKat l (k + 1) false := by
  have hn := hc.2.1
  refine ⟨fun i hi => ?_, fun _ => ?_, fun i hi hd => ?_, ⟨fun h => (by cases h), fun x => ?_⟩⟩
  · by_cases e : i = k
    · subst e; exact .inr hc
    · exact h.all i (by omega)
  · by_cases e : k = 0
    · subst e; exact hn
    · exact h.first (by omega)
  · by_cases e : i + 1 = k
    · rw [e]; exact hn
    · exact h.next i (by omega) hd
  · rcases x with x | x
    · omega
    · exact absurd (by simpa using x) hn

theorem DKat.done {l : List UInt8} {k : Nat} (h : DKat l k false) (hk : l.length = k) : DK l := by
  have hl := h.last
  have hk0 : ¬ (k = 0 ∨ byt l (k - 1) = 46) := fun x => by have := hl.2 x; cases this
  refine ⟨by omega, fun i hi => h.all i (by omega), h.first (by omega), fun i hi hd => ?_⟩
  by_cases e : i + 1 = k
  · exact absurd (.inr (by rw [← e]; simpa using hd)) hk0
  · exact ⟨by omega, h.next i (by omega) hd⟩

set_option maxHeartbeats 1000000 in
theorem dotted_any (s : ByteArray) (mb : Bool) (w : World) (hs : s.size ≤ 1048576) : Calls Tryf.prog 9 #[.string s, .bool mb] w (RetBare ((s.size = 0 ∧ mb = true) ∨ DK (lst s)) w) := by
  by_cases h0 : s.size = 0
  · obtain rfl := isEmpty_of h0
    go_enter Tryf.func9, Tryf.ntmps9
    go_wp2_with fail
    go_ret
    exact ⟨mb, rfl, rfl, fun h => .inl ⟨rfl, h⟩⟩
  · have hne := notEmpty_of h0
    go_enter Tryf.func9, Tryf.ntmps9
    go_wp2_with fail
    go_loop [5, 6] (fun pv iv => ∃ (pd : Bool) (k : Nat), pv = .bool pd ∧ iv = .int .i64 k ∧ k ≤ s.size ∧ Hid (DKat (lst s) k pd)) (fun _ iv => s.size - (RowKit.intOf iv).toNat)
    case atStart => exact ⟨true, 0, rfl, rfl, Nat.zero_le _, ⟨fun i hi => absurd hi (Nat.not_lt_zero _), fun h => absurd h (Nat.not_lt_zero _), fun i hi => absurd hi (Nat.not_lt_zero _), ⟨fun _ => .inl rfl, fun _ => rfl⟩⟩⟩
    case round =>
      obtain ⟨pd, k, rfl, rfl, hk, hat⟩ := hrel
      by_cases hlt : k < s.size
      · have HBY := hide (byt_lst s k hlt)
        cases h46 : (((s[k]).toNat : Int) == 46)
        · go_wp2_with fail
          refine (bare_any (s[k]) w).mono ?_
          rintro r w' ⟨t, rfl, rfl, ht⟩
          have HT := hide ht
          clear ht
          cases t
          · go_wp2_with fail
            go_ret
            exact ⟨false, rfl, rfl, fun h => (by cases h)⟩
          · go_wp2_with fail
            go_round
            case rel => exact ⟨false, k + 1, rfl, by go_num, hlt, DKat.bare (unhide hat) (by rw [unhide HBY]; exact (unhide HT) trivial)⟩
            case measure => simp [RowKit.intOf]; omega
        · have HC : Hid (byt (lst s) k = 46) := by rw [unhide HBY]; exact beq_iff_eq.1 h46
          cases pd
          · go_wp2_with fail
            go_round
            case rel => exact ⟨true, k + 1, rfl, by go_num, hlt, DKat.dot (unhide hat) (unhide HC)⟩
            case measure => simp [RowKit.intOf]; omega
          · go_wp2_with fail
            go_ret
            exact ⟨false, rfl, rfl, fun h => (by cases h)⟩
      · obtain rfl : k = s.size := by omega
        cases pd
        · go_wp2_with fail
          go_ret
          exact ⟨true, rfl, rfl, fun _ => by first | exact Or.inr (DKat.done (unhide hat) (lst_len s)) | exact DKat.done (unhide hat) (lst_len s)⟩
        · go_wp2_with fail
          go_ret
          exact ⟨false, rfl, rfl, fun h => (by cases h)⟩

theorem dots_any (s : ByteArray) (w : World) (hs : s.size ≤ 1048576) : Calls Tryf.prog 10 #[.string s] w fun e w' => e = .returned (.int .i64 (dots (lst s) 0 s.size)) ∧ w' = w := by
  go_enter Tryf.func10, Tryf.ntmps10
  go_wp2_with fail
  go_loop [3, 4] (fun nv iv => ∃ k : Nat, nv = .int .i64 (dots (lst s) 0 k) ∧ iv = .int .i64 k ∧ k ≤ s.size) (fun _ iv => s.size - (RowKit.intOf iv).toNat)
  case atStart => exact ⟨0, by simp [dots], rfl, Nat.zero_le _⟩
  case round =>
    obtain ⟨k, rfl, rfl, hk⟩ := hrel
    by_cases hlt : k < s.size
    · have HBY := hide (byt_lst s k hlt)
      have hd := dots_le (lst s) 0 k
      cases h46 : (((s[k]).toNat : Int) == 46)
      · have e : Hid (dots (lst s) 0 (k + 1) = dots (lst s) 0 k) := by
          show dots (lst s) 0 k + _ = _
          rw [if_neg]; · rfl
          rw [Nat.zero_add, unhide HBY]; exact ne_of_beq_false h46
        go_wp2_with fail
        go_round
        case rel => exact ⟨k + 1, by rw [unhide e], by go_num, hlt⟩
        case measure => simp [RowKit.intOf]; omega
      · have e : Hid (dots (lst s) 0 (k + 1) = dots (lst s) 0 k + 1) := by
          show dots (lst s) 0 k + _ = _
          rw [if_pos]
          rw [Nat.zero_add, unhide HBY]; exact beq_iff_eq.1 h46
        go_wp2_with fail
        go_round
        case rel => exact ⟨k + 1, by rw [unhide e]; rfl, by go_num, hlt⟩
        case measure => simp [RowKit.intOf]; omega
    · obtain rfl : k = s.size := by omega
      go_wp2_with fail
      go_ret
      exact ⟨rfl, rfl⟩

theorem bytes_any (h k : ByteArray) (w : World) (h1 : h.size ≤ 9223372036854775807) (h2 : k.size ≤ 9223372036854775807) : Calls Tryf.prog 8 #[.string h, .string k] w (RetBare (h.size ≤ 1048576 ∧ k.size ≤ 1048576) w) := by
  by_cases e1 : h.size ≤ 1048576
  · by_cases e2 : k.size ≤ 1048576
    · by_cases e3 : h.size + k.size ≤ 1048576
      · go_enter Tryf.func8, Tryf.ntmps8
        go_wp2
        go_ret
        exact ⟨true, rfl, rfl, fun _ => ⟨e1, e2⟩⟩
      · go_enter Tryf.func8, Tryf.ntmps8
        go_wp2
        go_ret
        exact ⟨false, rfl, rfl, fun h => (by cases h)⟩
    · go_enter Tryf.func8, Tryf.ntmps8
      go_wp2
      go_ret
      exact ⟨false, rfl, rfl, fun h => (by cases h)⟩
  · go_enter Tryf.func8, Tryf.ntmps8
    go_wp2
    go_ret
    exact ⟨false, rfl, rfl, fun h => (by cases h)⟩
end Go.Proofs.Qxb6604368aFmt
