/- coveringDomains (function 13, and its export 10): what it hands back. -/
import Derived.Test.Qxb6604303aLib
namespace Go.Proofs.Qxb6604303a
open Go.Lib Go.RowKit

theorem Try.info9 : (Try.prog.info? 9).map (fun i => (i.zero, i.size, i.bytes)) = some (some (.string ByteArray.empty), 1, 16) := by kernel_rfl

def lst (g : ByteArray) : List UInt8 := g.data.toList
theorem lst_len (g : ByteArray) : (lst g).length = g.size := by simp [lst]
def strLen : Value → Nat
  | .string s => s.size
  | _ => 0

/-- what is handed back: a slice v over gs -/
structure Cov (B : Nat) (l : List UInt8) (v : Value) (w : World) : Prop where
  ex : ∃ gs : List ByteArray, w.ownsRow B 9 1 v gs.length (gs.map Value.string) ∧ gs.map lst = Pl.good true l ∧ (gs = [] → v = .slice none 0 0)

theorem cut_short {s t : ByteArray} (ht : t.data.toList = Pl.cut s.data.toList) : t.size ≤ s.size - 1 := by
  have := Pl.cut_le s.data.toList
  rw [← ht] at this
  simpa using this

/-- between two rounds of the second loop -/
structure Inv2 (B : Nat) (l : List UInt8) (t : ByteArray) (v : Value) (gs : List ByteArray) (w : World) : Prop where
  own : w.ownsRow B 9 1 v gs.length (gs.map Value.string)
  eq : gs.map lst ++ Pl.good true (lst t) = Pl.good true l
  nil : gs = [] → v = .slice none 0 0

theorem inv2_step {B : Nat} {l : List UInt8} {t t' : ByteArray} {v v' : Value} {gs : List ByteArray} {w w1 : World} (hi : Inv2 B l t v gs w)
    (ht : t'.data.toList = Pl.cut t.data.toList) (h0 : 0 < t.size) (hs : t.size ≤ 253) (own' : w1.ownsRow B 9 1 v' (gs.length + 1) (gs.map Value.string ++ [.string t])) :
    Inv2 B l t' v' (gs ++ [t]) w1 := by
  refine ⟨?_, ?_, by simp⟩
  · simpa using own'
  · rw [← hi.eq, Pl.good_short (lst t) (by intro e; have := lst_len t; rw [e] at this; simp at this; omega) (by rw [lst_len]; omega)]
    simp [lst, ht]

theorem inv2_end {B : Nat} {l : List UInt8} {t : ByteArray} {v : Value} {gs : List ByteArray} {w : World} (hi : Inv2 B l t v gs w) (h0 : t.size = 0) : Cov B l v w := by
  refine ⟨gs, hi.own, ?_, hi.nil⟩
  have e : lst t = [] := List.eq_nil_of_length_eq_zero (by rw [lst_len]; exact h0)
  have := hi.eq
  rw [e] at this
  simpa [Pl.good] using this

theorem inv2_len {B : Nat} {l : List UInt8} {t : ByteArray} {v : Value} {gs : List ByteArray} {w : World} (hi : Inv2 B l t v gs w) : gs.length ≤ l.length := by
  have h1 := congrArg List.length hi.eq
  have h2 := Pl.good_len true l
  simp at h1
  omega

set_option maxHeartbeats 1600000 in
set_option maxRecDepth 100000 in
theorem cover_any (s : ByteArray) (w : World) (hs : s.size ≤ 1048576) :
    Calls Try.prog 13 #[.string s] w fun e w' => ∃ v, e = .returned v ∧ Cov w.heap.size (lst s) v w' ∧ Below w.heap.size w w' := by
  obtain ⟨i0, hi, hz0, hz1, hz2⟩ := info_parts Try.info9
  go_enter Try.func13, Try.ntmps13
  go_wp2_with fail
  go_loopw [0] (fun d wr => ∃ (t : ByteArray) (n : Nat), d = .string t ∧ t.size ≤ s.size ∧ Hid (Pl.good true (lst t) = Pl.good true (lst s)) ∧ wr = w.drewN n) (fun d _ => strLen d)
  case atStart => exact ⟨s, 0, rfl, Nat.le_refl _, rfl, rfl⟩
  case round =>
    obtain ⟨t, n, rfl, hle, hg, rfl⟩ := hrel
    by_cases hlt : 253 < t.size
    · go_wp2_with (go_at_call 15; refine (Cut_any _ _ (by omega)).mono ?_; rintro e w' ⟨b, t', f, rfl, ht, n', rfl⟩; have Ht := hide ht; clear ht)
      go_roundw
      case rel =>
        have hc := cut_short (unhide Ht)
        exact ⟨t', n + n', rfl, by omega, (by
          show Pl.good true (lst t') = _
          rw [← hg.out, Pl.good_long (lst t) (by rw [lst_len]; exact hlt)]
          rw [show lst t' = Pl.cut (lst t) from unhide Ht]), by simp [World.drewN]⟩
      case measure => have hc := cut_short (unhide Ht); simp [strLen]; omega
    · go_wp2_with fail
      go_loopw [0, 3] (fun d v wr => ∃ (u : ByteArray) (gs : List ByteArray), d = .string u ∧ u.size ≤ 253 ∧ Inv2 w.heap.size (lst s) u v gs wr ∧ Below w.heap.size w wr) (fun d _ _ => strLen d)
      case atStart => exact ⟨t, [], rfl, by omega, ⟨World.ownsRow_nil _ _ _ _, by simpa using hg.out, fun _ => rfl⟩, ⟨rfl, rfl, rfl, Nat.le_refl _, fun _ _ => rfl⟩⟩
      case round =>
        obtain ⟨u, gs, rfl, hu, hinv, hb⟩ := hrel
        have hlen := inv2_len hinv
        rw [lst_len] at hlen
        have hown := hinv.own
        by_cases h0 : u.size = 0
        · have hue : u = ByteArray.empty := by
            obtain ⟨⟨l⟩⟩ := u
            have : l = [] := List.eq_nil_of_length_eq_zero (by simpa [ByteArray.size] using h0)
            subst this; rfl
          have HI := hide (inv2_end hinv h0)
          clear hinv hown
          subst hue
          go_wp2
          go_ret
          exact ⟨_, rfl, unhide HI, hb⟩
        · have hne : u.toList.isEmpty = false := by
            rw [Lib.toList_data]; cases h : u.data.toList with
            | nil => exact absurd (by have := lst_len u; unfold lst at this; rw [h] at this; simpa using this.symm) h0
            | cons => rfl
          go_wp2_with (first
            | (at_builtin; refine wpList_append_own _ rfl _ _ 25 rfl w.heap.size 9 i0 (.string ByteArray.empty) 1 16 Try.underlying25 hi hz0 hz1 hz2 rfl (by decide) _ _ _ rfl (hown.alloc _) ⟨wr.heap.size, 0, none⟩ 1 1 [.string u] rfl rfl ?c1 ?c2 ?c3 ?c4 ?c5 ?_)
            | fail)
          case c1 =>
            intro j x hj
            match j, hj with
            | 0, hj => simp at hj; subst hj; simp [Addr.add]
          case c2 => first | rfl | (intro x hx; simp at hx; subst hx; rfl)
          case c3 => simp [maxLen]; omega
          case c4 => omega
          case c5 => have := hb.size; simp; omega
          intro v' w1 hown' hgrow _
          have hb1 : Below w.heap.size w w1 := (hb.alloc hb.size _).grown hgrow (by have := hb.size; simp; omega) (fun k hk => (hown.lt k hk).1)
          have HI : Hid (∀ (t' : ByteArray) (n : Nat), t'.data.toList = Pl.cut u.data.toList → Inv2 w.heap.size (lst s) t' v' (gs ++ [u]) (w1.drewN n)) :=
            fun t' n ht => inv2_step hinv ht (by omega) hu (by exact hown')
          clear hown' hgrow hown hinv
          go_wp2_with (go_at_call 15; refine (Cut_any _ _ (by omega)).mono ?_; rintro e w' ⟨b, t', f, rfl, ht, n', rfl⟩; have Ht := hide ht; clear ht)
          go_roundw
          case rel => exact ⟨t', gs ++ [u], rfl, by have hc := cut_short (unhide Ht); omega, unhide HI t' n' (unhide Ht), hb1.trans ⟨rfl, rfl, rfl, Nat.le_refl _, fun _ _ => rfl⟩⟩
          case measure => have hc := cut_short (unhide Ht); simp [strLen]; omega
end Go.Proofs.Qxb6604303a
