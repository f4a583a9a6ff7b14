/- document (11) over the two shapes of text that the law makes. -/
import Derived.Test.Qxb6604368aFmtParse
import Derived.Test.Qxb6604368aFmtBare
import Derived.Lib.ConvBytes
namespace Go.Proofs.Qxb6604368aFmt
open Go.RowKit Go.Extern.Stop Go.Stop Go.Extern
variable {b d cap : Nat} {l : List UInt8} {L N E : Int}

theorem range_head (n : Nat) (f : Nat → Int) (h : 0 < n) : ∃ t, (List.range n).map f = f 0 :: t := by
  obtain ⟨m, rfl⟩ : ∃ m, n = m + 1 := ⟨n - 1, by omega⟩
  rw [List.range_succ_eq_map]
  exact ⟨_, rfl⟩

theorem noPrefix (h0 : 0 < l.length) (hb : byt l 0 < 128) {t : List UInt8} (ht : 0 < t.length) (hc : 128 ≤ byt t 0) :
    Lib.hasPrefix (Lib.bytesOf ((List.range l.length).map (byt l))) (Lib.bytesOf ((List.range t.length).map (byt t))) = false := by
  obtain ⟨x, hx⟩ := range_head l.length (byt l) h0
  obtain ⟨y, hy⟩ := range_head t.length (byt t) ht
  rw [hx, hy]
  have hne : (UInt8.ofNat (byt t 0).toNat == UInt8.ofNat (byt l 0).toNat) = false := by
    rw [beq_eq_false_iff_ne]
    intro e
    have e2 := congrArg UInt8.toNat e
    have r1 : byt t 0 < 256 := by unfold byt; have := (t.getD 0 0).toNat_lt; omega
    have r2 : 0 ≤ byt l 0 := by unfold byt; omega
    rw [UInt8.toNat_ofNat_of_lt' (by show _ < 256; omega), UInt8.toNat_ofNat_of_lt' (by show _ < 256; omega)] at e2
    omega
  simp [Lib.hasPrefix, Lib.bytesOf, List.isPrefixOf, hne]

/-- the three byte-order marks -/
def mark (k : Nat) : ByteArray := if k = 0 then ⟨#[239, 187, 191]⟩ else if k = 1 then ⟨#[255, 254]⟩ else ⟨#[254, 255]⟩
theorem mark_ok (k : Nat) : 0 < (mark k).size ∧ (mark k).size ≤ 3 ∧ 128 ≤ byt (lst (mark k)) 0 := by
  unfold mark
  split
  · decide
  · split <;> decide

theorem below_bytesWorld {B : Nat} {w0 w : World} (h : Below B w0 w) (hB : B ≤ w.heap.size) (e : TypeId) (s : ByteArray) : Below B w0 (Lib.bytesWorld w e s) :=
  h.trans ⟨rfl, rfl, rfl, by rw [Lib.bytesWorld_size]; omega, fun k hk => Lib.bytesWorld_at_old w e s k (by omega)⟩

/-- between two rounds of the first loop -/
structure Bom (b d cap : Nat) (l : List UInt8) (L N E : Int) (m : Nat) (w wr : World) : Prop where
  sc : Scan b d cap l L N E 0 0 wr
  bel : Below b w wr
  mh : m < wr.heap.size
  ms : ∀ k, k < 3 → wr.cell? ⟨m, k, none⟩ = some (.string (mark k))

theorem Bom.next {m : Nat} {w wr : World} (h : Bom b d cap l L N E m w wr) (s : ByteArray) : Bom b d cap l L N E m w (Lib.bytesWorld wr 5 s) := by
  have hb := below_bytesWorld (Below.refl wr.heap.size wr) (Nat.le_refl _) 5 s
  exact ⟨h.sc.below hb, below_bytesWorld h.bel (Nat.le_of_lt h.sc.bh) 5 s, Nat.lt_of_lt_of_le h.mh hb.size, fun k hk => by rw [hb.cell h.mh]; exact h.ms k hk⟩

theorem Bom.prefix {m : Nat} {w wr : World} (h : Bom b d cap l L N E m w wr) (h0 : 0 < l.length) (hb : byt l 0 < 128) (k : Nat) (c2 : Nat) :
    Calls Tryf.prog 13 #[.slice (some ⟨d, 0, none⟩) l.length cap, .slice (some ⟨wr.heap.size, 0, none⟩) (mark k).size c2] (Lib.bytesWorld wr 5 (mark k)) fun r w' => r = .returned (.bool false) ∧ w' = Lib.bytesWorld wr 5 (mark k) := by
  have hm := mark_ok k
  have hl := lst_len (mark k)
  have hn := noPrefix (l := l) h0 hb (t := lst (mark k)) (by omega) hm.2.2
  rw [hl] at hn
  rw [← hn]
  refine Tryf.bytes_HasPrefix d 0 l.length cap wr.heap.size 0 (mark k).size c2 ((List.range l.length).map (byt l)) ((List.range (mark k).size).map (byt (lst (mark k)))) _ (by simp) (by simp) h.sc.lc (fun i hi => ?_) (fun i hi => ?_)
  · rw [Nat.zero_add, (h.next (mark k)).sc.dat i hi]
    simp [List.getD, List.getElem?_map, List.getElem?_range hi]
  · rw [Nat.zero_add, Lib.bytesWorld_cell wr 5 (mark k) i hi]
    simp [List.getD, List.getElem?_map, List.getElem?_range hi, byt, lst]

theorem bom_start {w : World} (h : Scan b d cap l L N E 0 0 w) : Bom b d cap l L N E w.heap.size w (w.alloc (.cells #[.string ⟨#[239, 187, 191]⟩, .string ⟨#[255, 254]⟩, .string ⟨#[254, 255]⟩] 9)) := by
  have hb := (Below.refl w.heap.size w).alloc (Nat.le_refl _) (.cells #[.string ⟨#[239, 187, 191]⟩, .string ⟨#[255, 254]⟩, .string ⟨#[254, 255]⟩] 9)
  refine ⟨h.below hb, hb.mono (Nat.le_of_lt h.bh), by simp, fun k hk => ?_⟩
  match k, hk with
  | 0, _ => go_simp; rfl
  | 1, _ => go_simp; rfl
  | 2, _ => go_simp; rfl

/-- the text without a header -/
structure TextA (l : List UInt8) (z : Nat) : Prop where
  line : LineAt l 0 z
  len : l.length = z + 5

theorem KeyAt.bare {p z : Nat} (h : KeyAt l p z) : Bare (byt l p) := by
  rcases h.all p (Nat.le_refl _) h.lt with x | x
  · exact absurd x h.first
  · exact x

theorem Bare.n91 {c : Int} (h : Bare c) : c ≠ 91 := by have := h.1; unfold NoDelim at this; omega
theorem pl91 : Plain 91 := by unfold Plain; omega

set_option maxHeartbeats 2000000 in
set_option maxRecDepth 100000 in
theorem docA_past (F : Interp) (z : Nat) (w : World) (hF : F.answers w.tape) (h : Scan b d cap l L N E 0 0 w) (ht : TextA l z)
    (hP : Past L N E ((0 + dots l 0 (z - 0) : Nat) : Int) ((join 0 (z - 0) : Nat) : Int) (((0 : Nat) : Int) + (dots l 0 (z - 0) + 2 : Nat))) :
    Calls Tryf.prog 11 #[.pointer (some ⟨b, 0, none⟩)] w (ErrS b w) := by
  have HP := hide hP
  have HF := hide hF
  clear hP hF
  have HS := hide h
  have ln := h.ln
  have le : 0 < l.length := by have := ht.len; omega
  have HLT : Hid (byt l 0 < 128) := ht.line.key.bare.2.2.2
  clear h
  have HT := hide ht
  clear ht
  go_enter Tryf.func11, Tryf.ntmps11
  go_wp2_with fail
  have H0 := hide (bom_start (unhide HS))
  clear HS
  generalize w.alloc (.cells #[.string ⟨#[239, 187, 191]⟩, .string ⟨#[255, 254]⟩, .string ⟨#[254, 255]⟩] 9) = w0 at H0
  generalize w.heap.size = m at H0
  go_loopw [10] (fun kv wr => ∃ k : Nat, kv = .int .i64 k ∧ k ≤ 3 ∧ Hid (Bom b d cap l L N E m w wr)) (fun kv _ => 3 - (RowKit.intOf kv).toNat)
  case atStart => exact ⟨0, rfl, by omega, unhide H0⟩
  case round =>
    obtain ⟨k, rfl, hk3, HM⟩ := hrel
    clear H0
    by_cases hk : k < 3
    · have a0 := (unhide HM).sc.h0
      have cm := (unhide HM).ms k hk
      have hcv := Lib.run_convert_string_bytes (P := Tryf.prog) wr 9 22 5 (mark k) (u := .string) Tryf.underlying9 Tryf.underlying22 Tryf.underlying5
      go_wp2_with fail
      refine ((unhide HM).prefix le (unhide HLT) k _).mono ?_
      rintro r w1 ⟨rfl, rfl⟩
      have HM2 := hide ((unhide HM).next (mark k))
      generalize Lib.bytesWorld wr 5 (mark k) = w1 at HM2
      clear a0 cm hcv HM
      go_wp2_with fail
      go_roundw
      case rel => exact ⟨k + 1, by go_num, hk, unhide HM2⟩
      case measure => simp [RowKit.intOf]; omega
    · obtain rfl : k = 3 := by omega
      have HS := hide (unhide HM).sc
      have HB := hide (unhide HM).bel
      clear HM hk hk3
      go_wp2_with fail
      refine wp_loop_rounds 1 ?_
      rw [rounds_succ]
      go_wp2_with fail
      refine (skipBlank_any true 0 0 _ wr (unhide HS) (Nat.le_refl _) (by omega) (fun i h1 h2 => by omega) (fun hx => (unhide HT).line.key.bare.1.plain)).mono ?_
      rintro rw2 w2 ⟨rfl, hs, hB⟩
      have HSw2 := hide hs
      have HBw2 := hide ((unhide HB).trans hB)
      have a0 := hs.h0
      have a1 := hs.h1
      have db := hs.db
      have hlt : 0 < l.length := by omega
      have cq := hs.dat 0 hlt
      have ne1 : (((0 : Nat) : Int) == (l.length : Int)) = false := ne_b (by omega)
      have n91 : (byt l 0 == 91) = false := ne_b (unhide HT).line.key.bare.n91
      generalize byt l 0 = c at cq n91
      clear hs hB
      go_wp2_with fail
      go_quiet (fail)
      go_wp2_with fail
      go_quiet (fail)
      go_wp2_with fail
      refine (keyValue_past F 0 z 0 0 0 _ (by show F.answers w2.tape; rw [(unhide HBw2).tape]; exact unhide HF) ((unhide HSw2).drewN _) (unhide HT).line (by omega) (by omega) (by omega) (unhide HP)).mono ?_
      rintro r3 w3 ⟨⟨a, rfl⟩, hB3⟩
      have HB3 := hide (BelowE.after (below_drewN (unhide HBw2) _) hB3)
      clear hB3
      go_wp2_with fail
      go_ret
      exact ⟨⟨_, rfl⟩, unhide HB3⟩

set_option maxHeartbeats 2000000 in
set_option maxRecDepth 100000 in
theorem docA_ok (z : Nat) (w : World) (h : Scan b d cap l L N E 0 0 w) (ht : TextA l z)
    (hL : ((0 + dots l 0 (z - 0) : Nat) : Int) ≤ L) (hN : ((join 0 (z - 0) : Nat) : Int) ≤ N) (hE : ((0 + (dots l 0 (z - 0) + 2) : Nat) : Int) ≤ E) :
    Calls Tryf.prog 11 #[.pointer (some ⟨b, 0, none⟩)] w (Ends b d cap l L N E .nilIface l.length ((0 + (dots l 0 (z - 0) + 2) : Nat) : Int) w) := by
  have HL := hide hL
  have HN := hide hN
  have HE := hide hE
  clear hL hN hE
  have HS := hide h
  have ln := h.ln
  have le : 0 < l.length := by have := ht.len; omega
  have HLT : Hid (byt l 0 < 128) := ht.line.key.bare.2.2.2
  clear h
  have HT := hide ht
  clear ht
  go_enter Tryf.func11, Tryf.ntmps11
  go_wp2_with fail
  have H0 := hide (bom_start (unhide HS))
  clear HS
  generalize w.alloc (.cells #[.string ⟨#[239, 187, 191]⟩, .string ⟨#[255, 254]⟩, .string ⟨#[254, 255]⟩] 9) = w0 at H0
  generalize w.heap.size = m at H0
  go_loopw [10] (fun kv wr => ∃ k : Nat, kv = .int .i64 k ∧ k ≤ 3 ∧ Hid (Bom b d cap l L N E m w wr)) (fun kv _ => 3 - (RowKit.intOf kv).toNat)
  case atStart => exact ⟨0, rfl, by omega, unhide H0⟩
  case round =>
    obtain ⟨k, rfl, hk3, HM⟩ := hrel
    clear H0
    by_cases hk : k < 3
    · have a0 := (unhide HM).sc.h0
      have cm := (unhide HM).ms k hk
      have hcv := Lib.run_convert_string_bytes (P := Tryf.prog) wr 9 22 5 (mark k) (u := .string) Tryf.underlying9 Tryf.underlying22 Tryf.underlying5
      go_wp2_with fail
      refine ((unhide HM).prefix le (unhide HLT) k _).mono ?_
      rintro r w1 ⟨rfl, rfl⟩
      have HM2 := hide ((unhide HM).next (mark k))
      generalize Lib.bytesWorld wr 5 (mark k) = w1 at HM2
      clear a0 cm hcv HM
      go_wp2_with fail
      go_roundw
      case rel => exact ⟨k + 1, by go_num, hk, unhide HM2⟩
      case measure => simp [RowKit.intOf]; omega
    · obtain rfl : k = 3 := by omega
      have HS := hide (unhide HM).sc
      have HB := hide (unhide HM).bel
      clear HM hk hk3
      go_wp2_with fail
      refine wp_loop_rounds 2 ?_
      rw [rounds_succ]
      go_wp2_with fail
      refine (skipBlank_any true 0 0 _ wr (unhide HS) (Nat.le_refl _) (by omega) (fun i h1 h2 => by omega) (fun hx => (unhide HT).line.key.bare.1.plain)).mono ?_
      rintro rw2 w2 ⟨rfl, hs, hB⟩
      have HSw2 := hide hs
      have HBw2 := hide ((unhide HB).trans hB)
      have a0 := hs.h0
      have a1 := hs.h1
      have db := hs.db
      have hlt : 0 < l.length := by omega
      have cq := hs.dat 0 hlt
      have ne1 : (((0 : Nat) : Int) == (l.length : Int)) = false := ne_b (by omega)
      have n91 : (byt l 0 == 91) = false := ne_b (unhide HT).line.key.bare.n91
      generalize byt l 0 = c at cq n91
      clear hs hB
      go_wp2_with fail
      go_quiet (fail)
      go_wp2_with fail
      go_quiet (fail)
      go_wp2_with fail
      refine (keyValue_ok 0 z 0 0 0 _ ((unhide HSw2).drewN _) (unhide HT).line (by omega) (by omega) (by omega) (unhide HL) (unhide HN) (unhide HE)).mono ?_
      rintro r3 w3 ⟨rfl, hs3, hB3⟩
      have HS3 := hide hs3
      have HB3 := hide ((below_drewN (unhide HBw2) _).trans hB3)
      clear hs3 hB3 HSw2 HBw2 a0 a1 db hlt cq ne1 n91
      go_wp2_with fail
      refine (skipLine_any (z + 4) (z + 4) _ w3 (unhide HS3) (Nat.le_refl _) (by have := (unhide HT).len; omega) (fun i h1 h2 => by omega) (unhide HT).line.val.c2).mono ?_
      rintro r4 w4 ⟨rfl, hs4, hB4⟩
      have hlen : z + 4 + 1 = l.length := by have := (unhide HT).len; omega
      rw [hlen] at hs4
      have HS4 := hide hs4
      have HB4 := hide ((unhide HB3).trans hB4)
      clear hs4 hB4 HS3 HB3 hlen
      go_wp2_with fail
      rw [rounds_succ]
      go_wp2_with fail
      refine (skipBlank_any true l.length l.length _ w4 (unhide HS4) (Nat.le_refl _) (Nat.le_refl _) (fun i h1 h2 => by omega) (fun hx => absurd hx (Nat.lt_irrefl _))).mono ?_
      rintro r5 w5 ⟨rfl, hs5, hB5⟩
      have HS5 := hide hs5
      have HB5 := hide ((unhide HB4).trans hB5)
      have a0 := hs5.h0
      have a1 := hs5.h1
      clear hs5 hB5
      go_wp2_with fail
      go_quiet (fail)
      go_wp2_with fail
      go_ret
      exact ⟨rfl, (unhide HS5).drewN _, below_drewN (unhide HB5) _⟩
end Go.Proofs.Qxb6604368aFmt
