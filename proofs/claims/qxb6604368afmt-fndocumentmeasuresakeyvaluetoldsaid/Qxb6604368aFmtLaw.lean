/- The law (4). -/
import Derived.Test.Qxb6604368aFmtZZ
import Derived.Lib.UnsafeStr
import Derived.Lib.AppendStr
import Derived.Deep.OwnRows
import Derived.WalkMore
namespace Go.Proofs.Qxb6604368aFmt
open Go.RowKit Go.Extern.Stop Go.Stop Go.Extern

theorem Tryf.info5 : (Tryf.prog.info? 5).map (fun i => (i.zero, i.size, i.bytes)) = some (some (.int .u8 0), 1, 1) := by kernel_rfl

theorem add_is (g j : Nat) : (⟨g, 0, none⟩ : Addr).add j = ⟨g, j, none⟩ := by
  by_cases h : j = 0 <;> simp [Addr.add, h]

theorem lit_cells (w : World) (C : Array Value) (t : TypeId) : ∀ (j : Nat) (u : Value), C.toList[j]? = some u → (w.alloc (.cells C t)).cell? ((⟨w.heap.size, 0, none⟩ : Addr).add j) = some u := fun j u hj => by
  have h := World.cell?_alloc_mark w C t (0, 0) j
  rw [add_is, h]
  simpa using hj

theorem cells_byt (l : List UInt8) (i : Nat) (h : i < l.length) : (Lib.byteCells l)[i]? = some (.int .u8 (byt l i)) := by
  simp [Lib.byteCells, byt, List.getElem?_eq_getElem h]

theorem dat_of {w : World} {B n : Nat} {v : Value} {xs : List Value} (h : w.ownsRow B 5 1 v n xs) (l : List UInt8) (hx : xs = Lib.byteCells l) (hn : n = l.length) (h0 : 0 < l.length) (hl : l.length ≤ 1048576) :
    ∃ d cap, v = .slice (some ⟨d, 0, none⟩) l.length cap ∧ Dat d cap l w := by
  subst hx hn
  rcases h.2 with ⟨rfl, h1⟩ | ⟨g, cap, cur, rfl, hb, hg, hc, _⟩
  · omega
  · refine ⟨g, cap, rfl, ⟨fun i hi => ?_, (h.lt g rfl).2, hl, hc⟩⟩
    have := h.cells (g := g) rfl i _ (cells_byt l i hi)
    rwa [add_is] at this

def RetT (w : World) (r : Ending) (w' : World) : Prop := r = .returned (.bool true) ∧ Below w.heap.size w w'

theorem str_cells (k : ByteArray) : Lib.strCells k = Lib.byteCells (lst k) := rfl

set_option maxHeartbeats 4000000 in
set_option maxRecDepth 100000 in
theorem law_any (F : Interp) (h k : ByteArray) (w : World) (hF : F.answers w.tape) (h1 : h.size ≤ 9223372036854775807) (h2 : k.size ≤ 9223372036854775807) :
    Calls Tryf.prog 4 #[.string h, .string k] w (RetT w) := by
  obtain ⟨i0, hi, hz0, hz1, hz2⟩ := info_parts Tryf.info5
  have HF := hide hF
  clear hF
  go_enter Tryf.func4, Tryf.ntmps4
  go_wp2_with fail
  refine (bytes_any h k w h1 h2).mono ?_
  rintro r w' ⟨t, rfl, hw, ht⟩
  obtain rfl := hw.symm
  clear hw
  cases t
  · clear ht
    go_wp2_with fail
    go_ret
    exact ⟨rfl, Below.refl _ _⟩
  obtain ⟨s1, s2⟩ := ht rfl
  clear ht h1 h2
  by_cases e1 : 65536 < h.size
  · go_wp2_with fail
    go_ret
    exact ⟨rfl, Below.refl _ _⟩
  by_cases e2 : 65536 < k.size
  · go_wp2_with fail
    go_ret
    exact ⟨rfl, Below.refl _ _⟩
  have e1' : h.size ≤ 65536 := by omega
  have e2' : k.size ≤ 65536 := by omega
  clear e1 e2 s1 s2
  go_wp2_with fail
  refine (dotted_any h true w (by omega)).mono ?_
  rintro r w' ⟨t, rfl, hw, ht⟩
  obtain rfl := hw.symm
  clear hw
  have HT := hide ht
  clear ht
  cases t
  · go_wp2_with fail
    go_ret
    exact ⟨rfl, Below.refl _ _⟩
  go_wp2_with fail
  refine (dotted_any k false w (by omega)).mono ?_
  rintro r w' ⟨t, rfl, hw, ht⟩
  obtain rfl := hw.symm
  clear hw
  have HT2 := hide ht
  clear ht
  cases t
  · go_wp2_with fail
    go_ret
    exact ⟨rfl, Below.refl _ _⟩
  have hk : Hid (DK (lst k)) := by
    rcases (by first | exact unhide HT2 rfl | exact unhide HT2 trivial | exact .inr (unhide HT2 trivial) : (k.size = 0 ∧ false = true) ∨ DK (lst k)) with x | x
    · cases x.2
    · exact x
  have hh : Hid (h.size = 0 ∨ DK (lst h)) := by
    rcases (by first | exact unhide HT rfl | exact unhide HT trivial | exact (unhide HT trivial).imp (fun x => ⟨x.1, rfl⟩) id : (h.size = 0 ∧ true = true) ∨ DK (lst h)) with x | x
    · exact .inl x.1
    · exact .inr x
  clear HT HT2
  have hszk := lst_len k
  have hszh := lst_len h
  have hdk := dots_le (lst k) 0 k.size
  have hk0 : 0 < k.size := by have := (unhide hk).ne; omega
  by_cases h0 : h.size = 0
  · obtain rfl := isEmpty_of h0
    have HSh := hide (shapeA (lst k) (unhide hk))
    rw [hszk] at HSh
    clear hh hszh h0
    go_wp2_with fail
    refine (dots_any k _ (by omega)).mono ?_
    rintro r1 w' ⟨rfl, hw⟩
    obtain rfl := hw.symm
    clear hw
    have HSh2 := unhide HSh
    obtain ⟨D, hD⟩ : ∃ D, D = dots (lst k) 0 k.size := ⟨_, rfl⟩
    rw [← hD] at HSh2 hdk ⊢
    have HSh := hide HSh2
    clear HSh2 hD
    obtain ⟨l, hl⟩ : ∃ l, l = lst k ++ tail5 := ⟨_, rfl⟩
    have HL := hide hl
    have HLEN : Hid (l.length = k.size + 5) := by rw [hl]; show (lst k ++ tail5).length = _; rw [List.length_append, hszk]; rfl
    have HX : Hid ([] ++ Lib.strCells k ++ [.int .u8 32, .int .u8 61, .int .u8 32, .int .u8 49, .int .u8 10] = Lib.byteCells (lst k ++ tail5)) := by show _ = _; rw [Lib.byteCells_append]; rfl
    have HSh3 := unhide HSh
    rw [← hl] at HSh3
    have HSh := hide HSh3
    clear HSh3 hl
    go_wp2_with (at_make; refine wpList_make_own _ rfl _ _ 22 rfl w.heap.size 5 i0 (.int .u8 0) 1 Tryf.underlying22 hi hz0 hz1 .i64 .i64 _ (k.size + 16) rfl rfl ?b1 ?b2 ?b3 (Nat.le_refl _) ?_)
    case b1 => first | rfl | go_num | (simp; omega)
    case b2 => rw [hz2]; omega
    case b3 => unfold maxLen; omega
    intro w1 hown1 hgrow1
    have hbel1 : Below w.heap.size w w1 := (Below.refl _ _).grown hgrow1 (Nat.le_refl _) (fun j hj => by cases hj)
    have hwz1 := hbel1.size
    clear hgrow1
    go_wp2_with (at_builtin; refine Lib.wpList_append_own_string _ rfl _ _ 22 9 rfl w.heap.size 5 i0 Tryf.underlying22 Tryf.underlying9 hi hz0 hz1 hz2 _ _ _ rfl hown1 k rfl ?d3 ?d4 ?d5 ?_)
    case d3 => unfold maxLen; omega
    case d4 => omega
    case d5 => omega
    intro v2 w2 hown2 hgrow2 _
    have hbel2 : Below w.heap.size w w2 := hbel1.grown hgrow2 hwz1 (fun j hj => (hown1.lt j hj).1)
    have hwz2 := hbel2.size
    clear hown1 hgrow2 hbel1 hwz1
    go_wp2_with (at_builtin; refine wpList_append_own _ rfl _ _ 22 rfl w.heap.size 5 i0 (.int .u8 0) 1 1 Tryf.underlying22 hi hz0 hz1 hz2 rfl (by decide) _ _ _ rfl (hown2.alloc _) ⟨w2.heap.size, 0, none⟩ 5 5 [.int .u8 32, .int .u8 61, .int .u8 32, .int .u8 49, .int .u8 10] rfl rfl ?c1 ?c2 ?c3 ?c4 ?c5 ?_)
    case c1 => exact lit_cells w2 #[.int .u8 32, .int .u8 61, .int .u8 32, .int .u8 49, .int .u8 10] 5
    case c2 => first | rfl | decide | (intro x hx; simp at hx; subst hx; rfl)
    case c3 => unfold maxLen; omega
    case c4 => omega
    case c5 => simp; omega
    intro v3 w3 hown3 hgrow3 _
    have hbel3 : Below w.heap.size w w3 := (hbel2.alloc hwz2 _).grown hgrow3 (by simp; omega) (fun j hj => (hown2.lt j hj).1)
    have hwz3 := hbel3.size
    clear hown2 hgrow3 hbel2 hwz2
    have hlen : l.length = k.size + 5 := unhide HLEN
    obtain ⟨d, cap, rfl, hdat⟩ := dat_of hown3 l (by rw [unhide HL]; first | exact unhide HX | (rw [← unhide HX]; simp)) (by omega) (by omega) (by omega)
    have HD := hide hdat
    have HB := hide hbel3
    clear hlen hown3 hdat hbel3 hwz3 HL HX HLEN
    go_wp2_with fail
    refine (zz_ok (unhide HSh) _ (unhide HD) _ _ _ ?e1 ?e2 ?e3).mono ?_
    case e1 => omega
    case e2 => omega
    case e3 => omega
    rintro r7 wa ⟨rfl, hBa⟩
    rw [show ((D + 2 : Nat) : Int) = (D : Int) + 1 + 1 by omega]
    have HBa := hide ((unhide HB).trans (hBa.mono (unhide HB).size))
    have HDa := hide ((unhide HD).below hBa)
    clear hBa HB HD
    go_wp2_with fail
    refine (zz_past F (unhide HSh) _ (by rw [(unhide HBa).tape]; exact unhide HF) (unhide HDa) _ _ _ (.inl (by omega))).mono ?_
    rintro rb wb ⟨⟨xb, yb, ab, rfl⟩, hBb⟩
    have HBb := hide ((unhide HBa).trans (hBb.mono (unhide HBa).size))
    have HDb := hide ((unhide HDa).below hBb)
    clear hBb HBa HDa
    go_wp2_with fail
    refine (zz_past F (unhide HSh) _ (by rw [(unhide HBb).tape]; exact unhide HF) (unhide HDb) _ _ _ (.inr (.inl (by omega)))).mono ?_
    rintro rc wc ⟨⟨xc, yc, ac, rfl⟩, hBc⟩
    have HBc := hide ((unhide HBb).trans (hBc.mono (unhide HBb).size))
    have HDc := hide ((unhide HDb).below hBc)
    clear hBc HBb HDb
    go_wp2_with fail
    refine (zz_past F (unhide HSh) _ (by rw [(unhide HBc).tape]; exact unhide HF) (unhide HDc) _ _ _ (.inr (.inr (by omega)))).mono ?_
    rintro rd wd ⟨⟨xd, yd, ad, rfl⟩, hBd⟩
    have HBd := hide ((unhide HBc).trans (hBd.mono (unhide HBc).size))
    have HDd := hide ((unhide HDc).below hBd)
    clear hBd HBc HDc
    go_wp2_with fail
    go_ret
    exact ⟨rfl, unhide HBd⟩
  · have hdh := dots_le (lst h) 0 h.size
    have hh' : Hid (DK (lst h)) := by rcases unhide hh with x | x; exact absurd x h0; exact x
    have HSh := hide (shapeB (lst h) (lst k) (unhide hh') (unhide hk))
    rw [hszk, hszh] at HSh
    have hne := notEmpty_of h0
    clear hh h0
    go_wp2_with fail
    refine (dots_any h _ (by omega)).mono ?_
    rintro r0 w' ⟨rfl, hw⟩
    obtain rfl := hw.symm
    clear hw
    have HSh2 := unhide HSh
    obtain ⟨H, hH⟩ : ∃ H, H = dots (lst h) 0 h.size := ⟨_, rfl⟩
    rw [← hH] at HSh2 hdh ⊢
    have HSh := hide HSh2
    clear HSh2 hH
    go_wp2_with fail
    refine (dots_any k _ (by omega)).mono ?_
    rintro r1 w' ⟨rfl, hw⟩
    obtain rfl := hw.symm
    clear hw
    have HSh2 := unhide HSh
    obtain ⟨D, hD⟩ : ∃ D, D = dots (lst k) 0 k.size := ⟨_, rfl⟩
    rw [← hD] at HSh2 hdk ⊢
    have HSh := hide HSh2
    clear HSh2 hD
    obtain ⟨l, hl⟩ : ∃ l, l = docB (lst h) (lst k) := ⟨_, rfl⟩
    have HL := hide hl
    have HLEN : Hid (l.length = h.size + k.size + 8) := by rw [hl]; show (docB (lst h) (lst k)).length = _; simp [docB, tail5, hszk, hszh]; omega
    have HX : Hid ([] ++ [.int .u8 91] ++ Lib.strCells h ++ [.int .u8 93, .int .u8 10] ++ Lib.strCells k ++ [.int .u8 32, .int .u8 61, .int .u8 32, .int .u8 49, .int .u8 10] = Lib.byteCells (docB (lst h) (lst k))) := by
      show _ = _
      unfold docB
      rw [Lib.byteCells_append, Lib.byteCells_append, Lib.byteCells_append, Lib.byteCells_append, List.append_assoc _ (Lib.strCells k)]
      rfl
    have HSh3 := unhide HSh
    rw [← hl] at HSh3
    have HSh := hide HSh3
    clear HSh3 hl
    go_wp2_with (at_make; refine wpList_make_own _ rfl _ _ 22 rfl w.heap.size 5 i0 (.int .u8 0) 1 Tryf.underlying22 hi hz0 hz1 .i64 .i64 _ (h.size + k.size + 16) rfl rfl ?b1 ?b2 ?b3 (Nat.le_refl _) ?_)
    case b1 => first | rfl | go_num | (simp; omega)
    case b2 => rw [hz2]; omega
    case b3 => unfold maxLen; omega
    intro w1 hown1 hgrow1
    have hbel1 : Below w.heap.size w w1 := (Below.refl _ _).grown hgrow1 (Nat.le_refl _) (fun j hj => by cases hj)
    have hwz1 := hbel1.size
    clear hgrow1
    go_wp2_with (at_builtin; refine wpList_append_own _ rfl _ _ 22 rfl w.heap.size 5 i0 (.int .u8 0) 1 1 Tryf.underlying22 hi hz0 hz1 hz2 rfl (by decide) _ _ _ rfl (hown1.alloc _) ⟨w1.heap.size, 0, none⟩ 1 1 [.int .u8 91] rfl rfl ?c1 ?c2 ?c3 ?c4 ?c5 ?_)
    case c1 => exact lit_cells w1 #[.int .u8 91] 5
    case c2 => first | rfl | decide | (intro x hx; simp at hx; subst hx; rfl)
    case c3 => unfold maxLen; omega
    case c4 => omega
    case c5 => simp; omega
    intro v2 w2 hown2 hgrow2 _
    have hbel2 : Below w.heap.size w w2 := (hbel1.alloc hwz1 _).grown hgrow2 (by simp; omega) (fun j hj => (hown1.lt j hj).1)
    have hwz2 := hbel2.size
    clear hown1 hgrow2 hbel1 hwz1
    go_wp2_with (at_builtin; refine Lib.wpList_append_own_string _ rfl _ _ 22 9 rfl w.heap.size 5 i0 Tryf.underlying22 Tryf.underlying9 hi hz0 hz1 hz2 _ _ _ rfl hown2 h rfl ?d3 ?d4 ?d5 ?_)
    case d3 => unfold maxLen; omega
    case d4 => omega
    case d5 => omega
    intro v3 w3 hown3 hgrow3 _
    have hbel3 : Below w.heap.size w w3 := hbel2.grown hgrow3 hwz2 (fun j hj => (hown2.lt j hj).1)
    have hwz3 := hbel3.size
    clear hown2 hgrow3 hbel2 hwz2
    go_wp2_with (at_builtin; refine wpList_append_own _ rfl _ _ 22 rfl w.heap.size 5 i0 (.int .u8 0) 1 1 Tryf.underlying22 hi hz0 hz1 hz2 rfl (by decide) _ _ _ rfl (hown3.alloc _) ⟨w3.heap.size, 0, none⟩ 2 2 [.int .u8 93, .int .u8 10] rfl rfl ?c1 ?c2 ?c3 ?c4 ?c5 ?_)
    case c1 => exact lit_cells w3 #[.int .u8 93, .int .u8 10] 5
    case c2 => first | rfl | decide | (intro x hx; simp at hx; subst hx; rfl)
    case c3 => unfold maxLen; omega
    case c4 => omega
    case c5 => simp; omega
    intro v4 w4 hown4 hgrow4 _
    have hbel4 : Below w.heap.size w w4 := (hbel3.alloc hwz3 _).grown hgrow4 (by simp; omega) (fun j hj => (hown3.lt j hj).1)
    have hwz4 := hbel4.size
    clear hown3 hgrow4 hbel3 hwz3
    go_wp2_with (at_builtin; refine Lib.wpList_append_own_string _ rfl _ _ 22 9 rfl w.heap.size 5 i0 Tryf.underlying22 Tryf.underlying9 hi hz0 hz1 hz2 _ _ _ rfl hown4 k rfl ?d3 ?d4 ?d5 ?_)
    case d3 => unfold maxLen; omega
    case d4 => omega
    case d5 => omega
    intro v5 w5 hown5 hgrow5 _
    have hbel5 : Below w.heap.size w w5 := hbel4.grown hgrow5 hwz4 (fun j hj => (hown4.lt j hj).1)
    have hwz5 := hbel5.size
    clear hown4 hgrow5 hbel4 hwz4
    go_wp2_with (at_builtin; refine wpList_append_own _ rfl _ _ 22 rfl w.heap.size 5 i0 (.int .u8 0) 1 1 Tryf.underlying22 hi hz0 hz1 hz2 rfl (by decide) _ _ _ rfl (hown5.alloc _) ⟨w5.heap.size, 0, none⟩ 5 5 [.int .u8 32, .int .u8 61, .int .u8 32, .int .u8 49, .int .u8 10] rfl rfl ?c1 ?c2 ?c3 ?c4 ?c5 ?_)
    case c1 => exact lit_cells w5 #[.int .u8 32, .int .u8 61, .int .u8 32, .int .u8 49, .int .u8 10] 5
    case c2 => first | rfl | decide | (intro x hx; simp at hx; subst hx; rfl)
    case c3 => unfold maxLen; omega
    case c4 => omega
    case c5 => simp; omega
    intro v6 w6 hown6 hgrow6 _
    have hbel6 : Below w.heap.size w w6 := (hbel5.alloc hwz5 _).grown hgrow6 (by simp; omega) (fun j hj => (hown5.lt j hj).1)
    have hwz6 := hbel6.size
    clear hown5 hgrow6 hbel5 hwz5
    have hlen : l.length = h.size + k.size + 8 := unhide HLEN
    obtain ⟨d, cap, rfl, hdat⟩ := dat_of hown6 l (by rw [unhide HL]; first | exact unhide HX | (rw [← unhide HX]; simp)) (by omega) (by omega) (by omega)
    have HD := hide hdat
    have HB := hide hbel6
    clear hlen hown6 hdat hbel6 hwz6 HL HX HLEN
    go_wp2_with fail
    refine (zz_ok (unhide HSh) _ (unhide HD) _ _ _ ?e1 ?e2 ?e3).mono ?_
    case e1 => omega
    case e2 => omega
    case e3 => omega
    rintro r7 wa ⟨rfl, hBa⟩
    rw [show ((H + 1 + (D + 2) : Nat) : Int) = (H : Int) + 1 + ((D : Int) + 1) + 1 by omega]
    have HBa := hide ((unhide HB).trans (hBa.mono (unhide HB).size))
    have HDa := hide ((unhide HD).below hBa)
    clear hBa HB HD
    go_wp2_with fail
    refine (zz_past F (unhide HSh) _ (by rw [(unhide HBa).tape]; exact unhide HF) (unhide HDa) _ _ _ (.inl (by omega))).mono ?_
    rintro rb wb ⟨⟨xb, yb, ab, rfl⟩, hBb⟩
    have HBb := hide ((unhide HBa).trans (hBb.mono (unhide HBa).size))
    have HDb := hide ((unhide HDa).below hBb)
    clear hBb HBa HDa
    go_wp2_with fail
    refine (zz_past F (unhide HSh) _ (by rw [(unhide HBb).tape]; exact unhide HF) (unhide HDb) _ _ _ (.inr (.inl (by omega)))).mono ?_
    rintro rc wc ⟨⟨xc, yc, ac, rfl⟩, hBc⟩
    have HBc := hide ((unhide HBb).trans (hBc.mono (unhide HBb).size))
    have HDc := hide ((unhide HDb).below hBc)
    clear hBc HBb HDb
    go_wp2_with fail
    refine (zz_past F (unhide HSh) _ (by rw [(unhide HBc).tape]; exact unhide HF) (unhide HDc) _ _ _ (.inr (.inr (by omega)))).mono ?_
    rintro rd wd ⟨⟨xd, yd, ad, rfl⟩, hBd⟩
    have HBd := hide ((unhide HBc).trans (hBd.mono (unhide HBc).size))
    have HDd := hide ((unhide HDc).below hBd)
    clear hBd HBc HDc
    go_wp2_with fail
    go_ret
    exact ⟨rfl, unhide HBd⟩
end Go.Proofs.Qxb6604368aFmt
