/- A set of one counter tells its text: walked. -/
import Derived.Test.YtaphagdbekmngaaGreatDoorPut
import Derived.Laws.BytesArg
namespace Go.Proofs.YtaphagdbekmngaaGreatDoor
open Go.RowKit Go.Maps

/-- A buffer that holds the line. -/
def Lined (B c : Nat) (w W : World) : Prop := ∃ g cap, W.heap[c]? = some (.cells #[.slice (some ⟨g, 0, none⟩) 4 cap] 106 (0, 0)) ∧ W.ownsRow B 5 1 (.slice (some ⟨g, 0, none⟩) 4 cap) 4 lineCells ∧ Below B w W

theorem one_cell {x : Value} {j : Nat} {u : Value} (h : [x][j]? = some u) : j = 0 ∧ u = x := by
  have hj : j < 1 := (List.getElem?_eq_some_iff.1 h).1
  obtain rfl : j = 0 := by omega
  exact ⟨rfl, by simpa using h.symm⟩

set_option maxHeartbeats 4000000 in
set_option maxRecDepth 100000 in
theorem write_one (B sb c : Nat) (w : World) (A : Nat) (hO : OneAt A sb w) (hlow : ∀ b, b < w.heap.size → b ≠ c → b < B) (hc : w.heap[c]? = some (.cells #[.slice none 0 0] 106 (0, 0))) (hB : B ≤ c) :
    Calls Tryz.prog 46 #[.pointer (some ⟨sb, 0, none⟩), .iface 110 (.pointer (some ⟨c, 0, none⟩))] w fun e W => e = .returned (.tuple #[]) ∧ Lined B c w W := by
  obtain ⟨i0, hi, hz0, hz1, hz2⟩ := info_parts info69
  obtain ⟨g, cap, nb, b, mb, o1, o2, o3, o4, -⟩ := hO
  have hcl := lt_of_block hc
  have hgb : ∃ arr, w.heap[g]? = some (.cells arr 69 (0, 0)) := row_block o2 rfl
  have ne : ∀ x arr t fr, w.heap[x]? = some (.cells arr t fr) → t ≠ 106 → x < B := fun x arr t fr hx ht => hlow x (lt_of_block hx) (fun e => by rw [e, hc] at hx; simp at hx; exact ht hx.2.1.symm)
  have lsb := ne _ _ _ _ o1 (by decide)
  have lnb := ne _ _ _ _ o3 (by decide)
  have lb := ne _ _ _ _ o4 (by decide)
  have lg := ne _ _ _ _ hgb.choose_spec (by decide)
  have s0 : w.cell? ⟨sb, 0, none⟩ = some (.slice (some ⟨g, 0, none⟩) 1 cap) := by rw [cell_at o1]; rfl
  have s2 : w.cell? ⟨sb, 2, none⟩ = some (.bool false) := by rw [cell_at o1]; rfl
  have s3 : w.cell? ⟨sb, 3, none⟩ = some (.slice none 0 0) := by rw [cell_at o1]; rfl
  have K : ∀ W : World, Below B w W → W.cell? ⟨sb, 0, none⟩ = some (.slice (some ⟨g, 0, none⟩) 1 cap) ∧ W.cell? ⟨sb, 2, none⟩ = some (.bool false) ∧ W.cell? ⟨sb, 3, none⟩ = some (.slice none 0 0) ∧ W.cell? ⟨nb, 0, none⟩ = some (.string ⟨#[97]⟩) ∧ W.cell? ⟨nb, 1, none⟩ = some (.iface 45 (ptrTo b)) ∧ W.cell? ⟨b, 0, none⟩ = some (.int .u64 3) ∧ W.cell? ⟨g, 0, none⟩ = some (ptrTo nb) := fun W h => by
    refine ⟨(h.cell (p := ⟨sb, 0, none⟩) lsb).trans s0, (h.cell (p := ⟨sb, 2, none⟩) lsb).trans s2, (h.cell (p := ⟨sb, 3, none⟩) lsb).trans s3, (h.cell (p := ⟨nb, 0, none⟩) lnb).trans (by rw [cell_at o3]; rfl), (h.cell (p := ⟨nb, 1, none⟩) lnb).trans (by rw [cell_at o3]; rfl), (h.cell (p := ⟨b, 0, none⟩) lb).trans (by rw [cell_at o4]; rfl), (h.cell (p := ⟨g, 0, none⟩) lg).trans ?_⟩
    have := World.ownsRow.cells o2 (g := g) rfl 0 (ptrTo nb) rfl
    simpa [Addr.add] using this
  have hBw : B ≤ w.heap.size := by omega
  have hb1 := (Below.refl B w).alloc hBw (.cells #[.slice none 0 0] 106)
  obtain ⟨k0, k2, k3, k4, k5, k6, k7⟩ := K _ hb1
  have hc1 := (Below.heap_alloc w (.cells #[.slice none 0 0] 106) c hcl).trans hc
  have hn1 := heap_alloc_new w (.cells #[.slice none 0 0] 106)
  have HK := Lib.hid K
  have HC1 := Lib.hid hc1
  have HN1 := Lib.hid hn1
  have HB1 := Lib.hid hb1
  clear hc K o1 o2 o3 o4 hgb ne hlow hc1 hn1 hb1 s0 s2 s3
  go_enter Tryz.func46, Tryz.ntmps46
  go_wp2_with (first | (go_at_call 69; refine (sort_one _ _ _ _).mono ?_; rintro e w' ⟨rfl, rfl⟩) | (at_builtin; go_must (refine wpList_append_own_at _ rfl _ _ 64 rfl B 69 i0 (.pointer none) 1 8 Tryz.underlying64 hi hz0 hz1 hz2 rfl (by decide) (.slice none 0 0) 0 [] rfl (World.ownsRow_nil _ _ _ _) ⟨g, 0, none⟩ 1 cap [ptrTo nb] rfl rfl (fun j u hu => by obtain ⟨rfl, rfl⟩ := one_cell hu; exact k7) (by simp [Value.oneCell']) (by unfold maxLen; omega) (by omega) (by simp; omega) ?_); intro v' w2 hown2 hgrow2 hnil2 hloc2; obtain ⟨g2, cap2, rfl, hgb2, hgl2⟩ := World.ownsRow.form (show w2.ownsRow B 69 1 v' 1 [ptrTo nb] from hown2) (by omega); have r0 : w2.cell? ⟨g2, 0, none⟩ = some (ptrTo nb) := (by have := World.ownsRow.cells (show w2.ownsRow B 69 1 (.slice (some ⟨g2, 0, none⟩) 1 cap2) 1 [ptrTo nb] from hown2) (g := g2) rfl 0 (ptrTo nb) rfl; simpa [Addr.add] using this); have hb2 := HB1.out.grown hgrow2 (by simp; omega) (fun k hk => by cases hk); have hc2 := (hgrow2.block c (by simp; omega) (show some c ≠ (Value.slice none 0 0).ownBlock from by simp [Value.ownBlock])).trans HC1.out; have hn2 := (hgrow2.block w.heap.size (by simp) (show some w.heap.size ≠ (Value.slice none 0 0).ownBlock from by simp [Value.ownBlock])).trans HN1.out; obtain ⟨m0, m2, m3, m4, m5, m6, m7⟩ := HK.out _ hb2; have HB2 := Lib.hid hb2; have HC2 := Lib.hid hc2; have HN2 := Lib.hid hn2; clear hown2 hgrow2 hnil2 hloc2 hb2 hc2 hn2))
  refine wp_loop_rounds 2 ?_
  rw [rounds_succ]
  go_wp2_with (first | (go_at_call 72; refine (family_a _).mono ?_; rintro e w' ⟨rfl, rfl⟩) | (go_at_call 128; refine (type_counter _ _).mono ?_; rintro e w' ⟨rfl, rfl⟩))
  go_region_held3 (fun w' => w'.cell? ⟨sb, 2, none⟩ = some (.bool false) ∧ w'.cell? ⟨nb, 0, none⟩ = some (.string ⟨#[97]⟩)) (first | exact ⟨m2, m4⟩ | go_keep)
    (first | (go_at_call 73; refine (meta_no _ _ _ _).mono ?_; rintro e w' ⟨rfl, rfl⟩))
  go_wp2_with fail
  go_region_held3 (fun w' => w'.cell? ⟨nb, 1, none⟩ = some (.iface 45 (ptrTo b)) ∧ w'.cell? ⟨nb, 0, none⟩ = some (.string ⟨#[97]⟩)) (first | exact ⟨m5, m4⟩ | exact ⟨x5, x4⟩ | go_keep)
    (first | (go_at_call 127; refine (marshal_line w.heap.size w.heap.size b w2.drew.drew HN2.out (Nat.le_refl _) m6).mono ?_; rintro e w3 ⟨rfl, v3, hw3⟩; obtain ⟨hv3, g3, cap3, p1, p2, p3⟩ := hw3; have hb3 := HB2.out.drew.drew.trans (p3.mono hBw); have hc3 : w3.heap[c]? = _ := (p3.block c hcl).trans HC2.out; have y0 : w3.cell? ⟨w.heap.size, 0, none⟩ = some (.slice (some ⟨g3, 0, none⟩) 4 cap3) := (by rw [cell_at p1]; rfl); have HB3 := Lib.hid hb3; have HC3 := Lib.hid hc3; have HP2 := Lib.hid p2; clear p1 p2 p3 hc3 hv3; obtain ⟨x0, x2, x3, x4, x5, x6, x7⟩ := HK.out _ hb3; clear hb3))
  go_wp2_with fail
  rw [rounds_succ]
  go_wp2_with (first | (go_at_call 212; refine (write_any B c g3 4 cap3 lineCells w3 HC3.out hB rfl (by omega) (by omega) (World.ownsRow.cells HP2.out rfl) (by simp [lineCells, Value.oneCell'])).mono ?_; rintro e w4 ⟨rfl, hw⟩; have HW := Lib.hid hw; clear hw))
  refine wp_loop_rounds 1 ?_
  rw [rounds_succ]
  go_wp2_with fail
  go_end0
  obtain ⟨g4, cap4, p1, p2, p3⟩ := HW.out
  exact ⟨rfl, g4, cap4, p1, p2, HB3.out.trans p3⟩

theorem line_back (W : World) (g cap : Nat) (B : Nat) (h : W.ownsRow B 5 1 (.slice (some ⟨g, 0, none⟩) 4 cap) 4 lineCells) : (convert 22 9 (.slice (some ⟨g, 0, none⟩) 4 cap)).run Tryz.prog W = .ok (.string ⟨#[97, 32, 51, 10]⟩) W := by
  have := run_convert_bytes_arg (P := Tryz.prog) W 22 5 Tryz.underlying22 Tryz.underlying5 g 0 4 cap [97, 32, 51, 10] rfl (fun i hi => by
    have hc := World.ownsRow.cells h (g := g) rfl i
    have ha : (⟨g, 0, none⟩ : Addr).add i = ⟨g, 0 + i, none⟩ := by unfold Addr.add; split <;> simp_all
    rw [ha] at hc
    obtain rfl | rfl | rfl | rfl : i = 0 ∨ i = 1 ∨ i = 2 ∨ i = 3 := by omega
    all_goals exact hc _ rfl) 9 Tryz.underlying9
  rw [this]
  rfl

set_option maxHeartbeats 4000000 in
set_option maxRecDepth 100000 in
/-- The text of a set with the one counter a. -/
theorem text_one (sb : Nat) (w : World) (A : Nat) (hO : OneAt A sb w) :
    Calls Tryz.prog 34 #[.pointer (some ⟨sb, 0, none⟩)] w fun e W => e = .returned (.string ⟨#[97, 32, 51, 10]⟩) ∧ Below w.heap.size w W := by
  have hO1 : OneAt A sb (w.alloc (.cells #[.slice none 0 0] 106)) := by
    obtain ⟨g, cap, nb, b, mb, o1, o2, o3, o4, o5⟩ := hO
    exact ⟨g, cap, nb, b, mb, (Below.heap_alloc _ _ _ (lt_of_block o1)).trans o1, o2.alloc _, (Below.heap_alloc _ _ _ (lt_of_block o3)).trans o3, (Below.heap_alloc _ _ _ (lt_of_block o4)).trans o4, o5⟩
  have H := Lib.hid (write_one w.heap.size sb w.heap.size (w.alloc (.cells #[.slice none 0 0] 106)) A hO1 (fun b hb hne => by simp at hb; omega) (heap_alloc_new w _) (Nat.le_refl _))
  clear hO hO1
  go_enter Tryz.func34, Tryz.ntmps34
  go_wp2_with (first | (go_at_call 46; refine H.out.mono ?_; rintro e w2 ⟨rfl, g, cap, p1, p2, p3⟩; have x0 : w2.cell? ⟨w.heap.size, 0, none⟩ = some (.slice (some ⟨g, 0, none⟩) 4 cap) := (by rw [cell_at p1]; rfl); have hcv := line_back w2 g cap _ p2; have HP3 := Lib.hid p3; clear p1 p2 p3))
  go_ret
  exact ⟨rfl, ((Below.refl _ w).alloc (Nat.le_refl _) _).trans HP3.out⟩

set_option maxHeartbeats 4000000 in
set_option maxRecDepth 100000 in
/-- The text behind one step that adds three to the counter a. -/
theorem play_text (w : World) (R : Nat) (hR : w.heap[R]? = some (.cells #[.int .i64 0, .string ⟨#[97]⟩, .int .i64 3] 31 (0, 0))) :
    Calls Tryz.prog 16 #[.slice (some ⟨R, 0, none⟩) 1 1] w fun e W => e = .returned (.string ⟨#[97, 32, 51, 10]⟩) ∧ Below w.heap.size w W := by
  have H := Lib.hid (set_one w R hR)
  clear hR
  go_enter Tryz.func16, Tryz.ntmps16
  go_wp2_with (first | (go_at_call 11; refine H.out.mono ?_; rintro e w2 ⟨sb, rfl, hO, hB⟩; have HO := Lib.hid hO; have HB := Lib.hid hB; clear hO hB) | (go_at_call 34; refine (text_one sb _ _ HO.out).mono ?_; rintro e w3 ⟨rfl, hB3⟩; have HB3 := Lib.hid hB3; clear hB3))
  go_ret
  exact ⟨rfl, HB.out.trans (HB3.out.mono HB.out.size)⟩

set_option maxHeartbeats 4000000 in
set_option maxRecDepth 100000 in
/-- The law's own example holds. -/
theorem sane_true (w : World) : Calls Tryz.prog 8 #[] w fun e W => e = .returned (.bool true) ∧ Below w.heap.size w W := by
  have H := Lib.hid (play_text (w.alloc (.cells #[.int .i64 0, .string ⟨#[97]⟩, .int .i64 3] 31)) w.heap.size (heap_alloc_new w _))
  go_enter Tryz.func8, Tryz.ntmps8
  go_wp2_with (first | (go_at_call 16; refine H.out.mono ?_; rintro e w2 ⟨rfl, hB⟩; have HB := Lib.hid hB; clear hB))
  go_ret
  exact ⟨rfl, ((Below.refl _ w).alloc (Nat.le_refl _) _).trans (HB.out.mono (by simp))⟩
end Go.Proofs.YtaphagdbekmngaaGreatDoor
