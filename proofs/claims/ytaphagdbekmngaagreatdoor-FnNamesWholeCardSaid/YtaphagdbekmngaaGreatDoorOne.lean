/- One counter in a set: what lies where. -/
import Derived.Test.YtaphagdbekmngaaGreatDoorNames
namespace Go.Proofs.YtaphagdbekmngaaGreatDoor
open Go.RowKit Go.Maps

set_option maxHeartbeats 400000 in
/-- A NAME OF ONE LETTER IS GOOD. -/
theorem validate_one (a : UInt8) (ha : 97 ≤ (a.toNat : Int) ∧ (a.toNat : Int) ≤ 122) (w : World) :
    Calls Tryz.prog 36 #[.string ⟨#[a]⟩] w fun e w' => e = .returned .nilIface ∧ w = w' := by
  have hi := Lib.hid (show Lib.indexByte [a] 123 = -1 by simp [Lib.indexByte, ne123 a ha.2])
  have H := ident_one a ha w
  clear ha
  go_enter Tryz.func36, Tryz.ntmps36
  go_wp2_with fail
  refine (idx_any _ _ (-1) _ hi.out).mono ?_
  rintro e w' ⟨rfl, rfl⟩
  go_wp2_with fail
  refine H.mono ?_
  rintro e w' ⟨rfl, rfl⟩
  go_wp2_with fail
  go_ret
  exact ⟨rfl, rfl⟩

/-- The first counter of a set. -/
def FirstAt (B : Nat) (w : World) (sb mb : Nat) (l : List UInt8) (W : World) : Prop :=
  W.heap[w.heap.size]? = some (.cells #[.int .u64 0] 84 (0, 0)) ∧ W.heap[w.heap.size + 1]? = some (.cells #[.string ⟨l.toArray⟩, .iface 45 (ptrTo w.heap.size), .bool false] 73 (0, 0)) ∧
    (∃ g cap, W.heap[sb]? = some (.cells #[.slice (some ⟨g, 0, none⟩) 1 cap, .map (some mb), .bool false, .slice none 0 0] 68 (0, 0)) ∧ W.ownsRow B 69 1 (.slice (some ⟨g, 0, none⟩) 1 cap) 1 [ptrTo (w.heap.size + 1)]) ∧ Below B w W ∧ Keeps31 w W
def First (B : Nat) (w : World) (sb mb : Nat) (l : List UInt8) (e : Ending) (W : World) : Prop := e = .returned (ptrTo w.heap.size) ∧ FirstAt B w sb mb l W

theorem first_new {B N : Nat} {cls : Cls} {w : World} {sb : Nat} {av : Value} {mb : Nat} {D : DataW Unit} {n : Nat} (h : Inv B N cls w sb [] av mb D n) (l : List UInt8) (w1 : World)
    (hg1 : ((w.alloc (.cells #[.int .u64 0] 84)).alloc (.cells #[.string ⟨l.toArray⟩, .iface 45 (ptrTo w.heap.size), .bool false] 73)).grownBy w1 (some mb))
    (T : Obj) (w2 : World) (hg2 : (w1.alloc T).grownBy w2 av.ownBlock) (g' cap' : Nat)
    (ho2 : w2.ownsRow B 69 1 (.slice (some ⟨g', 0, none⟩) 1 cap') 1 [ptrTo (w.heap.size + 1)]) :
    First B w sb mb l (.returned (ptrTo w.heap.size)) (w2.setCell ⟨sb, 0, none⟩ (.slice (some ⟨g', 0, none⟩) 1 cap')) := by
  obtain ⟨q1, q2, q3, q4, q5, q6⟩ := after_app h _ _ w1 hg1 T w2 hg2
  obtain ⟨a1, a2, a3⟩ := h.apart
  have hsb : sb < w.heap.size := lt_of_block h.body
  have hBw := h.lt
  have hbody2 : w2.heap[sb]? = _ := (q6 sb hsb a1 (fun e => (a2 sb e.symm).1 rfl)).trans h.body
  have hgs : g' ≠ sb := by
    rintro rfl
    obtain ⟨ar, har⟩ := row_block ho2 (r := g') rfl
    rw [hbody2] at har
    simp at har
  have old : ∀ b, b < w.heap.size → b ≠ mb → some b ≠ av.ownBlock → b ≠ sb → (w2.setCell ⟨sb, 0, none⟩ (.slice (some ⟨g', 0, none⟩) 1 cap')).heap[b]? = w.heap[b]? := fun b hb h1 h2 h3 =>
    (Below.heap_setCell _ _ _ _ h3).trans (q6 b hb h1 h2)
  have hs1 := hg1.size
  have hs2 := hg2.size
  simp only [World.size_alloc] at hs1 hs2
  refine ⟨rfl, (Below.heap_setCell _ _ _ _ (show w.heap.size ≠ sb by omega)).trans q4, (Below.heap_setCell _ _ _ _ (show w.heap.size + 1 ≠ sb by omega)).trans q5, ⟨g', cap', ?_, ?_⟩, ?_, ?_⟩
  · rw [heap_setCell_same hbody2]
    rfl
  · exact ownsRow_setCell_other ho2 (a := ⟨sb, 0, none⟩) (by simpa [Value.ownBlock] using hgs) (.slice (some ⟨g', 0, none⟩) 1 cap')
  · refine ⟨hg2.os.trans hg1.os, hg2.tape.trans hg1.tape, hg2.output.trans hg1.output, by simp; omega, fun k hk => ?_⟩
    refine old k (by omega) ?_ ?_ ?_
    · have := h.base; omega
    · intro e
      have := (h.row.lt k e.symm).1
      omega
    · have := h.base; omega
  · intro b ar m hb
    have hb' := lt_of_block hb
    refine old b hb' ?_ ?_ ?_
    · rintro rfl
      obtain ⟨x, c, hx, _⟩ := h.map
      rw [hx] at hb
      cases hb
    · intro e
      obtain ⟨ar', har'⟩ := row_block h.row e.symm
      rw [har'] at hb
      simp at hb
    · rintro rfl
      rw [h.body] at hb
      simp at hb

set_option maxHeartbeats 1000000 in
set_option maxRecDepth 100000 in
theorem first_counter {B N : Nat} {cls : Cls} {w : World} {sb : Nat} {av : Value} {mb : Nat} {D : DataW Unit} {n : Nat} (h : Inv B N cls w sb [] av mb D n) (hN : N ≤ 1000) (l : List UInt8) (hl : l.length ≤ 100)
    (hv : ∀ w, Calls Tryz.prog 36 #[.string ⟨l.toArray⟩] w fun e w' => e = .returned .nilIface ∧ w = w') :
    Calls Tryz.prog 19 #[ptrTo sb, .string ⟨l.toArray⟩] w (First B w sb mb l) := by
  have HV := Lib.hid hv
  clear hv
  have hml : l.length ≤ maxLen := by unfold maxLen; omega
  have hkey := Lib.hid (key_of l hml)
  have hnone := (h.knows.none (show l ∉ names [] by simp [names])).2
  have look : ∀ W : World, W.ownsMap Tryz.prog 9 Rp mb n D → (Instr.lookup 65 (.map (some mb)) (.string ⟨l.toArray⟩) false).run Tryz.prog W = .ok (.pointer none) W := by
    intro W hW
    obtain ⟨v, ps, hrun, hv⟩ := hW.lookup law9 Tryz.underlying65 (zero69 W) (zd := .nil) (zp := []) rfl hkey.out
    rw [hnone] at hv
    rw [hrun, Rp_nil_inv hv]
  have l0 := look w h.map
  have l1 : ∀ o1 o2, _ := fun o1 o2 => look ((w.alloc o1).alloc o2) ((h.map.alloc o1).alloc o2)
  have c1 : w.cell? ⟨sb, 1, none⟩ = some (.map (some mb)) := by rw [cell_at h.body]; rfl
  have hsb : sb < w.heap.size := lt_of_block h.body
  have hta := ta45
  have HI := Lib.hid h
  have few := h.few
  have hbw := h.lt
  obtain ⟨i0, hi, hz0, hz1, hz2⟩ := info_parts info69
  clear h hnone look
  go_enter Tryz.func19, Tryz.ntmps19
  go_wp2_with (first | (go_at_call 36; refine (HV.out _).mono ?_; rintro e w' ⟨rfl, rfl⟩) | (at_mapUpdate; go_must (refine wpList_mapUpdate_own _ rfl _ _ _ 65 rfl 9 69 law9 Tryz.underlying65 Rp mb n D rfl ((HI.out.map.alloc _).alloc _) (by unfold maxLen; omega) _ _ (.string l) rfl rfl hkey.out (.lit (.int .i64 _)) [] rfl ?_); intro w1 hown1 hgrow1; obtain ⟨c10, f10, hrow1, hs1, hb1, hb2, hold1⟩ := after_put HI.out _ _ w1 hgrow1; have HG1 := Lib.hid hgrow1; have HO1 := Lib.hid hown1; clear hb1 hb2 hold1 hgrow1 hown1) | (at_builtin; go_must (refine wpList_append_own_at _ rfl _ _ 64 rfl B 69 i0 (.pointer none) 1 8 Tryz.underlying64 hi hz0 hz1 hz2 rfl (by decide) _ _ _ rfl (hrow1.alloc _) ⟨_, 0, none⟩ 1 1 [_] rfl rfl (cell_one_new _ _ _) (by simp [Value.oneCell']) (by unfold maxLen; omega) (by omega) (by simp; omega) ?_); intro v' w2 hown2 hgrow2 hnil2 hloc2; obtain ⟨g', cap', rfl⟩ := ownsRow_succ hown2; obtain ⟨c20, f20, hs2, hb21, hb22, hold2⟩ := after_app HI.out _ _ w1 HG1.out _ w2 hgrow2; have c21 : w2.cell? ⟨w.heap.size + 1, 1, none⟩ = some (.iface 45 (ptrTo w.heap.size)) := (by rw [cell_at hb22]; rfl); have H2 := Lib.hid hown2; have HG2 := Lib.hid hgrow2; clear hb21 hb22 hold2 hown2 hloc2 hgrow2 hnil2))
  go_ret
  exact first_new HI.out l w1 HG1.out _ w2 HG2.out g' cap' H2.out

set_option maxRecDepth 100000 in
theorem add_three (w : World) (b : Nat) (hx : w.cell? ⟨b, 0, none⟩ = some (.int .u64 0)) (hf : w.frozen? ⟨b, 0, none⟩ = false) :
    Calls Tryz.prog 20 #[.pointer (some ⟨b, 0, none⟩), .int .i64 3] w fun e w' => e = .returned (.tuple #[]) ∧ w.setCell ⟨b, 0, none⟩ (.int .u64 3) = w' := by
  go_enter Tryz.func20, Tryz.ntmps20
  go_wp2
  go_end0
  exact ⟨rfl, rfl⟩
end Go.Proofs.YtaphagdbekmngaaGreatDoor
