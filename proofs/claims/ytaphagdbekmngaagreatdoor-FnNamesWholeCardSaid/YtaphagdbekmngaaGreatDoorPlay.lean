/- The specification's own record of steps: walked. -/
import Derived.Test.YtaphagdbekmngaaGreatDoorPinv
namespace Go.Proofs.YtaphagdbekmngaaGreatDoor
open Go.RowKit Go.Maps

theorem info53 : (Tryz.prog.info? 53).map (fun i => (i.zero, i.size, i.bytes)) = some (some (.float .f64 0), 1, 8) := by kernel_rfl

/-- The record behind k steps. -/
def RecAt (B : Nat) (w0 : World) (mb k : Nat) (nms : List (List UInt8)) (w : World) : Prop := ∃ P own D n, PInv B k (2 * k) P own w mb D n nms ∧ Below B w0 w

theorem pinv_new (w : World) : PInv w.heap.size 0 0 (fun _ => False) (fun _ => 0) (w.alloc (.map #[] 0)) w.heap.size (.map []) 0 [] :=
  ⟨fun _ h => h.elim, fun _ h => h.elim, (Nat.le_refl _), World.ownsMap_made w Tryz.prog 9 Rp, Nat.le_refl _, fun l => by simp [Maps.has_eq], fun l h => absurd h (by simp), List.nodup_nil⟩

theorem rec_there {sts : List St} {k : Nat} (hk : k < sts.length) {s : St} (hs : s = sts[k]) (h7 : s.kind ≠ 7) (hm : s.name ∈ after (sts.take k)) : after (sts.take (k + 1)) = after (sts.take k) := by
  rw [after_take sts k hk, ← hs, step1, if_neg h7, if_pos hm]
theorem rec_new {sts : List St} {k : Nat} (hk : k < sts.length) {s : St} (hs : s = sts[k]) (h7 : s.kind ≠ 7) (hm : s.name ∉ after (sts.take k)) : after (sts.take (k + 1)) = after (sts.take k) ++ [s.name] := by
  rw [after_take sts k hk, ← hs, step1, if_neg h7, if_neg hm]
theorem rec_gone {sts : List St} {k : Nat} (hk : k < sts.length) {s : St} (hs : s = sts[k]) (h7 : s.kind = 7) : after (sts.take (k + 1)) = (after (sts.take k)).filter (· ≠ s.name) := by
  rw [after_take sts k hk, ← hs, step1, if_pos h7]

section
variable {B N L : Nat} {P : Nat → Prop} {own : Nat → Nat} {w : World} {mb : Nat} {D : DataW Unit} {n : Nat} {nms : List (List UInt8)}
theorem PInv.found (h : PInv B N L P own w mb D n nms) {l : List UInt8} (hl : l.length ≤ 100) (hm : l ∈ nms) : ∃ b, P b ∧ b < w.heap.size ∧ (∀ W : World, W.ownsMap Tryz.prog 9 Rp mb n D → (Instr.lookup 40 (.map (some mb)) (.string ⟨l.toArray⟩) false).run Tryz.prog W = .ok (ptrTo b) W) := by
  obtain ⟨b, hb, ha⟩ := h.ptrs l hm
  obtain ⟨x, v, len, xs, h1, _⟩ := h.blk b hb
  refine ⟨b, hb, lt_of_block h1, fun W hW => ?_⟩
  obtain ⟨v, ps, hrun, hv⟩ := hW.lookup law9 Tryz.underlying40 (zero41 W) (zd := .nil) (zp := []) rfl (key_of l (by unfold maxLen; omega))
  rw [ha] at hv
  rw [hrun, Rp_lit_inv hv]
/-- A new metric behind a new step's variable. -/
theorem PInv.fresh (h : PInv B N L P own w mb D n nms) {arr : Array Value} {l : List UInt8} (hl : l ∉ nms) (hll : l.length ≤ 100) {w2 : World}
    (hg : ((w.alloc (.cells arr 31)).alloc (.cells #[.int .i64 0, .slice none 0 0] 77)).grownBy w2 (some mb)) (hm : w2.ownsMap Tryz.prog 9 Rp mb (n + 1) (D.put (.string l) (.lit (.int .i64 ((w.heap.size + 1 : Nat) : Int))))) :
    PInv B (N + 1) L (fun b => P b ∨ b = w.heap.size + 1) own w2 mb (D.put (.string l) (.lit (.int .i64 ((w.heap.size + 1 : Nat) : Int)))) (n + 1) (nms ++ [l]) ∧ w2.heap[w.heap.size]? = some (.cells arr 31 (0, 0)) ∧
      w2.heap[w.heap.size + 1]? = some (.cells #[.int .i64 0, .slice none 0 0] 77 (0, 0)) ∧ w2.ownsRow B 53 1 (.slice none 0 0) 0 [] ∧ (Instr.lookup 40 (.map (some mb)) (.string ⟨l.toArray⟩) false).run Tryz.prog w2 = .ok (ptrTo (w.heap.size + 1)) w2 := by
  have hs : (w.alloc (.cells arr 31)).heap.size = w.heap.size + 1 := by simp
  have hml := h.map.lt
  have h1 := (h.alloc (.cells arr 31)).put hl hg (by rw [hs]; exact hm)
  rw [hs] at h1
  have n1 := heap_alloc_new w (.cells arr 31)
  have n2 := heap_alloc_new (w.alloc (.cells arr 31)) (.cells #[.int .i64 0, .slice none 0 0] 77)
  rw [hs] at n2
  refine ⟨h1, ?_, ?_, World.ownsRow_nil _ _ _ _, ?_⟩
  · rw [hg.block w.heap.size (by simp; omega) (by simp; omega), Below.heap_alloc _ _ _ (by simp)]
    exact n1
  · rw [hg.block (w.heap.size + 1) (by simp) (by simp; omega)]
    exact n2
  · obtain ⟨v, ps, hrun, hv⟩ := hm.lookup law9 Tryz.underlying40 (zero41 w2) (zd := .nil) (zp := []) rfl (key_of l (by unfold maxLen; omega))
    rw [atKey_put_same h.map.isMap (by simp [WideAt.IsKeyLit])] at hv
    rw [hrun, Rp_lit_inv hv]

theorem PInv.absent (h : PInv B N L P own w mb D n nms) {l : List UInt8} (hl : l.length ≤ 100) (hm : l ∉ nms) : ∀ W : World, W.ownsMap Tryz.prog 9 Rp mb n D → (Instr.lookup 40 (.map (some mb)) (.string ⟨l.toArray⟩) false).run Tryz.prog W = .ok (.pointer none) W := by
  intro W hW
  have h1 : Maps.has D (.string l) = false := by rw [h.keys l]; simp [hm]
  obtain ⟨v, ps, hrun, hv⟩ := hW.lookup law9 Tryz.underlying40 (zero41 W) (zd := .nil) (zp := []) rfl (key_of l (by unfold maxLen; omega))
  rw [atKey_of_not_has h1] at hv
  rw [hrun, Rp_nil_inv hv]
end

set_option maxHeartbeats 8000000 in
set_option maxRecDepth 100000 in
theorem play_any (w : World) (base : Nat) (v : Value) (sts : List St) (hst : StepsAt w base v sts) (hl : sts.length ≤ 60) (hok : ∀ s ∈ sts, StOk s) :
    Calls Tryz.prog 15 #[v] w fun e w' => ∃ mb, e = .returned (.map (some mb)) ∧ RecAt w.heap.size w mb sts.length (after sts) w' := by
  obtain ⟨a, cap, rfl⟩ : ∃ a cap, v = .slice a sts.length cap := by
    rcases hst.2 with ⟨rfl, h0⟩ | ⟨g, cap, cur, rfl, _⟩
    · exact ⟨none, 0, by rw [h0]⟩
    · exact ⟨_, cap, rfl⟩
  have HS := Lib.hid hst
  have HOK := Lib.hid hok
  have hmm := @run_makeMap Tryz.prog
  obtain ⟨i0, hi, hz0, hz1, hz2⟩ := info_parts info53
  clear hst hok
  go_enter Tryz.func15, Tryz.ntmps15
  go_wp2_with fail
  go_loopw [10] (fun i wr => ∃ k : Nat, k ≤ sts.length ∧ i = .int .i64 k ∧ RecAt w.heap.size w w.heap.size k (after (sts.take k)) wr) (fun i _ => sts.length - (intOf i).toNat)
  case atStart =>
    exact ⟨0, Nat.zero_le _, rfl, _, _, _, _, pinv_new w, (Below.refl _ _).alloc (Nat.le_refl _) _⟩
  case round =>
    obtain ⟨k, hk, rfl, P, own, D, n, hI, hB⟩ := hrel
    by_cases hlt : k < sts.length
    · obtain ⟨g, cap', hv, hgl, hbg, hn1, hcm, x0, x1, x2⟩ := HS.out.cells k hlt
      obtain ⟨rfl, -, rfl⟩ : a = some ⟨g, 0, none⟩ ∧ True ∧ cap = cap' := by simpa using hv
      have ok := HOK.out sts[k] (List.getElem_mem hlt)
      have c0 : wr.cell? ⟨g, k * 3, none⟩ = _ := (hB.cell (p := ⟨g, k * 3, none⟩) hgl).trans x0
      have c1 : wr.cell? ⟨g, k * 3 + 1, none⟩ = _ := (hB.cell (p := ⟨g, k * 3 + 1, none⟩) hgl).trans x1
      have c2 : wr.cell? ⟨g, k * 3 + 2, none⟩ = _ := (hB.cell (p := ⟨g, k * 3 + 2, none⟩) hgl).trans x2
      obtain ⟨s, hs⟩ : ∃ s, s = sts[k] := ⟨_, rfl⟩
      rw [← hs] at c0 c1 c2 ok
      have Hs := Lib.hid hs
      have hlen := good_len ok.name
      have hkey := Lib.hid (key_of s.name (by unfold maxLen; omega))
      unfold maxLen at hcm
      clear hs x0 x1 x2 hv
      obtain hkd | hkd | hkd | hkd | hkd | hkd | hkd | hkd : s.kind = 0 ∨ s.kind = 1 ∨ s.kind = 2 ∨ s.kind = 3 ∨ s.kind = 4 ∨ s.kind = 5 ∨ s.kind = 6 ∨ s.kind = 7 := by have := ok.kind; omega
      · have Hk := Lib.hid hkd
        rw [hkd] at c0
        replace c0 : wr.cell? ⟨g, k * 3, none⟩ = some (.int .i64 0) := c0
        have hn0 := ok.n
        clear ok hkd
        by_cases hm : s.name ∈ after (sts.take k)
        · obtain ⟨b, hPb, hbl, hlook⟩ := hI.found hlen hm
          have hl1 : ∀ o, (Instr.lookup 40 (.map (some w.heap.size)) (.string ⟨s.name.toArray⟩) false).run Tryz.prog (wr.alloc o) = .ok (ptrTo b) (wr.alloc o) := fun o => hlook _ (hI.map.alloc o)
          obtain ⟨xv, vv, len, xs, b1, b2, b3, b4⟩ := hI.blk b hPb
          have HI := Lib.hid hI
          have HB := Lib.hid hB
          have Hm := Lib.hid hm
          have e0 : wr.cell? ⟨b, 0, none⟩ = some (.int .i64 xv) := by rw [cell_at b1]; rfl
          have e1 : wr.cell? ⟨b, 1, none⟩ = some vv := by rw [cell_at b1]; rfl
          have ef0 := free_at b1 0
          have ef1 := free_at b1 1
          have B1 := Lib.hid b1
          have B2 := Lib.hid b2
          have B4 := Lib.hid b4
          clear hI hB hm hlook b1 b2 b4
          go_wp2_with fail
          obtain ⟨X, hX⟩ : ∃ X, X = wr.heap.size := ⟨_, rfl⟩
          have hblk := heap_alloc_new wr (Obj.cells #[Value.int IntKind.i64 0, Value.string { data := s.name.toArray }, Value.int IntKind.i64 s.n] 31)
          have hI1 := HI.out.alloc (Obj.cells #[Value.int IntKind.i64 0, Value.string { data := s.name.toArray }, Value.int IntKind.i64 s.n] 31)
          have hB1 := HB.out.alloc HI.out.lt (Obj.cells #[Value.int IntKind.i64 0, Value.string { data := s.name.toArray }, Value.int IntKind.i64 s.n] 31)
          have hg1 := grownBy_alloc wr (Obj.cells #[Value.int IntKind.i64 0, Value.string { data := s.name.toArray }, Value.int IntKind.i64 s.n] 31)
          have b1 := (hg1.block b hbl (by simp)).trans B1.out
          have b2 := B2.out.alloc (Obj.cells #[Value.int IntKind.i64 0, Value.string { data := s.name.toArray }, Value.int IntKind.i64 s.n] 31)
          have hsz : (wr.alloc (Obj.cells #[Value.int IntKind.i64 0, Value.string { data := s.name.toArray }, Value.int IntKind.i64 s.n] 31)).heap.size = wr.heap.size + 1 := by simp
          clear e0 e1 ef0 ef1 c0 c1 c2 hl1 B1 B2
          rw [← hX] at hblk hbl hsz ⊢
          clear hX hg1
          generalize World.alloc _ _ = W1 at hblk hI1 hB1 hsz b1 b2 ⊢
          have d2 : W1.cell? ⟨X, 2, none⟩ = some (.int .i64 s.n) := by rw [cell_at hblk]; rfl
          have e0 : W1.cell? ⟨b, 0, none⟩ = some (.int .i64 xv) := by rw [cell_at b1]; rfl
          have e1 : W1.cell? ⟨b, 1, none⟩ = some vv := by rw [cell_at b1]; rfl
          have ef0 := free_at b1 0
          have ef1 := free_at b1 1
          have hbW := lt_of_block b1
          have hXW := lt_of_block hblk
          have hBW := hI1.lt
          have hbr : some b ≠ vv.ownBlock := fun e => by
            obtain ⟨arr, ha⟩ := row_block b2 e.symm
            rw [b1] at ha
            simp at ha
          have hBb := hI1.high b hPb
          have hBr := fun r hr => (b2.lt r hr).1
          have HI1 := Lib.hid hI1
          have HB1 := Lib.hid hB1
          have B1 := Lib.hid b1
          have B2 := Lib.hid b2
          clear hblk hI1 hB1 b1 b2
          go_region
          go_wp2_with fail
          go_roundw
          case rel =>
            refine ⟨k + 1, by omega, by go_num, ?_⟩
            rw [rec_there hlt Hs.out (by have := Hk.out; omega) Hm.out]
            exact ⟨_, _, _, _, ((HI1.out.value hPb _).drew).more (by omega) (by omega), (HB1.out.setCell hBb _).drew⟩
          case measure => simp [intOf]; omega
        · have hl1 : ∀ o, (Instr.lookup 40 (.map (some w.heap.size)) (.string ⟨s.name.toArray⟩) false).run Tryz.prog (wr.alloc o) = .ok (.pointer none) (wr.alloc o) := fun o => hI.absent hlen hm _ (hI.map.alloc o)
          have hmbr : ∀ j, some w.heap.size = some j → w.heap.size ≤ j := fun j e => Nat.le_of_eq (Option.some.inj e)
          have hfew := hI.few
          have hiB := hI.lt
          have HI := Lib.hid hI
          have HB := Lib.hid hB
          have Hm := Lib.hid hm
          clear hI hB hm
          go_wp2_with (first | (at_mapUpdate; go_must (refine wpList_mapUpdate_own _ rfl _ _ _ 40 rfl 9 41 law9 Tryz.underlying40 Rp w.heap.size n D rfl ((HI.out.map.alloc _).alloc _) (by unfold maxLen; omega) _ _ (.string s.name) rfl rfl hkey.out (.lit (.int .i64 _)) [] rfl ?_); intro w2 hown2 hgrow2; obtain ⟨hI2, hblk, b1, b2, hl2⟩ := HI.out.fresh Hm.out hlen hgrow2 hown2; have hB2 := ((HB.out.alloc HI.out.lt _).alloc (by simp; omega) _).grown hgrow2 (by simp; omega) hmbr; have d0 : w2.cell? ⟨wr.heap.size, 0, none⟩ = some (.int .i64 0) := (by rw [cell_at hblk]; rfl); have d1 : w2.cell? ⟨wr.heap.size, 1, none⟩ = some (.string ⟨s.name.toArray⟩) := (by rw [cell_at hblk]; rfl); have d2 : w2.cell? ⟨wr.heap.size, 2, none⟩ = some (.int .i64 s.n) := (by rw [cell_at hblk]; rfl); have e0 : w2.cell? ⟨wr.heap.size + 1, 0, none⟩ = some (.int .i64 0) := (by rw [cell_at b1]; rfl); have e1 : w2.cell? ⟨wr.heap.size + 1, 1, none⟩ = some (.slice none 0 0) := (by rw [cell_at b1]; rfl); have ef0 := free_at b1 0; have ef1 := free_at b1 1; have HI2 := Lib.hid hI2; have HB2 := Lib.hid hB2; have B1 := Lib.hid b1; have B2 := Lib.hid b2; have Hbl := Lib.hid hblk; clear hI2 hB2 b1 b2 hblk hown2 hgrow2))
          obtain ⟨b, hbe⟩ : ∃ b, b = wr.heap.size + 1 := ⟨_, rfl⟩
          have hblk := Hbl.out
          have hI1 := HI2.out
          have hB1 := HB2.out
          have b1 := B1.out
          have b2 := B2.out
          have hPb : P b ∨ b = wr.heap.size + 1 := .inr hbe
          have b3 : 0 ≤ 2 * k := Nat.zero_le _
          have B4 : Hid (∀ g, (Value.slice none 0 0).ownBlock = some g → own g = wr.heap.size + 1) := Lib.hid (fun g e => by cases e)
          clear Hbl HI2 HB2 B1 B2 d0 d1 d2 e0 e1 ef0 ef1 hl2 hl1
          rw [← hbe] at b1 B4 ⊢
          obtain ⟨X, hX⟩ : ∃ X, X = wr.heap.size := ⟨_, rfl⟩
          rw [← hX] at hblk ⊢
          obtain ⟨vv, hvv⟩ : ∃ vv, vv = Value.slice none 0 0 := ⟨_, rfl⟩
          rw [← hvv] at b1 b2 B4
          obtain ⟨xv, hxv⟩ : ∃ xv : Int, xv = 0 := ⟨_, rfl⟩
          rw [← hxv] at b1
          obtain ⟨len, hlen0⟩ : ∃ len, len = 0 := ⟨_, rfl⟩
          rw [← hlen0] at b2 b3
          obtain ⟨xs, hxs⟩ : ∃ xs : List Value, xs = [] := ⟨_, rfl⟩
          rw [← hxs] at b2
          obtain ⟨W1, hW1⟩ : ∃ W1, W1 = w2 := ⟨_, rfl⟩
          rw [← hW1] at hblk hI1 hB1 b1 b2 ⊢
          clear hX hbe hvv hxv hlen0 hxs hW1
          have d2 : W1.cell? ⟨X, 2, none⟩ = some (.int .i64 s.n) := by rw [cell_at hblk]; rfl
          have e0 : W1.cell? ⟨b, 0, none⟩ = some (.int .i64 xv) := by rw [cell_at b1]; rfl
          have e1 : W1.cell? ⟨b, 1, none⟩ = some vv := by rw [cell_at b1]; rfl
          have ef0 := free_at b1 0
          have ef1 := free_at b1 1
          have hbW := lt_of_block b1
          have hXW := lt_of_block hblk
          have hBW := hI1.lt
          have hbr : some b ≠ vv.ownBlock := fun e => by
            obtain ⟨arr, ha⟩ := row_block b2 e.symm
            rw [b1] at ha
            simp at ha
          have hBb := hI1.high b hPb
          have hBr := fun r hr => (b2.lt r hr).1
          have HI1 := Lib.hid hI1
          have HB1 := Lib.hid hB1
          have B1 := Lib.hid b1
          have B2 := Lib.hid b2
          clear hblk hI1 hB1 b1 b2
          go_region
          go_wp2_with fail
          go_roundw
          case rel =>
            refine ⟨k + 1, by omega, by go_num, ?_⟩
            rw [rec_new hlt Hs.out (by have := Hk.out; omega) Hm.out]
            exact ⟨_, _, _, _, ((HI1.out.value hPb _).drew).more (by omega) (by omega), (HB1.out.setCell hBb _).drew⟩
          case measure => simp [intOf]; omega
      · have Hk := Lib.hid hkd
        rw [hkd] at c0
        replace c0 : wr.cell? ⟨g, k * 3, none⟩ = some (.int .i64 1) := c0
        have hn0 := ok.n
        clear ok hkd
        by_cases hm : s.name ∈ after (sts.take k)
        · obtain ⟨b, hPb, hbl, hlook⟩ := hI.found hlen hm
          have hl1 : ∀ o, (Instr.lookup 40 (.map (some w.heap.size)) (.string ⟨s.name.toArray⟩) false).run Tryz.prog (wr.alloc o) = .ok (ptrTo b) (wr.alloc o) := fun o => hlook _ (hI.map.alloc o)
          obtain ⟨xv, vv, len, xs, b1, b2, b3, b4⟩ := hI.blk b hPb
          have HI := Lib.hid hI
          have HB := Lib.hid hB
          have Hm := Lib.hid hm
          have e0 : wr.cell? ⟨b, 0, none⟩ = some (.int .i64 xv) := by rw [cell_at b1]; rfl
          have e1 : wr.cell? ⟨b, 1, none⟩ = some vv := by rw [cell_at b1]; rfl
          have ef0 := free_at b1 0
          have ef1 := free_at b1 1
          have B1 := Lib.hid b1
          have B2 := Lib.hid b2
          have B4 := Lib.hid b4
          clear hI hB hm hlook b1 b2 b4
          go_wp2_with fail
          go_roundw
          case rel =>
            refine ⟨k + 1, by omega, by go_num, ?_⟩
            rw [rec_there hlt Hs.out (by have := Hk.out; omega) Hm.out]
            exact ⟨_, _, _, _, ((HI.out.value hPb s.n).alloc _).more (by omega) (by omega), (HB.out.setCell (HI.out.high b hPb) _).alloc (by simp; exact HI.out.lt) _⟩
          case measure => simp [intOf]; omega
        · have hl1 : ∀ o, (Instr.lookup 40 (.map (some w.heap.size)) (.string ⟨s.name.toArray⟩) false).run Tryz.prog (wr.alloc o) = .ok (.pointer none) (wr.alloc o) := fun o => hI.absent hlen hm _ (hI.map.alloc o)
          have hmbr : ∀ j, some w.heap.size = some j → w.heap.size ≤ j := fun j e => Nat.le_of_eq (Option.some.inj e)
          have hfew := hI.few
          have hiB := hI.lt
          have HI := Lib.hid hI
          have HB := Lib.hid hB
          have Hm := Lib.hid hm
          clear hI hB hm
          go_wp2_with (first | (at_mapUpdate; go_must (refine wpList_mapUpdate_own _ rfl _ _ _ 40 rfl 9 41 law9 Tryz.underlying40 Rp w.heap.size n D rfl ((HI.out.map.alloc _).alloc _) (by unfold maxLen; omega) _ _ (.string s.name) rfl rfl hkey.out (.lit (.int .i64 _)) [] rfl ?_); intro w2 hown2 hgrow2; obtain ⟨hI2, hblk, b1, b2, hl2⟩ := HI.out.fresh Hm.out hlen hgrow2 hown2; have hB2 := ((HB.out.alloc HI.out.lt _).alloc (by simp; omega) _).grown hgrow2 (by simp; omega) hmbr; have d0 : w2.cell? ⟨wr.heap.size, 0, none⟩ = some (.int .i64 1) := (by rw [cell_at hblk]; rfl); have d1 : w2.cell? ⟨wr.heap.size, 1, none⟩ = some (.string ⟨s.name.toArray⟩) := (by rw [cell_at hblk]; rfl); have d2 : w2.cell? ⟨wr.heap.size, 2, none⟩ = some (.int .i64 s.n) := (by rw [cell_at hblk]; rfl); have e0 : w2.cell? ⟨wr.heap.size + 1, 0, none⟩ = some (.int .i64 0) := (by rw [cell_at b1]; rfl); have e1 : w2.cell? ⟨wr.heap.size + 1, 1, none⟩ = some (.slice none 0 0) := (by rw [cell_at b1]; rfl); have ef0 := free_at b1 0; have ef1 := free_at b1 1; have HI2 := Lib.hid hI2; have HB2 := Lib.hid hB2; have B1 := Lib.hid b1; have B2 := Lib.hid b2; have Hbl := Lib.hid hblk; clear hI2 hB2 b1 b2 hblk hown2 hgrow2))
          go_roundw
          case rel =>
            refine ⟨k + 1, by omega, by go_num, ?_⟩
            rw [rec_new hlt Hs.out (by have := Hk.out; omega) Hm.out]
            exact ⟨_, _, _, _, (HI2.out.value (.inr rfl) _).more (by omega) (by omega), HB2.out.setCell (by simp; omega) _⟩
          case measure => simp [intOf]; omega
      · have Hk := Lib.hid hkd
        rw [hkd] at c0
        replace c0 : wr.cell? ⟨g, k * 3, none⟩ = some (.int .i64 2) := c0
        have hn0 := ok.n
        clear ok hkd
        by_cases hm : s.name ∈ after (sts.take k)
        · obtain ⟨b, hPb, hbl, hlook⟩ := hI.found hlen hm
          have hl1 : ∀ o, (Instr.lookup 40 (.map (some w.heap.size)) (.string ⟨s.name.toArray⟩) false).run Tryz.prog (wr.alloc o) = .ok (ptrTo b) (wr.alloc o) := fun o => hlook _ (hI.map.alloc o)
          obtain ⟨xv, vv, len, xs, b1, b2, b3, b4⟩ := hI.blk b hPb
          have HI := Lib.hid hI
          have HB := Lib.hid hB
          have Hm := Lib.hid hm
          have e0 : wr.cell? ⟨b, 0, none⟩ = some (.int .i64 xv) := by rw [cell_at b1]; rfl
          have e1 : wr.cell? ⟨b, 1, none⟩ = some vv := by rw [cell_at b1]; rfl
          have ef0 := free_at b1 0
          have ef1 := free_at b1 1
          have B1 := Lib.hid b1
          have B2 := Lib.hid b2
          have B4 := Lib.hid b4
          clear hI hB hm hlook b1 b2 b4
          go_wp2_with fail
          obtain ⟨X, hX⟩ : ∃ X, X = wr.heap.size := ⟨_, rfl⟩
          have hblk := heap_alloc_new wr (Obj.cells #[Value.int IntKind.i64 2, Value.string { data := s.name.toArray }, Value.int IntKind.i64 s.n] 31)
          have hI1 := HI.out.alloc (Obj.cells #[Value.int IntKind.i64 2, Value.string { data := s.name.toArray }, Value.int IntKind.i64 s.n] 31)
          have hB1 := HB.out.alloc HI.out.lt (Obj.cells #[Value.int IntKind.i64 2, Value.string { data := s.name.toArray }, Value.int IntKind.i64 s.n] 31)
          have hg1 := grownBy_alloc wr (Obj.cells #[Value.int IntKind.i64 2, Value.string { data := s.name.toArray }, Value.int IntKind.i64 s.n] 31)
          have b1 := (hg1.block b hbl (by simp)).trans B1.out
          have b2 := B2.out.alloc (Obj.cells #[Value.int IntKind.i64 2, Value.string { data := s.name.toArray }, Value.int IntKind.i64 s.n] 31)
          have hsz : (wr.alloc (Obj.cells #[Value.int IntKind.i64 2, Value.string { data := s.name.toArray }, Value.int IntKind.i64 s.n] 31)).heap.size = wr.heap.size + 1 := by simp
          clear e0 e1 ef0 ef1 c0 c1 c2 hl1 B1 B2
          rw [← hX] at hblk hbl hsz ⊢
          clear hX hg1
          generalize World.alloc _ _ = W1 at hblk hI1 hB1 hsz b1 b2 ⊢
          have d2 : W1.cell? ⟨X, 2, none⟩ = some (.int .i64 s.n) := by rw [cell_at hblk]; rfl
          have e0 : W1.cell? ⟨b, 0, none⟩ = some (.int .i64 xv) := by rw [cell_at b1]; rfl
          have e1 : W1.cell? ⟨b, 1, none⟩ = some vv := by rw [cell_at b1]; rfl
          have ef0 := free_at b1 0
          have ef1 := free_at b1 1
          have hbW := lt_of_block b1
          have hXW := lt_of_block hblk
          have hBW := hI1.lt
          have hbr : some b ≠ vv.ownBlock := fun e => by
            obtain ⟨arr, ha⟩ := row_block b2 e.symm
            rw [b1] at ha
            simp at ha
          have hBb := hI1.high b hPb
          have hBr := fun r hr => (b2.lt r hr).1
          have HI1 := Lib.hid hI1
          have HB1 := Lib.hid hB1
          have B1 := Lib.hid b1
          have B2 := Lib.hid b2
          clear hblk hI1 hB1 b1 b2
          go_region
          go_wp2_with fail
          go_roundw
          case rel =>
            refine ⟨k + 1, by omega, by go_num, ?_⟩
            rw [rec_there hlt Hs.out (by have := Hk.out; omega) Hm.out]
            exact ⟨_, _, _, _, ((HI1.out.value hPb _).drew).more (by omega) (by omega), (HB1.out.setCell hBb _).drew⟩
          case measure => simp [intOf]; omega
        · have hl1 : ∀ o, (Instr.lookup 40 (.map (some w.heap.size)) (.string ⟨s.name.toArray⟩) false).run Tryz.prog (wr.alloc o) = .ok (.pointer none) (wr.alloc o) := fun o => hI.absent hlen hm _ (hI.map.alloc o)
          have hmbr : ∀ j, some w.heap.size = some j → w.heap.size ≤ j := fun j e => Nat.le_of_eq (Option.some.inj e)
          have hfew := hI.few
          have hiB := hI.lt
          have HI := Lib.hid hI
          have HB := Lib.hid hB
          have Hm := Lib.hid hm
          clear hI hB hm
          go_wp2_with (first | (at_mapUpdate; go_must (refine wpList_mapUpdate_own _ rfl _ _ _ 40 rfl 9 41 law9 Tryz.underlying40 Rp w.heap.size n D rfl ((HI.out.map.alloc _).alloc _) (by unfold maxLen; omega) _ _ (.string s.name) rfl rfl hkey.out (.lit (.int .i64 _)) [] rfl ?_); intro w2 hown2 hgrow2; obtain ⟨hI2, hblk, b1, b2, hl2⟩ := HI.out.fresh Hm.out hlen hgrow2 hown2; have hB2 := ((HB.out.alloc HI.out.lt _).alloc (by simp; omega) _).grown hgrow2 (by simp; omega) hmbr; have d0 : w2.cell? ⟨wr.heap.size, 0, none⟩ = some (.int .i64 2) := (by rw [cell_at hblk]; rfl); have d1 : w2.cell? ⟨wr.heap.size, 1, none⟩ = some (.string ⟨s.name.toArray⟩) := (by rw [cell_at hblk]; rfl); have d2 : w2.cell? ⟨wr.heap.size, 2, none⟩ = some (.int .i64 s.n) := (by rw [cell_at hblk]; rfl); have e0 : w2.cell? ⟨wr.heap.size + 1, 0, none⟩ = some (.int .i64 0) := (by rw [cell_at b1]; rfl); have e1 : w2.cell? ⟨wr.heap.size + 1, 1, none⟩ = some (.slice none 0 0) := (by rw [cell_at b1]; rfl); have ef0 := free_at b1 0; have ef1 := free_at b1 1; have HI2 := Lib.hid hI2; have HB2 := Lib.hid hB2; have B1 := Lib.hid b1; have B2 := Lib.hid b2; have Hbl := Lib.hid hblk; clear hI2 hB2 b1 b2 hblk hown2 hgrow2))
          obtain ⟨b, hbe⟩ : ∃ b, b = wr.heap.size + 1 := ⟨_, rfl⟩
          have hblk := Hbl.out
          have hI1 := HI2.out
          have hB1 := HB2.out
          have b1 := B1.out
          have b2 := B2.out
          have hPb : P b ∨ b = wr.heap.size + 1 := .inr hbe
          have b3 : 0 ≤ 2 * k := Nat.zero_le _
          have B4 : Hid (∀ g, (Value.slice none 0 0).ownBlock = some g → own g = wr.heap.size + 1) := Lib.hid (fun g e => by cases e)
          clear Hbl HI2 HB2 B1 B2 d0 d1 d2 e0 e1 ef0 ef1 hl2 hl1
          rw [← hbe] at b1 B4 ⊢
          obtain ⟨X, hX⟩ : ∃ X, X = wr.heap.size := ⟨_, rfl⟩
          rw [← hX] at hblk ⊢
          obtain ⟨vv, hvv⟩ : ∃ vv, vv = Value.slice none 0 0 := ⟨_, rfl⟩
          rw [← hvv] at b1 b2 B4
          obtain ⟨xv, hxv⟩ : ∃ xv : Int, xv = 0 := ⟨_, rfl⟩
          rw [← hxv] at b1
          obtain ⟨len, hlen0⟩ : ∃ len, len = 0 := ⟨_, rfl⟩
          rw [← hlen0] at b2 b3
          obtain ⟨xs, hxs⟩ : ∃ xs : List Value, xs = [] := ⟨_, rfl⟩
          rw [← hxs] at b2
          obtain ⟨W1, hW1⟩ : ∃ W1, W1 = w2 := ⟨_, rfl⟩
          rw [← hW1] at hblk hI1 hB1 b1 b2 ⊢
          clear hX hbe hvv hxv hlen0 hxs hW1
          have d2 : W1.cell? ⟨X, 2, none⟩ = some (.int .i64 s.n) := by rw [cell_at hblk]; rfl
          have e0 : W1.cell? ⟨b, 0, none⟩ = some (.int .i64 xv) := by rw [cell_at b1]; rfl
          have e1 : W1.cell? ⟨b, 1, none⟩ = some vv := by rw [cell_at b1]; rfl
          have ef0 := free_at b1 0
          have ef1 := free_at b1 1
          have hbW := lt_of_block b1
          have hXW := lt_of_block hblk
          have hBW := hI1.lt
          have hbr : some b ≠ vv.ownBlock := fun e => by
            obtain ⟨arr, ha⟩ := row_block b2 e.symm
            rw [b1] at ha
            simp at ha
          have hBb := hI1.high b hPb
          have hBr := fun r hr => (b2.lt r hr).1
          have HI1 := Lib.hid hI1
          have HB1 := Lib.hid hB1
          have B1 := Lib.hid b1
          have B2 := Lib.hid b2
          clear hblk hI1 hB1 b1 b2
          go_region
          go_wp2_with fail
          go_roundw
          case rel =>
            refine ⟨k + 1, by omega, by go_num, ?_⟩
            rw [rec_new hlt Hs.out (by have := Hk.out; omega) Hm.out]
            exact ⟨_, _, _, _, ((HI1.out.value hPb _).drew).more (by omega) (by omega), (HB1.out.setCell hBb _).drew⟩
          case measure => simp [intOf]; omega
      · have Hk := Lib.hid hkd
        rw [hkd] at c0
        replace c0 : wr.cell? ⟨g, k * 3, none⟩ = some (.int .i64 3) := c0
        have hn0 := ok.n
        clear ok hkd
        by_cases hm : s.name ∈ after (sts.take k)
        · obtain ⟨b, hPb, hbl, hlook⟩ := hI.found hlen hm
          have hl1 : ∀ o, (Instr.lookup 40 (.map (some w.heap.size)) (.string ⟨s.name.toArray⟩) false).run Tryz.prog (wr.alloc o) = .ok (ptrTo b) (wr.alloc o) := fun o => hlook _ (hI.map.alloc o)
          obtain ⟨xv, vv, len, xs, b1, b2, b3, b4⟩ := hI.blk b hPb
          have HI := Lib.hid hI
          have HB := Lib.hid hB
          have Hm := Lib.hid hm
          have e0 : wr.cell? ⟨b, 0, none⟩ = some (.int .i64 xv) := by rw [cell_at b1]; rfl
          have e1 : wr.cell? ⟨b, 1, none⟩ = some vv := by rw [cell_at b1]; rfl
          have ef0 := free_at b1 0
          have ef1 := free_at b1 1
          have B1 := Lib.hid b1
          have B2 := Lib.hid b2
          have B4 := Lib.hid b4
          clear hI hB hm hlook b1 b2 b4
          go_wp2_with fail
          go_roundw
          case rel =>
            refine ⟨k + 1, by omega, by go_num, ?_⟩
            rw [rec_there hlt Hs.out (by have := Hk.out; omega) Hm.out]
            exact ⟨_, _, _, _, ((HI.out.value hPb s.n).alloc _).more (by omega) (by omega), (HB.out.setCell (HI.out.high b hPb) _).alloc (by simp; exact HI.out.lt) _⟩
          case measure => simp [intOf]; omega
        · have hl1 : ∀ o, (Instr.lookup 40 (.map (some w.heap.size)) (.string ⟨s.name.toArray⟩) false).run Tryz.prog (wr.alloc o) = .ok (.pointer none) (wr.alloc o) := fun o => hI.absent hlen hm _ (hI.map.alloc o)
          have hmbr : ∀ j, some w.heap.size = some j → w.heap.size ≤ j := fun j e => Nat.le_of_eq (Option.some.inj e)
          have hfew := hI.few
          have hiB := hI.lt
          have HI := Lib.hid hI
          have HB := Lib.hid hB
          have Hm := Lib.hid hm
          clear hI hB hm
          go_wp2_with (first | (at_mapUpdate; go_must (refine wpList_mapUpdate_own _ rfl _ _ _ 40 rfl 9 41 law9 Tryz.underlying40 Rp w.heap.size n D rfl ((HI.out.map.alloc _).alloc _) (by unfold maxLen; omega) _ _ (.string s.name) rfl rfl hkey.out (.lit (.int .i64 _)) [] rfl ?_); intro w2 hown2 hgrow2; obtain ⟨hI2, hblk, b1, b2, hl2⟩ := HI.out.fresh Hm.out hlen hgrow2 hown2; have hB2 := ((HB.out.alloc HI.out.lt _).alloc (by simp; omega) _).grown hgrow2 (by simp; omega) hmbr; have d0 : w2.cell? ⟨wr.heap.size, 0, none⟩ = some (.int .i64 3) := (by rw [cell_at hblk]; rfl); have d1 : w2.cell? ⟨wr.heap.size, 1, none⟩ = some (.string ⟨s.name.toArray⟩) := (by rw [cell_at hblk]; rfl); have d2 : w2.cell? ⟨wr.heap.size, 2, none⟩ = some (.int .i64 s.n) := (by rw [cell_at hblk]; rfl); have e0 : w2.cell? ⟨wr.heap.size + 1, 0, none⟩ = some (.int .i64 0) := (by rw [cell_at b1]; rfl); have e1 : w2.cell? ⟨wr.heap.size + 1, 1, none⟩ = some (.slice none 0 0) := (by rw [cell_at b1]; rfl); have ef0 := free_at b1 0; have ef1 := free_at b1 1; have HI2 := Lib.hid hI2; have HB2 := Lib.hid hB2; have B1 := Lib.hid b1; have B2 := Lib.hid b2; have Hbl := Lib.hid hblk; clear hI2 hB2 b1 b2 hblk hown2 hgrow2))
          go_roundw
          case rel =>
            refine ⟨k + 1, by omega, by go_num, ?_⟩
            rw [rec_new hlt Hs.out (by have := Hk.out; omega) Hm.out]
            exact ⟨_, _, _, _, (HI2.out.value (.inr rfl) _).more (by omega) (by omega), HB2.out.setCell (by simp; omega) _⟩
          case measure => simp [intOf]; omega
      · have Hk := Lib.hid hkd
        rw [hkd] at c0
        replace c0 : wr.cell? ⟨g, k * 3, none⟩ = some (.int .i64 4) := c0
        have hn0 := ok.n
        clear ok hkd
        by_cases hm : s.name ∈ after (sts.take k)
        · obtain ⟨b, hPb, hbl, hlook⟩ := hI.found hlen hm
          have hl1 : ∀ o, (Instr.lookup 40 (.map (some w.heap.size)) (.string ⟨s.name.toArray⟩) false).run Tryz.prog (wr.alloc o) = .ok (ptrTo b) (wr.alloc o) := fun o => hlook _ (hI.map.alloc o)
          obtain ⟨xv, vv, len, xs, b1, b2, b3, b4⟩ := hI.blk b hPb
          have HI := Lib.hid hI
          have HB := Lib.hid hB
          have Hm := Lib.hid hm
          have e0 : wr.cell? ⟨b, 0, none⟩ = some (.int .i64 xv) := by rw [cell_at b1]; rfl
          have e1 : wr.cell? ⟨b, 1, none⟩ = some vv := by rw [cell_at b1]; rfl
          have ef0 := free_at b1 0
          have ef1 := free_at b1 1
          have B1 := Lib.hid b1
          have B2 := Lib.hid b2
          have B4 := Lib.hid b4
          clear hI hB hm hlook b1 b2 b4
          go_wp2_with fail
          obtain ⟨X, hX⟩ : ∃ X, X = wr.heap.size := ⟨_, rfl⟩
          have hblk := heap_alloc_new wr (Obj.cells #[Value.int IntKind.i64 4, Value.string { data := s.name.toArray }, Value.int IntKind.i64 s.n] 31)
          have hI1 := HI.out.alloc (Obj.cells #[Value.int IntKind.i64 4, Value.string { data := s.name.toArray }, Value.int IntKind.i64 s.n] 31)
          have hB1 := HB.out.alloc HI.out.lt (Obj.cells #[Value.int IntKind.i64 4, Value.string { data := s.name.toArray }, Value.int IntKind.i64 s.n] 31)
          have hg1 := grownBy_alloc wr (Obj.cells #[Value.int IntKind.i64 4, Value.string { data := s.name.toArray }, Value.int IntKind.i64 s.n] 31)
          have b1 := (hg1.block b hbl (by simp)).trans B1.out
          have b2 := B2.out.alloc (Obj.cells #[Value.int IntKind.i64 4, Value.string { data := s.name.toArray }, Value.int IntKind.i64 s.n] 31)
          have hsz : (wr.alloc (Obj.cells #[Value.int IntKind.i64 4, Value.string { data := s.name.toArray }, Value.int IntKind.i64 s.n] 31)).heap.size = wr.heap.size + 1 := by simp
          clear e0 e1 ef0 ef1 c0 c1 c2 hl1 B1 B2
          rw [← hX] at hblk hbl hsz ⊢
          clear hX hg1
          generalize World.alloc _ _ = W1 at hblk hI1 hB1 hsz b1 b2 ⊢
          have d2 : W1.cell? ⟨X, 2, none⟩ = some (.int .i64 s.n) := by rw [cell_at hblk]; rfl
          have e0 : W1.cell? ⟨b, 0, none⟩ = some (.int .i64 xv) := by rw [cell_at b1]; rfl
          have e1 : W1.cell? ⟨b, 1, none⟩ = some vv := by rw [cell_at b1]; rfl
          have ef0 := free_at b1 0
          have ef1 := free_at b1 1
          have hbW := lt_of_block b1
          have hXW := lt_of_block hblk
          have hBW := hI1.lt
          have hbr : some b ≠ vv.ownBlock := fun e => by
            obtain ⟨arr, ha⟩ := row_block b2 e.symm
            rw [b1] at ha
            simp at ha
          have hBb := hI1.high b hPb
          have hBr := fun r hr => (b2.lt r hr).1
          have HI1 := Lib.hid hI1
          have HB1 := Lib.hid hB1
          have B1 := Lib.hid b1
          have B2 := Lib.hid b2
          clear hblk hI1 hB1 b1 b2
          go_region
          go_wp2_with fail
          go_roundw
          case rel =>
            refine ⟨k + 1, by omega, by go_num, ?_⟩
            rw [rec_there hlt Hs.out (by have := Hk.out; omega) Hm.out]
            exact ⟨_, _, _, _, ((HI1.out.value hPb _).drew).more (by omega) (by omega), (HB1.out.setCell hBb _).drew⟩
          case measure => simp [intOf]; omega
        · have hl1 : ∀ o, (Instr.lookup 40 (.map (some w.heap.size)) (.string ⟨s.name.toArray⟩) false).run Tryz.prog (wr.alloc o) = .ok (.pointer none) (wr.alloc o) := fun o => hI.absent hlen hm _ (hI.map.alloc o)
          have hmbr : ∀ j, some w.heap.size = some j → w.heap.size ≤ j := fun j e => Nat.le_of_eq (Option.some.inj e)
          have hfew := hI.few
          have hiB := hI.lt
          have HI := Lib.hid hI
          have HB := Lib.hid hB
          have Hm := Lib.hid hm
          clear hI hB hm
          go_wp2_with (first | (at_mapUpdate; go_must (refine wpList_mapUpdate_own _ rfl _ _ _ 40 rfl 9 41 law9 Tryz.underlying40 Rp w.heap.size n D rfl ((HI.out.map.alloc _).alloc _) (by unfold maxLen; omega) _ _ (.string s.name) rfl rfl hkey.out (.lit (.int .i64 _)) [] rfl ?_); intro w2 hown2 hgrow2; obtain ⟨hI2, hblk, b1, b2, hl2⟩ := HI.out.fresh Hm.out hlen hgrow2 hown2; have hB2 := ((HB.out.alloc HI.out.lt _).alloc (by simp; omega) _).grown hgrow2 (by simp; omega) hmbr; have d0 : w2.cell? ⟨wr.heap.size, 0, none⟩ = some (.int .i64 4) := (by rw [cell_at hblk]; rfl); have d1 : w2.cell? ⟨wr.heap.size, 1, none⟩ = some (.string ⟨s.name.toArray⟩) := (by rw [cell_at hblk]; rfl); have d2 : w2.cell? ⟨wr.heap.size, 2, none⟩ = some (.int .i64 s.n) := (by rw [cell_at hblk]; rfl); have e0 : w2.cell? ⟨wr.heap.size + 1, 0, none⟩ = some (.int .i64 0) := (by rw [cell_at b1]; rfl); have e1 : w2.cell? ⟨wr.heap.size + 1, 1, none⟩ = some (.slice none 0 0) := (by rw [cell_at b1]; rfl); have ef0 := free_at b1 0; have ef1 := free_at b1 1; have HI2 := Lib.hid hI2; have HB2 := Lib.hid hB2; have B1 := Lib.hid b1; have B2 := Lib.hid b2; have Hbl := Lib.hid hblk; clear hI2 hB2 b1 b2 hblk hown2 hgrow2))
          obtain ⟨b, hbe⟩ : ∃ b, b = wr.heap.size + 1 := ⟨_, rfl⟩
          have hblk := Hbl.out
          have hI1 := HI2.out
          have hB1 := HB2.out
          have b1 := B1.out
          have b2 := B2.out
          have hPb : P b ∨ b = wr.heap.size + 1 := .inr hbe
          have b3 : 0 ≤ 2 * k := Nat.zero_le _
          have B4 : Hid (∀ g, (Value.slice none 0 0).ownBlock = some g → own g = wr.heap.size + 1) := Lib.hid (fun g e => by cases e)
          clear Hbl HI2 HB2 B1 B2 d0 d1 d2 e0 e1 ef0 ef1 hl2 hl1
          rw [← hbe] at b1 B4 ⊢
          obtain ⟨X, hX⟩ : ∃ X, X = wr.heap.size := ⟨_, rfl⟩
          rw [← hX] at hblk ⊢
          obtain ⟨vv, hvv⟩ : ∃ vv, vv = Value.slice none 0 0 := ⟨_, rfl⟩
          rw [← hvv] at b1 b2 B4
          obtain ⟨xv, hxv⟩ : ∃ xv : Int, xv = 0 := ⟨_, rfl⟩
          rw [← hxv] at b1
          obtain ⟨len, hlen0⟩ : ∃ len, len = 0 := ⟨_, rfl⟩
          rw [← hlen0] at b2 b3
          obtain ⟨xs, hxs⟩ : ∃ xs : List Value, xs = [] := ⟨_, rfl⟩
          rw [← hxs] at b2
          obtain ⟨W1, hW1⟩ : ∃ W1, W1 = w2 := ⟨_, rfl⟩
          rw [← hW1] at hblk hI1 hB1 b1 b2 ⊢
          clear hX hbe hvv hxv hlen0 hxs hW1
          have d2 : W1.cell? ⟨X, 2, none⟩ = some (.int .i64 s.n) := by rw [cell_at hblk]; rfl
          have e0 : W1.cell? ⟨b, 0, none⟩ = some (.int .i64 xv) := by rw [cell_at b1]; rfl
          have e1 : W1.cell? ⟨b, 1, none⟩ = some vv := by rw [cell_at b1]; rfl
          have ef0 := free_at b1 0
          have ef1 := free_at b1 1
          have hbW := lt_of_block b1
          have hXW := lt_of_block hblk
          have hBW := hI1.lt
          have hbr : some b ≠ vv.ownBlock := fun e => by
            obtain ⟨arr, ha⟩ := row_block b2 e.symm
            rw [b1] at ha
            simp at ha
          have hBb := hI1.high b hPb
          have hBr := fun r hr => (b2.lt r hr).1
          have HI1 := Lib.hid hI1
          have HB1 := Lib.hid hB1
          have B1 := Lib.hid b1
          have B2 := Lib.hid b2
          clear hblk hI1 hB1 b1 b2
          go_region
          go_wp2_with fail
          go_roundw
          case rel =>
            refine ⟨k + 1, by omega, by go_num, ?_⟩
            rw [rec_new hlt Hs.out (by have := Hk.out; omega) Hm.out]
            exact ⟨_, _, _, _, ((HI1.out.value hPb _).drew).more (by omega) (by omega), (HB1.out.setCell hBb _).drew⟩
          case measure => simp [intOf]; omega
      · have Hk := Lib.hid hkd
        rw [hkd] at c0
        replace c0 : wr.cell? ⟨g, k * 3, none⟩ = some (.int .i64 5) := c0
        have hn0 := ok.n
        clear ok hkd
        by_cases hm : s.name ∈ after (sts.take k)
        · obtain ⟨b, hPb, hbl, hlook⟩ := hI.found hlen hm
          have hl1 : ∀ o, (Instr.lookup 40 (.map (some w.heap.size)) (.string ⟨s.name.toArray⟩) false).run Tryz.prog (wr.alloc o) = .ok (ptrTo b) (wr.alloc o) := fun o => hlook _ (hI.map.alloc o)
          obtain ⟨xv, vv, len, xs, b1, b2, b3, b4⟩ := hI.blk b hPb
          have HI := Lib.hid hI
          have HB := Lib.hid hB
          have Hm := Lib.hid hm
          have e0 : wr.cell? ⟨b, 0, none⟩ = some (.int .i64 xv) := by rw [cell_at b1]; rfl
          have e1 : wr.cell? ⟨b, 1, none⟩ = some vv := by rw [cell_at b1]; rfl
          have ef0 := free_at b1 0
          have ef1 := free_at b1 1
          have B1 := Lib.hid b1
          have B2 := Lib.hid b2
          have B4 := Lib.hid b4
          clear hI hB hm hlook b1 b2 b4
          go_wp2_with fail
          obtain ⟨X, hX⟩ : ∃ X, X = wr.heap.size := ⟨_, rfl⟩
          have hblk := heap_alloc_new wr (Obj.cells #[Value.int IntKind.i64 5, Value.string { data := s.name.toArray }, Value.int IntKind.i64 s.n] 31)
          have hI1 := HI.out.alloc (Obj.cells #[Value.int IntKind.i64 5, Value.string { data := s.name.toArray }, Value.int IntKind.i64 s.n] 31)
          have hB1 := HB.out.alloc HI.out.lt (Obj.cells #[Value.int IntKind.i64 5, Value.string { data := s.name.toArray }, Value.int IntKind.i64 s.n] 31)
          have hg1 := grownBy_alloc wr (Obj.cells #[Value.int IntKind.i64 5, Value.string { data := s.name.toArray }, Value.int IntKind.i64 s.n] 31)
          have b1 := (hg1.block b hbl (by simp)).trans B1.out
          have b2 := B2.out.alloc (Obj.cells #[Value.int IntKind.i64 5, Value.string { data := s.name.toArray }, Value.int IntKind.i64 s.n] 31)
          have hsz : (wr.alloc (Obj.cells #[Value.int IntKind.i64 5, Value.string { data := s.name.toArray }, Value.int IntKind.i64 s.n] 31)).heap.size = wr.heap.size + 1 := by simp
          clear e0 e1 ef0 ef1 c0 c1 c2 hl1 B1 B2
          rw [← hX] at hblk hbl hsz ⊢
          clear hX hg1
          generalize World.alloc _ _ = W1 at hblk hI1 hB1 hsz b1 b2 ⊢
          have d2 : W1.cell? ⟨X, 2, none⟩ = some (.int .i64 s.n) := by rw [cell_at hblk]; rfl
          have e0 : W1.cell? ⟨b, 0, none⟩ = some (.int .i64 xv) := by rw [cell_at b1]; rfl
          have e1 : W1.cell? ⟨b, 1, none⟩ = some vv := by rw [cell_at b1]; rfl
          have ef0 := free_at b1 0
          have ef1 := free_at b1 1
          have hbW := lt_of_block b1
          have hXW := lt_of_block hblk
          have hBW := hI1.lt
          have hbr : some b ≠ vv.ownBlock := fun e => by
            obtain ⟨arr, ha⟩ := row_block b2 e.symm
            rw [b1] at ha
            simp at ha
          have hBb := hI1.high b hPb
          have hBr := fun r hr => (b2.lt r hr).1
          have HI1 := Lib.hid hI1
          have HB1 := Lib.hid hB1
          have B1 := Lib.hid b1
          have B2 := Lib.hid b2
          clear hblk hI1 hB1 b1 b2
          go_region_law (first | (refine step_append_lies _ (by rfl) _ _ _ (by rfl) w.heap.size 53 i0 _ 1 8 Tryz.underlying75 hi hz0 hz1 hz2 rfl (by omega) vv len xs (by simp [Act.eval]) ((B2.out.alloc _).drew) ⟨W1.heap.size, 0, none⟩ 1 1 [.float .f64 (floatOfInt .f64 s.n)] (by simp [Act.eval]) (by rfl) (World.news_of_block (cs := #[.float .f64 (floatOfInt .f64 s.n)]) (t := 53) (fr := (0, 0)) (heap_alloc_new _ _)) (by simp [Value.oneCell']) (by omega) (by unfold maxLen; omega) (by omega) (by simp; omega) (W1.heap.size + 1) (by simp) ?_; intro gg gcap w1 hown1 hgrow1 hat1 hlt1; have hb2 := (hgrow1.block b (by simp; omega) hbr).trans ((Below.heap_alloc _ _ b hbW).trans B1.out); have f1 := free_at hb2 1; have c3 : w1.cell? ⟨b, 1, none⟩ = some vv := (by rw [cell_at hb2]; rfl); have HO := Lib.hid hown1; have HG := Lib.hid hgrow1; have HA := Lib.hid hat1; clear hown1 hgrow1 hat1 hb2))
          all_goals
            go_wp2_with fail
            go_roundw
            case rel =>
              refine ⟨k + 1, by omega, by go_num, ?_⟩
              rw [rec_there hlt Hs.out (by have := Hk.out; omega) Hm.out]
              exact ⟨_, _, _, _, (((HI1.out.alloc _).drew).app hPb ((Below.heap_alloc _ _ b hbW).trans B1.out) b3 B4.out HG.out ((B2.out.alloc _).drew) HO.out (by simpa using HA.out) (by omega)).more (by omega) (by omega), ((((HB1.out.alloc hBW _).drew).grown HG.out (by simp; omega) hBr).setCell hBb _)⟩
            case measure => simp [intOf]; omega
        · have hl1 : ∀ o, (Instr.lookup 40 (.map (some w.heap.size)) (.string ⟨s.name.toArray⟩) false).run Tryz.prog (wr.alloc o) = .ok (.pointer none) (wr.alloc o) := fun o => hI.absent hlen hm _ (hI.map.alloc o)
          have hmbr : ∀ j, some w.heap.size = some j → w.heap.size ≤ j := fun j e => Nat.le_of_eq (Option.some.inj e)
          have hfew := hI.few
          have hiB := hI.lt
          have HI := Lib.hid hI
          have HB := Lib.hid hB
          have Hm := Lib.hid hm
          clear hI hB hm
          go_wp2_with (first | (at_mapUpdate; go_must (refine wpList_mapUpdate_own _ rfl _ _ _ 40 rfl 9 41 law9 Tryz.underlying40 Rp w.heap.size n D rfl ((HI.out.map.alloc _).alloc _) (by unfold maxLen; omega) _ _ (.string s.name) rfl rfl hkey.out (.lit (.int .i64 _)) [] rfl ?_); intro w2 hown2 hgrow2; obtain ⟨hI2, hblk, b1, b2, hl2⟩ := HI.out.fresh Hm.out hlen hgrow2 hown2; have hB2 := ((HB.out.alloc HI.out.lt _).alloc (by simp; omega) _).grown hgrow2 (by simp; omega) hmbr; have d0 : w2.cell? ⟨wr.heap.size, 0, none⟩ = some (.int .i64 5) := (by rw [cell_at hblk]; rfl); have d1 : w2.cell? ⟨wr.heap.size, 1, none⟩ = some (.string ⟨s.name.toArray⟩) := (by rw [cell_at hblk]; rfl); have d2 : w2.cell? ⟨wr.heap.size, 2, none⟩ = some (.int .i64 s.n) := (by rw [cell_at hblk]; rfl); have e0 : w2.cell? ⟨wr.heap.size + 1, 0, none⟩ = some (.int .i64 0) := (by rw [cell_at b1]; rfl); have e1 : w2.cell? ⟨wr.heap.size + 1, 1, none⟩ = some (.slice none 0 0) := (by rw [cell_at b1]; rfl); have ef0 := free_at b1 0; have ef1 := free_at b1 1; have HI2 := Lib.hid hI2; have HB2 := Lib.hid hB2; have B1 := Lib.hid b1; have B2 := Lib.hid b2; have Hbl := Lib.hid hblk; clear hI2 hB2 b1 b2 hblk hown2 hgrow2))
          obtain ⟨b, hbe⟩ : ∃ b, b = wr.heap.size + 1 := ⟨_, rfl⟩
          have hblk := Hbl.out
          have hI1 := HI2.out
          have hB1 := HB2.out
          have b1 := B1.out
          have b2 := B2.out
          have hPb : P b ∨ b = wr.heap.size + 1 := .inr hbe
          have b3 : 0 ≤ 2 * k := Nat.zero_le _
          have B4 : Hid (∀ g, (Value.slice none 0 0).ownBlock = some g → own g = wr.heap.size + 1) := Lib.hid (fun g e => by cases e)
          clear Hbl HI2 HB2 B1 B2 d0 d1 d2 e0 e1 ef0 ef1 hl2 hl1
          rw [← hbe] at b1 B4 ⊢
          obtain ⟨X, hX⟩ : ∃ X, X = wr.heap.size := ⟨_, rfl⟩
          rw [← hX] at hblk ⊢
          obtain ⟨vv, hvv⟩ : ∃ vv, vv = Value.slice none 0 0 := ⟨_, rfl⟩
          rw [← hvv] at b1 b2 B4
          obtain ⟨xv, hxv⟩ : ∃ xv : Int, xv = 0 := ⟨_, rfl⟩
          rw [← hxv] at b1
          obtain ⟨len, hlen0⟩ : ∃ len, len = 0 := ⟨_, rfl⟩
          rw [← hlen0] at b2 b3
          obtain ⟨xs, hxs⟩ : ∃ xs : List Value, xs = [] := ⟨_, rfl⟩
          rw [← hxs] at b2
          obtain ⟨W1, hW1⟩ : ∃ W1, W1 = w2 := ⟨_, rfl⟩
          rw [← hW1] at hblk hI1 hB1 b1 b2 ⊢
          clear hX hbe hvv hxv hlen0 hxs hW1
          have d2 : W1.cell? ⟨X, 2, none⟩ = some (.int .i64 s.n) := by rw [cell_at hblk]; rfl
          have e0 : W1.cell? ⟨b, 0, none⟩ = some (.int .i64 xv) := by rw [cell_at b1]; rfl
          have e1 : W1.cell? ⟨b, 1, none⟩ = some vv := by rw [cell_at b1]; rfl
          have ef0 := free_at b1 0
          have ef1 := free_at b1 1
          have hbW := lt_of_block b1
          have hXW := lt_of_block hblk
          have hBW := hI1.lt
          have hbr : some b ≠ vv.ownBlock := fun e => by
            obtain ⟨arr, ha⟩ := row_block b2 e.symm
            rw [b1] at ha
            simp at ha
          have hBb := hI1.high b hPb
          have hBr := fun r hr => (b2.lt r hr).1
          have HI1 := Lib.hid hI1
          have HB1 := Lib.hid hB1
          have B1 := Lib.hid b1
          have B2 := Lib.hid b2
          clear hblk hI1 hB1 b1 b2
          go_region_law (first | (refine step_append_lies _ (by rfl) _ _ _ (by rfl) w.heap.size 53 i0 _ 1 8 Tryz.underlying75 hi hz0 hz1 hz2 rfl (by omega) vv len xs (by simp [Act.eval]) ((B2.out.alloc _).drew) ⟨W1.heap.size, 0, none⟩ 1 1 [.float .f64 (floatOfInt .f64 s.n)] (by simp [Act.eval]) (by rfl) (World.news_of_block (cs := #[.float .f64 (floatOfInt .f64 s.n)]) (t := 53) (fr := (0, 0)) (heap_alloc_new _ _)) (by simp [Value.oneCell']) (by omega) (by unfold maxLen; omega) (by omega) (by simp; omega) (W1.heap.size + 1) (by simp) ?_; intro gg gcap w1 hown1 hgrow1 hat1 hlt1; have hb2 := (hgrow1.block b (by simp; omega) hbr).trans ((Below.heap_alloc _ _ b hbW).trans B1.out); have f1 := free_at hb2 1; have c3 : w1.cell? ⟨b, 1, none⟩ = some vv := (by rw [cell_at hb2]; rfl); have HO := Lib.hid hown1; have HG := Lib.hid hgrow1; have HA := Lib.hid hat1; clear hown1 hgrow1 hat1 hb2))
          all_goals
            go_wp2_with fail
            go_roundw
            case rel =>
              refine ⟨k + 1, by omega, by go_num, ?_⟩
              rw [rec_new hlt Hs.out (by have := Hk.out; omega) Hm.out]
              exact ⟨_, _, _, _, (((HI1.out.alloc _).drew).app hPb ((Below.heap_alloc _ _ b hbW).trans B1.out) b3 B4.out HG.out ((B2.out.alloc _).drew) HO.out (by simpa using HA.out) (by omega)).more (by omega) (by omega), ((((HB1.out.alloc hBW _).drew).grown HG.out (by simp; omega) hBr).setCell hBb _)⟩
            case measure => simp [intOf]; omega
      · have Hk := Lib.hid hkd
        rw [hkd] at c0
        replace c0 : wr.cell? ⟨g, k * 3, none⟩ = some (.int .i64 6) := c0
        have hn0 := ok.n
        clear ok hkd
        by_cases hm : s.name ∈ after (sts.take k)
        · obtain ⟨b, hPb, hbl, hlook⟩ := hI.found hlen hm
          have hl1 : ∀ o, (Instr.lookup 40 (.map (some w.heap.size)) (.string ⟨s.name.toArray⟩) false).run Tryz.prog (wr.alloc o) = .ok (ptrTo b) (wr.alloc o) := fun o => hlook _ (hI.map.alloc o)
          obtain ⟨xv, vv, len, xs, b1, b2, b3, b4⟩ := hI.blk b hPb
          have HI := Lib.hid hI
          have HB := Lib.hid hB
          have Hm := Lib.hid hm
          have e0 : wr.cell? ⟨b, 0, none⟩ = some (.int .i64 xv) := by rw [cell_at b1]; rfl
          have e1 : wr.cell? ⟨b, 1, none⟩ = some vv := by rw [cell_at b1]; rfl
          have ef0 := free_at b1 0
          have ef1 := free_at b1 1
          have B1 := Lib.hid b1
          have B2 := Lib.hid b2
          have B4 := Lib.hid b4
          clear hI hB hm hlook b1 b2 b4
          go_wp2_with fail
          obtain ⟨X, hX⟩ : ∃ X, X = wr.heap.size := ⟨_, rfl⟩
          have hblk := heap_alloc_new wr (Obj.cells #[Value.int IntKind.i64 6, Value.string { data := s.name.toArray }, Value.int IntKind.i64 s.n] 31)
          have hI1 := HI.out.alloc (Obj.cells #[Value.int IntKind.i64 6, Value.string { data := s.name.toArray }, Value.int IntKind.i64 s.n] 31)
          have hB1 := HB.out.alloc HI.out.lt (Obj.cells #[Value.int IntKind.i64 6, Value.string { data := s.name.toArray }, Value.int IntKind.i64 s.n] 31)
          have hg1 := grownBy_alloc wr (Obj.cells #[Value.int IntKind.i64 6, Value.string { data := s.name.toArray }, Value.int IntKind.i64 s.n] 31)
          have b1 := (hg1.block b hbl (by simp)).trans B1.out
          have b2 := B2.out.alloc (Obj.cells #[Value.int IntKind.i64 6, Value.string { data := s.name.toArray }, Value.int IntKind.i64 s.n] 31)
          have hsz : (wr.alloc (Obj.cells #[Value.int IntKind.i64 6, Value.string { data := s.name.toArray }, Value.int IntKind.i64 s.n] 31)).heap.size = wr.heap.size + 1 := by simp
          clear e0 e1 ef0 ef1 c0 c1 c2 hl1 B1 B2
          rw [← hX] at hblk hbl hsz ⊢
          clear hX hg1
          generalize World.alloc _ _ = W1 at hblk hI1 hB1 hsz b1 b2 ⊢
          have d2 : W1.cell? ⟨X, 2, none⟩ = some (.int .i64 s.n) := by rw [cell_at hblk]; rfl
          have e0 : W1.cell? ⟨b, 0, none⟩ = some (.int .i64 xv) := by rw [cell_at b1]; rfl
          have e1 : W1.cell? ⟨b, 1, none⟩ = some vv := by rw [cell_at b1]; rfl
          have ef0 := free_at b1 0
          have ef1 := free_at b1 1
          have hbW := lt_of_block b1
          have hXW := lt_of_block hblk
          have hBW := hI1.lt
          have hbr : some b ≠ vv.ownBlock := fun e => by
            obtain ⟨arr, ha⟩ := row_block b2 e.symm
            rw [b1] at ha
            simp at ha
          have hBb := hI1.high b hPb
          have hBr := fun r hr => (b2.lt r hr).1
          have HI1 := Lib.hid hI1
          have HB1 := Lib.hid hB1
          have B1 := Lib.hid b1
          have B2 := Lib.hid b2
          clear hblk hI1 hB1 b1 b2
          go_region_law (first | (refine step_append_lies _ (by rfl) _ _ _ (by rfl) w.heap.size 53 i0 _ 1 8 Tryz.underlying75 hi hz0 hz1 hz2 rfl (by omega) vv len xs (by simp [Act.eval]) ((B2.out.alloc _).drew) ⟨W1.heap.size, 0, none⟩ 2 2 [.float .f64 (floatOfInt .f64 s.n), .float .f64 (floatOfInt .f64 (IntKind.i64.wrap (s.n + 1)))] (by simp [Act.eval]) (by rfl) (World.news_of_block (cs := #[.float .f64 (floatOfInt .f64 s.n), .float .f64 (floatOfInt .f64 (IntKind.i64.wrap (s.n + 1)))]) (t := 53) (fr := (0, 0)) (heap_alloc_new _ _)) (by simp [Value.oneCell']) (by omega) (by unfold maxLen; omega) (by omega) (by simp; omega) (W1.heap.size + 1) (by simp) ?_; intro gg gcap w1 hown1 hgrow1 hat1 hlt1; have hb2 := (hgrow1.block b (by simp; omega) hbr).trans ((Below.heap_alloc _ _ b hbW).trans B1.out); have f1 := free_at hb2 1; have c3 : w1.cell? ⟨b, 1, none⟩ = some vv := (by rw [cell_at hb2]; rfl); have HO := Lib.hid hown1; have HG := Lib.hid hgrow1; have HA := Lib.hid hat1; clear hown1 hgrow1 hat1 hb2))
          all_goals
            go_wp2_with fail
            go_roundw
            case rel =>
              refine ⟨k + 1, by omega, by go_num, ?_⟩
              rw [rec_there hlt Hs.out (by have := Hk.out; omega) Hm.out]
              exact ⟨_, _, _, _, (((HI1.out.alloc _).drew).app hPb ((Below.heap_alloc _ _ b hbW).trans B1.out) b3 B4.out HG.out ((B2.out.alloc _).drew) HO.out (by simpa using HA.out) (by omega)).more (by omega) (by omega), ((((HB1.out.alloc hBW _).drew).grown HG.out (by simp; omega) hBr).setCell hBb _)⟩
            case measure => simp [intOf]; omega
        · have hl1 : ∀ o, (Instr.lookup 40 (.map (some w.heap.size)) (.string ⟨s.name.toArray⟩) false).run Tryz.prog (wr.alloc o) = .ok (.pointer none) (wr.alloc o) := fun o => hI.absent hlen hm _ (hI.map.alloc o)
          have hmbr : ∀ j, some w.heap.size = some j → w.heap.size ≤ j := fun j e => Nat.le_of_eq (Option.some.inj e)
          have hfew := hI.few
          have hiB := hI.lt
          have HI := Lib.hid hI
          have HB := Lib.hid hB
          have Hm := Lib.hid hm
          clear hI hB hm
          go_wp2_with (first | (at_mapUpdate; go_must (refine wpList_mapUpdate_own _ rfl _ _ _ 40 rfl 9 41 law9 Tryz.underlying40 Rp w.heap.size n D rfl ((HI.out.map.alloc _).alloc _) (by unfold maxLen; omega) _ _ (.string s.name) rfl rfl hkey.out (.lit (.int .i64 _)) [] rfl ?_); intro w2 hown2 hgrow2; obtain ⟨hI2, hblk, b1, b2, hl2⟩ := HI.out.fresh Hm.out hlen hgrow2 hown2; have hB2 := ((HB.out.alloc HI.out.lt _).alloc (by simp; omega) _).grown hgrow2 (by simp; omega) hmbr; have d0 : w2.cell? ⟨wr.heap.size, 0, none⟩ = some (.int .i64 6) := (by rw [cell_at hblk]; rfl); have d1 : w2.cell? ⟨wr.heap.size, 1, none⟩ = some (.string ⟨s.name.toArray⟩) := (by rw [cell_at hblk]; rfl); have d2 : w2.cell? ⟨wr.heap.size, 2, none⟩ = some (.int .i64 s.n) := (by rw [cell_at hblk]; rfl); have e0 : w2.cell? ⟨wr.heap.size + 1, 0, none⟩ = some (.int .i64 0) := (by rw [cell_at b1]; rfl); have e1 : w2.cell? ⟨wr.heap.size + 1, 1, none⟩ = some (.slice none 0 0) := (by rw [cell_at b1]; rfl); have ef0 := free_at b1 0; have ef1 := free_at b1 1; have HI2 := Lib.hid hI2; have HB2 := Lib.hid hB2; have B1 := Lib.hid b1; have B2 := Lib.hid b2; have Hbl := Lib.hid hblk; clear hI2 hB2 b1 b2 hblk hown2 hgrow2))
          obtain ⟨b, hbe⟩ : ∃ b, b = wr.heap.size + 1 := ⟨_, rfl⟩
          have hblk := Hbl.out
          have hI1 := HI2.out
          have hB1 := HB2.out
          have b1 := B1.out
          have b2 := B2.out
          have hPb : P b ∨ b = wr.heap.size + 1 := .inr hbe
          have b3 : 0 ≤ 2 * k := Nat.zero_le _
          have B4 : Hid (∀ g, (Value.slice none 0 0).ownBlock = some g → own g = wr.heap.size + 1) := Lib.hid (fun g e => by cases e)
          clear Hbl HI2 HB2 B1 B2 d0 d1 d2 e0 e1 ef0 ef1 hl2 hl1
          rw [← hbe] at b1 B4 ⊢
          obtain ⟨X, hX⟩ : ∃ X, X = wr.heap.size := ⟨_, rfl⟩
          rw [← hX] at hblk ⊢
          obtain ⟨vv, hvv⟩ : ∃ vv, vv = Value.slice none 0 0 := ⟨_, rfl⟩
          rw [← hvv] at b1 b2 B4
          obtain ⟨xv, hxv⟩ : ∃ xv : Int, xv = 0 := ⟨_, rfl⟩
          rw [← hxv] at b1
          obtain ⟨len, hlen0⟩ : ∃ len, len = 0 := ⟨_, rfl⟩
          rw [← hlen0] at b2 b3
          obtain ⟨xs, hxs⟩ : ∃ xs : List Value, xs = [] := ⟨_, rfl⟩
          rw [← hxs] at b2
          obtain ⟨W1, hW1⟩ : ∃ W1, W1 = w2 := ⟨_, rfl⟩
          rw [← hW1] at hblk hI1 hB1 b1 b2 ⊢
          clear hX hbe hvv hxv hlen0 hxs hW1
          have d2 : W1.cell? ⟨X, 2, none⟩ = some (.int .i64 s.n) := by rw [cell_at hblk]; rfl
          have e0 : W1.cell? ⟨b, 0, none⟩ = some (.int .i64 xv) := by rw [cell_at b1]; rfl
          have e1 : W1.cell? ⟨b, 1, none⟩ = some vv := by rw [cell_at b1]; rfl
          have ef0 := free_at b1 0
          have ef1 := free_at b1 1
          have hbW := lt_of_block b1
          have hXW := lt_of_block hblk
          have hBW := hI1.lt
          have hbr : some b ≠ vv.ownBlock := fun e => by
            obtain ⟨arr, ha⟩ := row_block b2 e.symm
            rw [b1] at ha
            simp at ha
          have hBb := hI1.high b hPb
          have hBr := fun r hr => (b2.lt r hr).1
          have HI1 := Lib.hid hI1
          have HB1 := Lib.hid hB1
          have B1 := Lib.hid b1
          have B2 := Lib.hid b2
          clear hblk hI1 hB1 b1 b2
          go_region_law (first | (refine step_append_lies _ (by rfl) _ _ _ (by rfl) w.heap.size 53 i0 _ 1 8 Tryz.underlying75 hi hz0 hz1 hz2 rfl (by omega) vv len xs (by simp [Act.eval]) ((B2.out.alloc _).drew) ⟨W1.heap.size, 0, none⟩ 2 2 [.float .f64 (floatOfInt .f64 s.n), .float .f64 (floatOfInt .f64 (IntKind.i64.wrap (s.n + 1)))] (by simp [Act.eval]) (by rfl) (World.news_of_block (cs := #[.float .f64 (floatOfInt .f64 s.n), .float .f64 (floatOfInt .f64 (IntKind.i64.wrap (s.n + 1)))]) (t := 53) (fr := (0, 0)) (heap_alloc_new _ _)) (by simp [Value.oneCell']) (by omega) (by unfold maxLen; omega) (by omega) (by simp; omega) (W1.heap.size + 1) (by simp) ?_; intro gg gcap w1 hown1 hgrow1 hat1 hlt1; have hb2 := (hgrow1.block b (by simp; omega) hbr).trans ((Below.heap_alloc _ _ b hbW).trans B1.out); have f1 := free_at hb2 1; have c3 : w1.cell? ⟨b, 1, none⟩ = some vv := (by rw [cell_at hb2]; rfl); have HO := Lib.hid hown1; have HG := Lib.hid hgrow1; have HA := Lib.hid hat1; clear hown1 hgrow1 hat1 hb2))
          all_goals
            go_wp2_with fail
            go_roundw
            case rel =>
              refine ⟨k + 1, by omega, by go_num, ?_⟩
              rw [rec_new hlt Hs.out (by have := Hk.out; omega) Hm.out]
              exact ⟨_, _, _, _, (((HI1.out.alloc _).drew).app hPb ((Below.heap_alloc _ _ b hbW).trans B1.out) b3 B4.out HG.out ((B2.out.alloc _).drew) HO.out (by simpa using HA.out) (by omega)).more (by omega) (by omega), ((((HB1.out.alloc hBW _).drew).grown HG.out (by simp; omega) hBr).setCell hBb _)⟩
            case measure => simp [intOf]; omega
      · have Hk := Lib.hid hkd
        rw [hkd] at c0
        replace c0 : wr.cell? ⟨g, k * 3, none⟩ = some (.int .i64 7) := c0
        have hn0 := ok.n
        clear ok hkd
        have hmbr : ∀ j, some w.heap.size = some j → w.heap.size ≤ j := fun j e => Nat.le_of_eq (Option.some.inj e)
        have hiB := hI.lt
        have HI := Lib.hid hI
        have HB := Lib.hid hB
        clear hI hB
        go_wp2_with (first | (at_delete; go_must (refine wpList_delete_own _ rfl _ _ 40 9 rfl 41 law9 Tryz.underlying40 Rp w.heap.size n D rfl (HI.out.map.alloc _) _ (.string s.name) rfl hkey.out ?_); intro w2 hown2 hturn2; have hg2 := hturn2.grown; have hI2 := (HI.out.alloc _).del hg2 hown2; have hB2 := (HB.out.alloc HI.out.lt _).grown hg2 (by simp; omega) hmbr; have HI2 := Lib.hid hI2; have HB2 := Lib.hid hB2; clear hown2 hturn2 hg2 hI2 hB2))
        go_roundw
        case rel =>
          refine ⟨k + 1, by omega, by go_num, ?_⟩
          rw [rec_gone hlt Hs.out Hk.out]
          exact ⟨_, _, _, _, HI2.out.more (by omega) (by omega), HB2.out⟩
        case measure => simp [intOf]; omega
    · have hkk : k = sts.length := by omega
      subst hkk
      rw [List.take_length] at hI
      have HI := Lib.hid hI
      have HB := Lib.hid hB
      clear hI hB
      go_wp2_with fail
      go_ret
      exact ⟨_, rfl, _, _, _, _, HI.out, HB.out⟩
end Go.Proofs.YtaphagdbekmngaaGreatDoor
