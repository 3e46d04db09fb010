/- The names of a set's metrics, listed in order: walked. -/
import Derived.Test.YtaphagdbekmngaaGreatDoorGone
import Derived.Maps.RangeWalk
import Derived.Sort.KeysCollected
import Derived.Sort.OwnSorted
namespace Go.Proofs.YtaphagdbekmngaaGreatDoor
open Go.RowKit Go.Maps Go.Sort

theorem sort31 (blk off cap : Nat) (ss : List (List UInt8)) (w : World) (hH : Holds encStr w blk off ss.toArray) (hblk : blk < w.heap.size) (hsz : ss.length < 4611686018427387904) :
    Calls Tryz.prog 31 #[.slice (some ⟨blk, off, none⟩) ss.length cap] w fun e w' =>
      e = .returned (.tuple #[]) ∧ ∃ n os, w' = grow (putRow encStr (Sort.ahead w n) blk off (ss.mergeSort fun x y => decide (x ≤ y)).toArray) os :=
  AnyM.slices_Sort_string Tryz.sort31 blk off cap ss w hH hblk hsz

def mkV (o : Option Nat) : Value := .pointer (o.map fun b => ⟨b, 0, none⟩)
theorem mkV_inv (v : Value) (y : DataW Unit × List MemPlace) (h : Rp v = some y) : ∃ c, v = mkV c := by
  unfold Rp at h
  split at h
  · exact ⟨none, rfl⟩
  · rename_i b
    exact ⟨some b, rfl⟩
  · cases h

theorem info9 : (Tryz.prog.info? 9).map (fun i => (i.zero, i.size, i.bytes)) = some (some (.string ⟨#[]⟩), 1, 16) := by kernel_rfl

/-- What listing the names gives. -/
def Listed (w : World) (D : DataW Unit) (e : Ending) (w' : World) : Prop :=
  ∃ (v : Value) (ss : List (List UInt8)), e = .returned v ∧ ss.Perm (strKeys D) ∧ w'.ownsRow w.heap.size 9 1 v ss.length ((ss.mergeSort (fun x y => decide (x ≤ y))).map encStr) ∧ Below w.heap.size w w'

set_option maxRecDepth 100000 in
set_option maxHeartbeats 1000000 in
theorem list_any {B N : Nat} {cls : Cls} {w : World} {sb : Nat} {es : List Ent} {av : Value} {mb : Nat} {D : DataW Unit} {n : Nat}
    (h : Inv B N cls w sb es av mb D n) (hN : N ≤ 900) : Calls Tryz.prog 12 #[ptrTo sb] w (Listed w D) := by
  obtain ⟨i0, hi, hz0, hz1, hz2⟩ := info_parts info9
  have hown := h.map
  have hbl := hown.lt
  have c1 : w.cell? ⟨sb, 1, none⟩ = some (.map (some mb)) := by rw [cell_at h.body]; rfl
  have hsz : Maps.size D ≤ 900 := by have := hown.size_le; have := h.few; omega
  have hmax : Maps.size D ≤ maxLen := by unfold maxLen; omega
  have hsb := lt_of_block h.body
  have HI := Lib.hid h
  have HO := Lib.hid hown
  have c1' := Lib.hid c1
  have CC : ∀ w1 : World, w.grownBy w1 none → w1.cell? ⟨sb, 1, none⟩ = some (.map (some mb)) := fun w1 hg => by rw [World.cell?_of_block (w := w) (hg.block sb hsb (by simp))]; exact c1'.out
  have CC' := Lib.hid CC
  clear h hown CC
  go_enter Tryz.func12, Tryz.ntmps12
  go_wp2_with (first | (at_len; refine wpList_len_own _ rfl _ 65 rfl 9 69 Tryz.underlying65 _ mb n D rfl HO.out ?_) | (at_make; refine wpList_make_own _ rfl _ _ 26 rfl w.heap.size 9 i0 (.string ⟨#[]⟩) 1 Tryz.underlying26 hi hz0 hz1 _ _ _ (Maps.size D) rfl rfl rfl (by rw [hz2]; omega) hmax (Nat.le_refl _) ?_; intro w1 hrow1 hg1; have c11 := CC'.out w1 hg1) | (at_range; refine wpList_range_own _ rfl _ 65 rfl 9 69 law9 Tryz.underlying65 Rp mb n D rfl (HO.out.kept hg1 (by simp)) ?_; intro w0 hrg0 hg0 hs0))
  go_frame
  go_loopw [3] (fun v wr => ∃ (left : Lit → Bool) (cnt : Nat) (ss : List (List UInt8)), wr.ranges Tryz.prog 9 Rp mb w1.heap.size n D left cnt ∧ ss.length + cnt ≤ Maps.size D ∧ wr.ownsRow w.heap.size 9 1 v ss.length (ss.map encStr) ∧ v ≠ .slice none 0 0 ∧ Collected D left ss ∧ Below w.heap.size w wr) (fun _ wr => wr.rangeLeft mb w1.heap.size)
  case atStart =>
    exact ⟨_, _, [], hrg0, by simp, hrow1.kept hg0 (Or.inr (by simp [Value.ownBlock])), by simp, Collected.start D,
      ((Below.refl _ _).grown hg1 (Nat.le_refl _) (fun j hj => by cases hj)).grown hg0 hg1.size (fun j hj => by cases hj)⟩
  case round =>
    obtain ⟨left, cnt, ss, hrg, hcs, hrow, hnn, hC, hnx⟩ := hrel
    go_wp2_with (first | (at_next; refine wpList_next_ranges _ rfl _ rfl 9 law9 Rp encStr mkV (fun key kl hk => by obtain ⟨x, hx, _⟩ := Maps.keyOf_str Tryz.underlying9 hk; exact ⟨x, hx⟩) mkV_inv mb w1.heap.size n _ _ _ rfl hrg ?_ ?_))
    · intro hc0 hl0
      rcases hrow.2 with ⟨hnil, _⟩ | ⟨g, cap, cur, rfl, hbase, hb, h1, h2, h3, h4⟩
      · exact absurd hnil hnn
      have hH : Holds encStr wr g 0 ss.toArray := holds_of_block hb (by simpa using h4)
      have hgl : g < wr.heap.size := (Array.getElem?_eq_some_iff.1 hb).1
      have hc := sort31 g 0 cap ss wr hH hgl (by omega)
      go_wp2_with (go_at_call 31; refine hc.mono ?_; rintro e w' ⟨rfl, nn, os, rfl⟩)
      go_ret
      exact ⟨_, ss, rfl, hC.perm HO.out law9 Tryz.underlying9 hl0, ownsRow_sorted (by simp) hbase hb h1 h2 h3, hnx.grown (grownBy_sorted _) hnx.size (fun j hj => by cases hj; exact hbase)⟩
    · intro x c kl yd yp w2 cnt2 hkey hlk hv hat hrg2 hlt hg2 hs2 hen
      obtain ⟨x', ex, rfl, _⟩ := Maps.keyOf_str Tryz.underlying9 hkey
      obtain rfl : x = x' := encStr_inj ex
      have hhas : Maps.has D (.string x) = true := has_true_of_atKey hat
      rw [HI.out.knows.1] at hhas
      obtain ⟨en, hen1, rfl⟩ := List.mem_map.1 (of_decide_eq_true hhas)
      have hyd : yd = .lit (.int .i64 en.nb) := by rw [← hat .nil]; exact HI.out.knows.2 en hen1
      rw [hyd] at hv
      have hmk := Rp_lit_inv hv
      obtain rfl : c = some en.nb := by
        cases c with
        | none => cases hmk
        | some b => simp only [mkV, Option.map_some, Value.pointer.injEq, Option.some.injEq, Addr.mk.injEq] at hmk; rw [hmk.1]
      obtain ⟨e1, _⟩ := HI.out.ents en hen1
      have hnb := lt_of_block e1
      have hB2 : Below w.heap.size w w2 := hnx.grown hg2 hnx.size (fun j hj => by cases hj; exact hg1.size)
      have e2 : w2.heap[en.nb]? = _ := (hB2.block en.nb hnb).trans e1
      have n0 : w2.cell? ⟨en.nb, 0, none⟩ = some (.string ⟨en.name.toArray⟩) := by rw [cell_at e2]; rfl
      have n2 : w2.cell? ⟨en.nb, 2, none⟩ = some (.bool false) := by rw [cell_at e2]; rfl
      have hrow2 := hrow.kept hg2 (Or.inr (row_ne_iter hrow hrg).symm)
      have hszw := hB2.size
      have HR2 := Lib.hid hrg2
      have HB2 := Lib.hid hB2
      have HCs := Lib.hid (hC.step hlk hat)
      have HG2 := Lib.hid hg2
      have HRr := Lib.hid hrg
      have HBn := Lib.hid hnx
      clear hs2 hyd hmk hv hhas e1 e2 hB2 hrg2 hat hlk hC hg2 hrg hnx hrow
      simp only [mkV, Option.map_some] at hen ⊢
      go_wp2_with (first | (at_builtin; refine wpList_append_own _ rfl _ _ 26 rfl w.heap.size 9 i0 (.string ⟨#[]⟩) 1 16 Tryz.underlying26 hi hz0 hz1 hz2 rfl (by decide) _ _ _ rfl (hrow2.alloc _) ⟨w2.heap.size, 0, none⟩ 1 1 [encStr en.name] rfl rfl (cell_one_new _ _ _) (by simp [Value.oneCell', encStr]) (by unfold maxLen at *; omega) (by omega) (by simp; omega) ?_; intro v' w3 hown' hg3 hnil3; go_frame))
      have hrg3 := (HR2.out.alloc _).kept hg3 (row_ne_low hrow2 hbl) (row_ne_iter hrow2 HR2.out)
      go_roundw
      case rel =>
        refine ⟨_, cnt2, ss ++ [en.name], hrg3, by simp; omega, by simpa using hown', fun hv' => by have := (hnil3.1 hv').2; omega, HCs.out, ?_⟩
        exact (HB2.out.alloc hszw _).grown hg3 (by simp; omega) (fun j hj => (hrow2.lt j hj).1)
      case measure => rw [hrg3.left_eq, HRr.out.left_eq]; exact hlt
end Go.Proofs.YtaphagdbekmngaaGreatDoor
