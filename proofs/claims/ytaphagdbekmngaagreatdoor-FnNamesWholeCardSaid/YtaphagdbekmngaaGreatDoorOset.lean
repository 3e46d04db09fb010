/- The set behind one step that adds three to the counter a: walked. -/
import Derived.Test.YtaphagdbekmngaaGreatDoorOne
import Derived.Deep.RegionHeld3
namespace Go.Proofs.YtaphagdbekmngaaGreatDoor
open Go.RowKit Go.Maps

/-- A set with the one counter a, which tells three. -/
def OneAt (B : Nat) (sb : Nat) (W : World) : Prop := ∃ g cap nb b mb, W.heap[sb]? = some (.cells #[.slice (some ⟨g, 0, none⟩) 1 cap, .map (some mb), .bool false, .slice none 0 0] 68 (0, 0)) ∧
  W.ownsRow B 69 1 (.slice (some ⟨g, 0, none⟩) 1 cap) 1 [ptrTo nb] ∧ W.heap[nb]? = some (.cells #[.string ⟨#[97]⟩, .iface 45 (ptrTo b), .bool false] 73 (0, 0)) ∧ W.heap[b]? = some (.cells #[.int .u64 3] 84 (0, 0)) ∧ B ≤ sb

def Oset (B : Nat) (w : World) (e : Ending) (W : World) : Prop := ∃ sb, e = .returned (ptrTo sb) ∧ OneAt B sb W ∧ Below B w W

theorem one_of {B : Nat} {w W : World} {sb mb : Nat} (h : FirstAt B w sb mb [97] W) (hB : B ≤ sb) (hsb : sb < w.heap.size) : OneAt B sb (W.setCell ⟨w.heap.size, 0, none⟩ (.int .u64 3)) := by
  obtain ⟨h1, h2, ⟨g, cap, h3, h4⟩, h5, h6⟩ := h
  refine ⟨g, cap, w.heap.size + 1, w.heap.size, mb, (Below.heap_setCell _ _ _ _ (show sb ≠ w.heap.size by omega)).trans h3, ?_, (Below.heap_setCell _ _ _ _ (show w.heap.size + 1 ≠ w.heap.size by omega)).trans h2, by rw [heap_setCell_same h1]; rfl, hB⟩
  refine ownsRow_setCell_other h4 ?_ _
  intro e
  obtain ⟨arr, ha⟩ := row_block h4 e
  rw [h1] at ha
  simp at ha

set_option maxHeartbeats 4000000 in
set_option maxRecDepth 100000 in
theorem set_one (w : World) (R : Nat) (hR : w.heap[R]? = some (.cells #[.int .i64 0, .string ⟨#[97]⟩, .int .i64 3] 31 (0, 0))) :
    Calls Tryz.prog 11 #[.slice (some ⟨R, 0, none⟩) 1 1] w (Oset w.heap.size w) := by
  have HR := Lib.hid hR
  have hRl := lt_of_block hR
  clear hR
  go_enter Tryz.func11, Tryz.ntmps11
  go_wp2_with (first | (go_at_call 18; refine (newSet_any _).mono ?_; rintro e w' ⟨rfl, hw'⟩))
  subst hw'
  go_loopw [10] (fun i wr => (i = .int .i64 0 ∧ Inv w.heap.size 0 (fun _ => 0) wr (w.heap.size + 1) [] (.slice none 0 0) w.heap.size (.map []) 0 ∧ Below w.heap.size w wr) ∨ (i = .int .i64 1 ∧ OneAt w.heap.size (w.heap.size + 1) wr ∧ Below w.heap.size w wr)) (fun i _ => 1 - (intOf i).toNat)
  case atStart =>
    exact .inl ⟨rfl, inv_new w, ((Below.refl _ _).alloc (Nat.le_refl _) _).alloc (by simp) _⟩
  case round =>
    rcases hrel with ⟨rfl, hI, hB⟩ | ⟨rfl, hO, hB⟩
    · have c0 : wr.cell? ⟨R, 0, none⟩ = some (.int .i64 0) := (hB.cell (p := ⟨R, 0, none⟩) hRl).trans (by rw [cell_at HR.out]; rfl)
      have c1 : wr.cell? ⟨R, 1, none⟩ = some (.string ⟨#[97]⟩) := (hB.cell (p := ⟨R, 1, none⟩) hRl).trans (by rw [cell_at HR.out]; rfl)
      have c2 : wr.cell? ⟨R, 2, none⟩ = some (.int .i64 3) := (hB.cell (p := ⟨R, 2, none⟩) hRl).trans (by rw [cell_at HR.out]; rfl)
      have HI := Lib.hid hI
      have HB := Lib.hid hB
      clear hI hB
      go_wp2_with fail
      obtain ⟨X, hX⟩ : ∃ X, X = wr.heap.size := ⟨_, rfl⟩
      have hblk := heap_alloc_new wr (Obj.cells #[Value.int IntKind.i64 0, Value.string ⟨#[97]⟩, Value.int IntKind.i64 3] 31)
      have hI1 := HI.out.alloc (Obj.cells #[Value.int IntKind.i64 0, Value.string ⟨#[97]⟩, Value.int IntKind.i64 3] 31)
      have hB1 := HB.out.alloc HI.out.lt (Obj.cells #[Value.int IntKind.i64 0, Value.string ⟨#[97]⟩, Value.int IntKind.i64 3] 31)
      rw [← hX] at hblk ⊢
      clear hX
      generalize World.alloc _ _ = W1 at hblk hI1 hB1 ⊢
      have d1 : W1.cell? ⟨X, 1, none⟩ = some (.string ⟨#[97]⟩) := by rw [cell_at hblk]; rfl
      have d2 : W1.cell? ⟨X, 2, none⟩ = some (.int .i64 3) := by rw [cell_at hblk]; rfl
      have hXl := lt_of_block hblk
      have hsl := lt_of_block hI1.body
      have hbl := hI1.base.1
      have Hblk := Lib.hid hblk
      have HI1 := Lib.hid hI1
      have HB1 := Lib.hid hB1
      clear hblk hI1 hB1 c0 c1 c2
      go_region_held3 (fun w' => w'.cell? ⟨X, 1, none⟩ = some (.string ⟨#[97]⟩) ∧ w'.cell? ⟨X, 2, none⟩ = some (.int .i64 3))
        (first | exact ⟨d1, d2⟩ | exact ⟨f1, f2⟩ | exact ⟨e1, e2⟩ | go_keep)
        (first
          | (go_at_call 19; refine (first_counter HI1.out.drew (by omega) [97] (by decide) (validate_one 97 (by decide))).mono ?_; rintro e w2 ⟨rfl, hF⟩; have e1 := (hF.2.2.2.2.cell (m := (0, 0)) (b := X) Hblk.out 1).trans d1; have e2 := (hF.2.2.2.2.cell (m := (0, 0)) (b := X) Hblk.out 2).trans d2; have x1 : w2.cell? ⟨W1.heap.size, 0, none⟩ = some (.int .u64 0) := (by rw [show W1.heap.size = W1.drew.heap.size from rfl, cell_at hF.1]; rfl); have x2 : w2.frozen? ⟨W1.heap.size, 0, none⟩ = false := free_at hF.1 0; have HF := Lib.hid hF; clear hF)
          | (go_at_call 20; refine (add_three w2 _ x1 x2).mono ?_; rintro e w3 ⟨rfl, hw3⟩; have f1 : w3.cell? ⟨X, 1, none⟩ = some (.string ⟨#[97]⟩) := (by rw [← hw3, World.cell?_of_block (a := ⟨X, 1, none⟩) (Below.heap_setCell _ _ _ _ (Nat.ne_of_lt hXl))]; exact e1); have f2 : w3.cell? ⟨X, 2, none⟩ = some (.int .i64 3) := (by rw [← hw3, World.cell?_of_block (a := ⟨X, 2, none⟩) (Below.heap_setCell _ _ _ _ (Nat.ne_of_lt hXl))]; exact e2); have HW3 := Lib.hid hw3; clear hw3))
      go_wp2_with fail
      go_roundw
      case rel =>
        right
        have hw3 := HW3.out
        subst hw3
        exact ⟨by go_num, one_of (w := W1.drew) HF.out hbl hsl, ((HB1.out.drew).trans HF.out.2.2.2.1).setCell HB1.out.size _⟩
      case measure => simp [intOf]
    · have HO := Lib.hid hO
      have HB := Lib.hid hB
      clear hO hB
      go_wp2_with fail
      go_ret
      exact ⟨_, rfl, HO.out, HB.out⟩
end Go.Proofs.YtaphagdbekmngaaGreatDoor
