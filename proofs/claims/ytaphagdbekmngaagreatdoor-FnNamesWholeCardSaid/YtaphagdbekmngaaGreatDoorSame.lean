/- Two slices of the same strings are told to be the same: walked. -/
import Derived.Test.YtaphagdbekmngaaGreatDoorShelf
import Derived.Test.YtaphagdbekmngaaGreatDoorNames
import Derived.WalkLawsBesides
namespace Go.Proofs.YtaphagdbekmngaaGreatDoor
open Go.RowKit Go.Maps Go.Sort Go.Proofs

/-- What a call tells that only draws. -/
def Told (b : Bool) (w : World) (e : Ending) (w' : World) : Prop := e = .returned (.bool b) ∧ ∃ q, w' = w.drewN q

theorem equal_same (w : World) (b1 b2 : Nat) (v1 v2 : Value) (l : List (List UInt8)) (h1 : w.ownsRow b1 9 1 v1 l.length (l.map encStr)) (h2 : w.ownsRow b2 9 1 v2 l.length (l.map encStr)) (hl : l.length ≤ 1000) :
    Calls Tryz.prog 10 #[v1, v2] w (Told true w) := by
  have hempty : ∀ a1 a2 c d, l.length = 0 → Calls Tryz.prog 10 #[.slice a1 l.length c, .slice a2 l.length d] w (Told true w) := fun a1 a2 c d h0 => by
    rw [h0]
    refine (Tryz.slices_Equal_string_empty a1 a2 c 0 d w (by omega)).mono ?_
    rintro e w' ⟨rfl, rfl⟩
    exact ⟨rfl, 0, rfl⟩
  have hf : ∀ b v, w.ownsRow b 9 1 v l.length (l.map encStr) → ∃ a c, v = .slice a l.length c ∧ (0 < l.length → ∃ g, a = some ⟨g, 0, none⟩ ∧ ∀ j, j < l.length → w.cell? ⟨g, 0 + j, none⟩ = some (.string ((l.map fun x => (⟨x.toArray⟩ : ByteArray)).getD j ByteArray.empty))) := fun b v h => by
    rcases h.2 with ⟨rfl, h0⟩ | ⟨g, cap, cur, rfl, hb, hg, hn, hcm, hcs, ht⟩
    · exact ⟨none, 0, by rw [h0], fun h1 => by omega⟩
    · refine ⟨_, cap, rfl, fun _ => ⟨g, rfl, fun j hj => ?_⟩⟩
      rw [Nat.zero_add, cell_at hg]
      have e : (l.map encStr)[j]? = some (encStr l[j]) := by simp [List.getElem?_eq_getElem hj]
      rw [← ht, List.getElem?_take, if_pos (by omega)] at e
      rw [← Array.getElem?_toList, e]
      simp [encStr, List.getD, List.getElem?_eq_getElem hj]
  obtain ⟨a1, c1, rfl, k1⟩ := hf b1 v1 h1
  obtain ⟨a2, c2, rfl, k2⟩ := hf b2 v2 h2
  rcases Nat.eq_zero_or_pos l.length with h0 | hp
  · exact hempty _ _ _ _ h0
  · obtain ⟨g1, rfl, m1⟩ := k1 hp
    obtain ⟨g2, rfl, m2⟩ := k2 hp
    refine (Tryz.slices_Equal_string g1 0 l.length c1 g2 0 l.length c2 (l.map fun x => ⟨x.toArray⟩) (l.map fun x => ⟨x.toArray⟩) w (by simp) (by simp) (by omega) (by omega) (by simpa using m1) (by simpa using m2)).mono ?_
    rintro e w' ⟨rfl, q, rfl⟩
    exact ⟨by simp, q, rfl⟩

set_option maxRecDepth 100000 in
theorem same_any (w : World) (b1 b2 : Nat) (v1 v2 : Value) (l : List (List UInt8)) (h1 : w.ownsRow b1 9 1 v1 l.length (l.map encStr)) (h2 : w.ownsRow b2 9 1 v2 l.length (l.map encStr)) (hl : l.length ≤ 1000) :
    Calls Tryz.prog 5 #[v1, v2] w (Told true w) := by
  have H := Lib.hid (equal_same w b1 b2 v1 v2 l h1 h2 hl)
  clear h1 h2
  go_enter Tryz.func5, Tryz.ntmps5
  go_wp2_with (first | (go_at_call 10; refine H.out.mono ?_; rintro e w' ⟨rfl, q, rfl⟩))
  go_ret
  exact ⟨rfl, q, rfl⟩
end Go.Proofs.YtaphagdbekmngaaGreatDoor
