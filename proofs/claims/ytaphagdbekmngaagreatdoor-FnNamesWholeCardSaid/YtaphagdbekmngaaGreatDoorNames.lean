/- The names that the program lists behind steps: walked. -/
import Derived.Test.YtaphagdbekmngaaGreatDoorImpl
namespace Go.Proofs.YtaphagdbekmngaaGreatDoor
open Go.RowKit Go.Maps Go.Sort

/-- A fresh slice of the names, in order. -/
def SortedOf (nms : List (List UInt8)) (w : World) (e : Ending) (w' : World) : Prop :=
  ∃ v, e = .returned v ∧ w'.ownsRow w.heap.size 9 1 v nms.length ((nms.mergeSort (fun x y => decide (x ≤ y))).map encStr) ∧ Below w.heap.size w w'

theorem perm_known {w : World} {b n : Nat} {D : DataW Unit} (hown : w.ownsMap Tryz.prog 9 Rp b n D) {nms : List (List UInt8)} (hnd : nms.Nodup) (hk : ∀ k : List UInt8, Maps.has D (.string k) = decide (k ∈ nms)) : nms.Perm (strKeys D) :=
  Collected.perm (left := fun _ => false) ⟨hnd, fun x => by rw [hk x]; simp⟩ hown law9 Tryz.underlying9 (fun _ => rfl)

theorem row_low {w : World} {base base' size n : Nat} {e : TypeId} {v : Value} {xs : List Value} (h : w.ownsRow base e size v n xs) (hb : base' ≤ base) : w.ownsRow base' e size v n xs :=
  ⟨h.1, h.2.imp id fun ⟨g, cap, cur, h1, h2, h3⟩ => ⟨g, cap, cur, h1, Nat.le_trans hb h2, h3⟩⟩

theorem sorted_as {ss nms : List (List UInt8)} (h : ss.Perm nms) {base : Nat} {v : Value} {w : World} (hr : w.ownsRow base 9 1 v ss.length ((ss.mergeSort (fun x y => decide (x ≤ y))).map encStr)) :
    w.ownsRow base 9 1 v nms.length ((nms.mergeSort (fun x y => decide (x ≤ y))).map encStr) := by
  rw [← h.length_eq, ← mergeSort_of_perm h]
  exact hr

set_option maxHeartbeats 1000000 in
set_option maxRecDepth 100000 in
theorem names_any (w : World) (base : Nat) (v : Value) (sts : List St) (hst : StepsAt w base v sts) (hl : sts.length ≤ 60) (hok : ∀ s ∈ sts, StOk s) :
    Calls Tryz.prog 6 #[v] w (SortedOf (after sts) w) := by
  have HC := Lib.hid (set_any w base v sts hst hl hok)
  clear hst hok
  go_enter Tryz.func6, Tryz.ntmps6
  go_wp2_with (first | (go_at_call 11; refine HC.out.mono ?_; rintro e w1 ⟨sb, rfl, cls, es, av, mb, D, n, hI, hB, hN⟩; have HI := Lib.hid hI; have HB := Lib.hid hB; have HN := Lib.hid hN; clear hI hB hN) | (go_at_call 12; refine (list_any HI.out (by omega)).mono ?_; rintro e w2 ⟨v2, ss, rfl, hp, hr, hB2⟩; have HP := Lib.hid hp; have HR := Lib.hid hr; have HB2 := Lib.hid hB2; clear hp hr hB2))
  go_ret
  have hperm := HP.out.trans (perm_known HI.out.map HI.out.nodup HI.out.knows.1).symm
  rw [HN.out] at hperm
  have hsz := HB.out.size
  exact ⟨v2, rfl, sorted_as hperm (row_low HR.out HB.out.size), HB.out.trans (HB2.out.mono HB.out.size)⟩
end Go.Proofs.YtaphagdbekmngaaGreatDoor
