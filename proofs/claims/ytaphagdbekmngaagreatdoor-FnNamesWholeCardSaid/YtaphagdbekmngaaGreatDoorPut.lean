/- A counter writes its line: walked. -/
import Derived.Test.YtaphagdbekmngaaGreatDoorTell
import Derived.Stop.Asserts
import Derived.Handy
import Derived.Laws.IdiomStrings
namespace Go.Proofs.YtaphagdbekmngaaGreatDoor
open Go.RowKit Go.Maps

theorem ta160 (v : Value) (w : World) : (Instr.typeAssert (.iface 110 v) 109 160 true).run Tryz.prog w = .ok (.tuple #[.nilIface, .bool false]) w :=
  run_typeAssert_lacksB Tryz.underlying160 (by kernel_rfl) (by kernel_rfl) v 109 w

def lineB : List UInt8 := [97, 32, 51, 10]
def lineCells : List Value := [.int .u8 97, .int .u8 32, .int .u8 51, .int .u8 10]

/-- The line's bytes, newly laid. -/
theorem line_conv (w : World) : ∃ cap o, (convert 9 22 (.string ⟨#[97, 32, 51, 10]⟩)).run Tryz.prog w = .ok (.slice (some ⟨w.heap.size, 0, none⟩) 4 cap) (w.drew.alloc o) ∧ ∀ j u, lineCells[j]? = some u → (w.drew.alloc o).cell? ((⟨w.heap.size, 0, none⟩ : Addr).add j) = some u := by
  refine ⟨_, _, run_bytes_of_string w 9 22 5 ⟨#[97, 32, 51, 10]⟩ Tryz.underlying9 Tryz.underlying22 Tryz.underlying5, ?_⟩
  · intro j u hu
    have hn := heap_alloc_new w.drew (.cells (bytesRow ⟨#[97, 32, 51, 10]⟩ (grownCap w (⟨#[97, 32, 51, 10]⟩ : ByteArray).size 0 5)) 5 ((bytesRow ⟨#[97, 32, 51, 10]⟩ (grownCap w (⟨#[97, 32, 51, 10]⟩ : ByteArray).size 0 5)).size, (bytesRow ⟨#[97, 32, 51, 10]⟩ (grownCap w (⟨#[97, 32, 51, 10]⟩ : ByteArray).size 0 5)).size + 1))
    have ha : (⟨w.heap.size, 0, none⟩ : Addr).add j = ⟨w.heap.size, j, none⟩ := by unfold Addr.add; split <;> simp_all
    rw [ha]
    refine (cell_at (w := w.drew.alloc _) hn j).trans ?_
    have hj : j < 4 := by
      have := (List.getElem?_eq_some_iff.1 hu).1
      exact this
    unfold bytesRow
    rw [Array.getElem?_append_left (by simpa using hj)]
    obtain rfl | rfl | rfl | rfl : j = 0 ∨ j = 1 ∨ j = 2 ∨ j = 3 := by omega
    all_goals (simp [lineCells] at hu; subst hu; simp)

set_option maxHeartbeats 1000000 in
set_option maxRecDepth 100000 in
theorem write_line (B c : Nat) (w : World) (hc : w.heap[c]? = some (.cells #[.slice none 0 0] 106 (0, 0))) (hB : B ≤ c) :
    Calls Tryz.prog 91 #[.iface 110 (.pointer (some ⟨c, 0, none⟩)), .string ⟨#[97, 32, 51, 10]⟩] w (Wrote B c 4 lineCells w) := by
  obtain ⟨cap, o, hconv, hcells⟩ := line_conv w
  have hta := ta160
  have hcl := lt_of_block hc
  have hc2 : (w.drew.alloc o).heap[c]? = _ := (Below.heap_alloc w.drew o c hcl).trans hc
  have HC := Lib.hid hc2
  have HX := Lib.hid hcells
  clear hc hc2 hcells
  go_enter Tryz.func91, Tryz.ntmps91
  go_wp2_with (first | (go_at_call 212; refine (write_any B c w.heap.size 4 cap lineCells (w.drew.alloc o) HC.out hB rfl (by omega) (by omega) HX.out (by simp [lineCells, Value.oneCell'])).mono ?_; rintro e w2 ⟨rfl, hw⟩; have HW := Lib.hid hw; clear hw))
  go_ret2
  obtain ⟨g, gc, h1, h2, h3⟩ := HW.out
  exact ⟨rfl, g, gc, h1, h2, (((Below.refl B w).drew).alloc (show B ≤ w.heap.size by omega) o).trans h3⟩

set_option maxHeartbeats 1000000 in
set_option maxRecDepth 100000 in
/-- The counter a writes its line. -/
theorem marshal_line (B c b : Nat) (w : World) (hc : w.heap[c]? = some (.cells #[.slice none 0 0] 106 (0, 0))) (hB : B ≤ c) (hb : w.cell? ⟨b, 0, none⟩ = some (.int .u64 3)) :
    Calls Tryz.prog 127 #[.pointer (some ⟨b, 0, none⟩), .string ⟨#[97]⟩, .iface 110 (.pointer (some ⟨c, 0, none⟩))] w fun e W => e = .returned (.tuple #[]) ∧ ∃ v, Wrote B c 4 lineCells w v W := by
  have HG := Lib.hid (get_three b w hb)
  have HW := Lib.hid (write_line B c w hc hB)
  clear hc hb
  go_enter Tryz.func127, Tryz.ntmps127
  go_wp2_with (first | (go_at_call 129; refine HG.out.mono ?_; rintro e w' ⟨rfl, rfl⟩) | (go_at_call 130; refine (format_three _).mono ?_; rintro e w' ⟨rfl, rfl⟩) | (go_at_call 91; refine HW.out.mono ?_; intro e w2 hw; have HW2 := Lib.hid hw; obtain ⟨rfl, hw2⟩ := hw; clear hw2))
  go_end0
  exact ⟨rfl, _, HW2.out⟩
end Go.Proofs.YtaphagdbekmngaaGreatDoor
