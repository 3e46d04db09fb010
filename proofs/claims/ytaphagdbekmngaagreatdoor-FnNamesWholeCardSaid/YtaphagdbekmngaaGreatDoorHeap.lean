/- Blocks that are kept track of by the type of what they hold: a ghost table of classes, and how the world may go on under it. -/
import Derived.Below
import Derived.OneCell
import Derived.Laws.World
import Derived.Laws.AppendOwn
namespace Go.Proofs.YtaphagdbekmngaaGreatDoor
open Go.RowKit

/-- A block is of class t (0: not kept track of). -/
abbrev Cls := Nat → Nat

def GoodHist (cls : Cls) (arr : Array Value) : Prop :=
  arr.size = 30 ∧ (∀ i, i < 27 → arr[i]? = some (.pointer none) ∨ ∃ r, arr[i]? = some (.pointer (some ⟨r, 0, none⟩)) ∧ cls r = 99) ∧
    (∃ x, arr[27]? = some (.int .u64 x)) ∧ (∃ x, arr[28]? = some (.int .u64 x)) ∧ ∃ x, arr[29]? = some (.float .f64 x)
def GoodBuck (arr : Array Value) : Prop := arr.size = 18 ∧ ∀ i, i < 18 → ∃ x, arr[i]? = some (.int .u64 x)

/-- What a block of class t holds. -/
def Good (cls : Cls) (t : Nat) (arr : Array Value) : Prop :=
  if t = 84 then ∃ x, arr = #[.int .u64 x]
  else if t = 87 then ∃ x, arr = #[.float .f64 x]
  else if t = 91 then ∃ x, arr = #[.int .u64 x, .nilFunc]
  else if t = 61 then GoodHist cls arr
  else if t = 99 then GoodBuck arr
  else False

def Typed (cls : Cls) (w : World) : Prop := ∀ b, cls b ≠ 0 → ∃ arr, w.heap[b]? = some (.cells arr (cls b) (0, 0)) ∧ Good cls (cls b) arr

def upd (cls : Cls) (b t : Nat) : Cls := fun k => if k = b then t else cls k
theorem upd_same (cls : Cls) (b t : Nat) : upd cls b t b = t := by simp [upd]
theorem upd_other (cls : Cls) (b t k : Nat) (h : k ≠ b) : upd cls b t k = cls k := by simp [upd, h]

theorem Good.ext {cls cls' : Cls} {t : Nat} {arr : Array Value} (h : Good cls t arr) (he : ∀ b, cls b ≠ 0 → cls' b = cls b) : Good cls' t arr := by
  unfold Good at *
  split
  · rename_i h1; rw [if_pos h1] at h; exact h
  · rename_i h1; rw [if_neg h1] at h
    split
    · rename_i h2; rw [if_pos h2] at h; exact h
    · rename_i h2; rw [if_neg h2] at h
      split
      · rename_i h3; rw [if_pos h3] at h; exact h
      · rename_i h3; rw [if_neg h3] at h
        split
        · rename_i h4; rw [if_pos h4] at h
          obtain ⟨a1, a2, a3⟩ := h
          refine ⟨a1, fun i hi => ?_, a3⟩
          rcases a2 i hi with h5 | ⟨r, h5, h6⟩
          · exact .inl h5
          · exact .inr ⟨r, h5, by rw [he r (by omega), h6]⟩
        · rename_i h4; rw [if_neg h4] at h; exact h

theorem Typed.lt {cls : Cls} {w : World} (h : Typed cls w) {b : Nat} (hb : cls b ≠ 0) : b < w.heap.size := by
  obtain ⟨arr, h1, _⟩ := h b hb
  exact lt_of_block h1

/-- How the world goes on: what is not kept track of lies as it lay; what is stays of its class. -/
structure Evol (cls : Cls) (w : World) (cls' : Cls) (w' : World) : Prop where
  os : w'.os = w.os
  tape : w'.tape = w.tape
  output : w'.output = w.output
  size : w.heap.size ≤ w'.heap.size
  keep : ∀ b, b < w.heap.size → cls b = 0 → w'.heap[b]? = w.heap[b]?
  ext : ∀ b, b < w.heap.size → cls' b = cls b
  typed : Typed cls' w'

theorem Evol.refl {cls : Cls} {w : World} (h : Typed cls w) : Evol cls w cls w := ⟨rfl, rfl, rfl, Nat.le_refl _, fun _ _ _ => rfl, fun _ _ => rfl, h⟩

theorem Evol.trans {c1 c2 c3 : Cls} {w1 w2 w3 : World} (h : Evol c1 w1 c2 w2) (k : Evol c2 w2 c3 w3) : Evol c1 w1 c3 w3 :=
  ⟨k.os.trans h.os, k.tape.trans h.tape, k.output.trans h.output, Nat.le_trans h.size k.size,
   fun b hb h0 => (k.keep b (Nat.lt_of_lt_of_le hb h.size) (by rw [h.ext b hb, h0])).trans (h.keep b hb h0),
   fun b hb => (k.ext b (Nat.lt_of_lt_of_le hb h.size)).trans (h.ext b hb), k.typed⟩

theorem Evol.drew {c1 c2 : Cls} {w1 w2 : World} (h : Evol c1 w1 c2 w2) : Evol c1 w1 c2 w2.drew := ⟨h.os, h.tape, h.output, h.size, h.keep, h.ext, h.typed⟩

/-- A new block that is not kept track of. -/
theorem Evol.alloc {c1 c2 : Cls} {w1 w2 : World} (h : Evol c1 w1 c2 w2) (o : Obj) : Evol c1 w1 c2 (w2.alloc o) :=
  h.trans ⟨rfl, rfl, rfl, by simp, fun b hb _ => Below.heap_alloc _ _ _ hb, fun _ _ => rfl, fun b hb => by
    obtain ⟨arr, h1, h2⟩ := h.typed b hb
    exact ⟨arr, (Below.heap_alloc _ _ _ (lt_of_block h1)).trans h1, h2⟩⟩

/-- A new block that is kept track of. -/
theorem Evol.new {c1 c2 : Cls} {w1 w2 : World} (h : Evol c1 w1 c2 w2) (arr : Array Value) (t : Nat) (hg : Good c2 t arr) : Evol c1 w1 (upd c2 w2.heap.size t) (w2.alloc (.cells arr t)) := by
  have hn : ∀ b, c2 b ≠ 0 → upd c2 w2.heap.size t b = c2 b := fun b hb => upd_other _ _ _ _ (by have := h.typed.lt hb; omega)
  refine h.trans ⟨rfl, rfl, rfl, by simp, fun b hb _ => Below.heap_alloc _ _ _ hb, fun b hb => upd_other _ _ _ _ (by omega), fun b hb => ?_⟩
  by_cases hbs : b = w2.heap.size
  · subst hbs
    rw [upd_same]
    exact ⟨arr, heap_alloc_new w2 _, hg.ext hn⟩
  · rw [upd_other _ _ _ _ hbs] at hb ⊢
    obtain ⟨arr', h1, h2⟩ := h.typed b hb
    exact ⟨arr', (Below.heap_alloc _ _ _ (lt_of_block h1)).trans h1, h2.ext hn⟩

theorem heap_setCell_same {w : World} {b : Nat} {arr : Array Value} {t : TypeId} {f : Nat × Nat} (h : w.heap[b]? = some (.cells arr t f)) (o : Nat) (v : Value) :
    (w.setCell ⟨b, o, none⟩ v).heap[b]? = some (.cells (arr.setIfInBounds o v) t f) := by
  have hlt := lt_of_block h
  have h' : w.heap[b] = .cells arr t f := by simpa [Array.getElem?_eq_getElem hlt] using h
  show (w.heap.modify b _)[b]? = _
  rw [Array.getElem?_eq_getElem (by simpa using hlt), Array.getElem_modify_self, h']
  rfl

/-- A store into a block that is kept track of, and stays of its class. -/
theorem Evol.set {c1 c2 : Cls} {w1 w2 : World} (h : Evol c1 w1 c2 w2) (b o : Nat) (v : Value) (hb : c2 b ≠ 0) (hg : ∀ arr, Good c2 (c2 b) arr → Good c2 (c2 b) (arr.setIfInBounds o v)) : Evol c1 w1 c2 (w2.setCell ⟨b, o, none⟩ v) := by
  refine h.trans ⟨rfl, rfl, rfl, by simp, fun k _ hk0 => Below.heap_setCell _ _ _ _ (fun e => hb (by rw [← (show k = b from e)]; exact hk0)), fun _ _ => rfl, fun k hk => ?_⟩
  by_cases e : k = b
  · subst e
    obtain ⟨arr, h1, h2⟩ := h.typed k hk
    exact ⟨_, heap_setCell_same h1 o v, hg arr h2⟩
  · obtain ⟨arr, h1, h2⟩ := h.typed k hk
    exact ⟨arr, (Below.heap_setCell _ _ _ _ e).trans h1, h2⟩

theorem getElem?_set_eq (arr : Array Value) (o : Nat) (v : Value) (i : Nat) : (arr.setIfInBounds o v)[i]? = if o = i then (if o < arr.size then some v else none) else arr[i]? := by
  rw [Array.getElem?_setIfInBounds]

theorem good_counter {cls : Cls} {arr : Array Value} (h : Good cls 84 arr) (x : Int) : Good cls 84 (arr.setIfInBounds 0 (.int .u64 x)) := by
  obtain ⟨y, rfl⟩ : ∃ y, arr = #[.int .u64 y] := by simpa [Good] using h
  simp [Good]
theorem good_float {cls : Cls} {arr : Array Value} (h : Good cls 87 arr) (x : Nat) : Good cls 87 (arr.setIfInBounds 0 (.float .f64 x)) := by
  obtain ⟨y, rfl⟩ : ∃ y, arr = #[.float .f64 y] := by simpa [Good] using h
  simp [Good]
theorem good_gauge {cls : Cls} {arr : Array Value} (h : Good cls 91 arr) (x : Int) : Good cls 91 (arr.setIfInBounds 0 (.int .u64 x)) := by
  obtain ⟨y, rfl⟩ : ∃ y, arr = #[.int .u64 y, .nilFunc] := by simpa [Good] using h
  simp [Good]
theorem good_buck {cls : Cls} {arr : Array Value} (h : Good cls 99 arr) (o : Nat) (x : Int) : Good cls 99 (arr.setIfInBounds o (.int .u64 x)) := by
  have h' : GoodBuck arr := by simpa [Good] using h
  have : GoodBuck (arr.setIfInBounds o (.int .u64 x)) := by
    refine ⟨by simpa using h'.1, fun i hi => ?_⟩
    rw [getElem?_set_eq]
    split
    · exact ⟨x, by rw [if_pos (by have := h'.1; omega)]⟩
    · exact h'.2 i hi
  simpa [Good] using this
theorem good_hist_iff {cls : Cls} {arr : Array Value} : Good cls 61 arr ↔ GoodHist cls arr := by simp [Good]
theorem good_hist_ptr {cls : Cls} {arr : Array Value} (h : Good cls 61 arr) (o r : Nat) (ho : o < 27) (hr : cls r = 99) : Good cls 61 (arr.setIfInBounds o (.pointer (some ⟨r, 0, none⟩))) := by
  rw [good_hist_iff] at h ⊢
  obtain ⟨h1, h2, h3, h4, h5⟩ := h
  refine ⟨by simpa using h1, fun i hi => ?_, ?_, ?_, ?_⟩
  · rw [getElem?_set_eq]
    split
    · exact .inr ⟨r, by rw [if_pos (by omega)], hr⟩
    · exact h2 i hi
  · rw [getElem?_set_eq, if_neg (by omega)]; exact h3
  · rw [getElem?_set_eq, if_neg (by omega)]; exact h4
  · rw [getElem?_set_eq, if_neg (by omega)]; exact h5
theorem good_hist_low {cls : Cls} {arr : Array Value} (h : Good cls 61 arr) (o : Nat) (x : Int) (ho : o = 27 ∨ o = 28) : Good cls 61 (arr.setIfInBounds o (.int .u64 x)) := by
  rw [good_hist_iff] at h ⊢
  obtain ⟨h1, h2, h3, h4, h5⟩ := h
  refine ⟨by simpa using h1, fun i hi => ?_, ?_, ?_, ?_⟩
  · rw [getElem?_set_eq, if_neg (by omega)]; exact h2 i hi
  · rw [getElem?_set_eq]
    split
    · exact ⟨x, by rw [if_pos (by omega)]⟩
    · exact h3
  · rw [getElem?_set_eq]
    split
    · exact ⟨x, by rw [if_pos (by omega)]⟩
    · exact h4
  · rw [getElem?_set_eq, if_neg (by omega)]; exact h5
theorem good_hist_sum {cls : Cls} {arr : Array Value} (h : Good cls 61 arr) (x : Nat) : Good cls 61 (arr.setIfInBounds 29 (.float .f64 x)) := by
  rw [good_hist_iff] at h ⊢
  obtain ⟨h1, h2, h3, h4, h5⟩ := h
  refine ⟨by simpa using h1, fun i hi => ?_, ?_, ?_, ?_⟩
  · rw [getElem?_set_eq, if_neg (by omega)]; exact h2 i hi
  · rw [getElem?_set_eq, if_neg (by omega)]; exact h3
  · rw [getElem?_set_eq, if_neg (by omega)]; exact h4
  · rw [getElem?_set_eq, if_pos rfl, if_pos (by omega)]; exact ⟨x, rfl⟩

/-! ### What the cells of such a block hold -/
theorem cell_at {w : World} {b : Nat} {arr : Array Value} {t : TypeId} {f : Nat × Nat} (h : w.heap[b]? = some (.cells arr t f)) (o : Nat) : w.cell? ⟨b, o, none⟩ = arr[o]? := by simp [World.cell?, h]
theorem free_at {w : World} {b : Nat} {arr : Array Value} {t : TypeId} (h : w.heap[b]? = some (.cells arr t (0, 0))) (o : Nat) : w.frozen? ⟨b, o, none⟩ = false := by simp [World.frozen?, h]

theorem Typed.free {cls : Cls} {w : World} (h : Typed cls w) {b : Nat} (hb : cls b ≠ 0) (o : Nat) : w.frozen? ⟨b, o, none⟩ = false := by
  obtain ⟨arr, h1, _⟩ := h b hb
  exact free_at h1 o
theorem Typed.counter {cls : Cls} {w : World} (h : Typed cls w) {b : Nat} (hb : cls b = 84) : ∃ x, w.cell? ⟨b, 0, none⟩ = some (.int .u64 x) := by
  obtain ⟨arr, h1, h2⟩ := h b (by omega)
  rw [hb] at h2
  obtain ⟨y, rfl⟩ : ∃ y, arr = #[.int .u64 y] := by simpa [Good] using h2
  exact ⟨y, by rw [cell_at h1]; rfl⟩
theorem Typed.float {cls : Cls} {w : World} (h : Typed cls w) {b : Nat} (hb : cls b = 87) : ∃ x, w.cell? ⟨b, 0, none⟩ = some (.float .f64 x) := by
  obtain ⟨arr, h1, h2⟩ := h b (by omega)
  rw [hb] at h2
  obtain ⟨y, rfl⟩ : ∃ y, arr = #[.float .f64 y] := by simpa [Good] using h2
  exact ⟨y, by rw [cell_at h1]; rfl⟩
theorem Typed.gauge {cls : Cls} {w : World} (h : Typed cls w) {b : Nat} (hb : cls b = 91) : ∃ x, w.cell? ⟨b, 0, none⟩ = some (.int .u64 x) ∧ w.cell? ⟨b, 1, none⟩ = some .nilFunc := by
  obtain ⟨arr, h1, h2⟩ := h b (by omega)
  rw [hb] at h2
  obtain ⟨y, rfl⟩ : ∃ y, arr = #[.int .u64 y, .nilFunc] := by simpa [Good] using h2
  exact ⟨y, by rw [cell_at h1]; rfl, by rw [cell_at h1]; rfl⟩
theorem Typed.buck {cls : Cls} {w : World} (h : Typed cls w) {b : Nat} (hb : cls b = 99) (i : Nat) (hi : i < 18) : ∃ x, w.cell? ⟨b, i, none⟩ = some (.int .u64 x) := by
  obtain ⟨arr, h1, h2⟩ := h b (by omega)
  rw [hb] at h2
  have h' : GoodBuck arr := by simpa [Good] using h2
  obtain ⟨x, hx⟩ := h'.2 i hi
  exact ⟨x, by rw [cell_at h1, hx]⟩
theorem Typed.hist {cls : Cls} {w : World} (h : Typed cls w) {b : Nat} (hb : cls b = 61) : ∃ arr, w.heap[b]? = some (.cells arr 61 (0, 0)) ∧ GoodHist cls arr := by
  obtain ⟨arr, h1, h2⟩ := h b (by omega)
  rw [hb] at h1 h2
  exact ⟨arr, h1, good_hist_iff.1 h2⟩

/-! ### The steps, by name -/
section
variable {c1 c2 : Cls} {w1 w2 : World} (h : Evol c1 w1 c2 w2) (b : Nat)
include h
theorem Evol.counter (x : Int) (hb : c2 b = 84) : Evol c1 w1 c2 (w2.setCell ⟨b, 0, none⟩ (.int .u64 x)) := h.set b 0 _ (by omega) (fun arr hg => by rw [hb] at *; exact good_counter hg x)
theorem Evol.float (x : Nat) (hb : c2 b = 87) : Evol c1 w1 c2 (w2.setCell ⟨b, 0, none⟩ (.float .f64 x)) := h.set b 0 _ (by omega) (fun arr hg => by rw [hb] at *; exact good_float hg x)
theorem Evol.gauge (x : Int) (hb : c2 b = 91) : Evol c1 w1 c2 (w2.setCell ⟨b, 0, none⟩ (.int .u64 x)) := h.set b 0 _ (by omega) (fun arr hg => by rw [hb] at *; exact good_gauge hg x)
theorem Evol.buck (o : Nat) (x : Int) (hb : c2 b = 99) : Evol c1 w1 c2 (w2.setCell ⟨b, o, none⟩ (.int .u64 x)) := h.set b o _ (by omega) (fun arr hg => by rw [hb] at *; exact good_buck hg o x)
theorem Evol.ptr (o r : Nat) (ho : o < 27) (hr : c2 r = 99) (hb : c2 b = 61) : Evol c1 w1 c2 (w2.setCell ⟨b, o, none⟩ (.pointer (some ⟨r, 0, none⟩))) := h.set b o _ (by omega) (fun arr hg => by rw [hb] at *; exact good_hist_ptr hg o r ho hr)
theorem Evol.low (o : Nat) (x : Int) (ho : o = 27 ∨ o = 28) (hb : c2 b = 61) : Evol c1 w1 c2 (w2.setCell ⟨b, o, none⟩ (.int .u64 x)) := h.set b o _ (by omega) (fun arr hg => by rw [hb] at *; exact good_hist_low hg o x ho)
theorem Evol.sum (x : Nat) (hb : c2 b = 61) : Evol c1 w1 c2 (w2.setCell ⟨b, 29, none⟩ (.float .f64 x)) := h.set b 29 _ (by omega) (fun arr hg => by rw [hb] at *; exact good_hist_sum hg x)
end

end Go.Proofs.YtaphagdbekmngaaGreatDoor
