/- The specification's own record of steps: what is kept of its map, of its metrics, of their rows. -/
import Derived.Test.YtaphagdbekmngaaGreatDoorNames
import Derived.Deep.AppendLies
namespace Go.Proofs.YtaphagdbekmngaaGreatDoor
open Go.RowKit Go.Maps

/-- One metric of the specification's. -/
def Met (B L : Nat) (own : Nat → Nat) (w : World) (b : Nat) : Prop :=
  ∃ x v len xs, w.heap[b]? = some (.cells #[.int .i64 x, v] 77 (0, 0)) ∧ w.ownsRow B 53 1 v len xs ∧ len ≤ L ∧ ∀ g, v.ownBlock = some g → own g = b

structure PInv (B N L : Nat) (P : Nat → Prop) (own : Nat → Nat) (w : World) (mb : Nat) (D : DataW Unit) (n : Nat) (nms : List (List UInt8)) : Prop where
  high : ∀ b, P b → B ≤ b
  blk : ∀ b, P b → Met B L own w b
  base : B ≤ mb
  map : w.ownsMap Tryz.prog 9 Rp mb n D
  few : n ≤ N
  keys : ∀ l : List UInt8, Maps.has D (.string l) = decide (l ∈ nms)
  ptrs : ∀ l ∈ nms, ∃ b, P b ∧ D.atKey (.string l) .nil = .lit (.int .i64 b)
  nodup : nms.Nodup

section
variable {B N L : Nat} {P : Nat → Prop} {own : Nat → Nat} {w : World} {mb : Nat} {D : DataW Unit} {n : Nat} {nms : List (List UInt8)}

theorem PInv.more (h : PInv B N L P own w mb D n nms) {N' L' : Nat} (hN : N ≤ N') (hL : L ≤ L') : PInv B N' L' P own w mb D n nms :=
  ⟨h.high, fun b hb => by obtain ⟨x, v, len, xs, h1, h2, h3, h4⟩ := h.blk b hb; exact ⟨x, v, len, xs, h1, h2, Nat.le_trans h3 hL, h4⟩, h.base, h.map, Nat.le_trans h.few hN, h.keys, h.ptrs, h.nodup⟩

theorem PInv.lt (h : PInv B N L P own w mb D n nms) : B ≤ w.heap.size := Nat.le_trans h.base (Nat.le_of_lt h.map.lt)

theorem PInv.mapBlock (h : PInv B N L P own w mb D n nms) : ∃ x c, w.heap[mb]? = some (.map x c) := by
  obtain ⟨x, c, hb, _⟩ := h.map
  exact ⟨_, _, hb⟩

theorem PInv.drew (h : PInv B N L P own w mb D n nms) : PInv B N L P own w.drew mb D n nms :=
  ⟨h.high, h.blk, h.base, h.map.drew, h.few, h.keys, h.ptrs, h.nodup⟩

/-- A metric's block and row are kept where others turn. -/
theorem Met.kept {b : Nat} {w' : World} {row : Option Nat} (h : Met B L own w b) (hg : w.grownBy w' row) (hb : some b ≠ row) (hr : ∀ r, row = some r → ∀ arr t, w.heap[r]? = some (.cells arr t (0, 0)) → t = 53 → own r ≠ b) : Met B L own w' b := by
  obtain ⟨x, v, len, xs, h1, h2, h3, h4⟩ := h
  refine ⟨x, v, len, xs, (hg.block b (lt_of_block h1) hb).trans h1, h2.kept hg ?_, h3, h4⟩
  rcases hv : v.ownBlock with _ | g
  · exact .inl rfl
  · refine .inr fun e => ?_
    obtain ⟨arr, ha⟩ := row_block h2 hv
    exact hr g e.symm arr 53 ha rfl (h4 g hv)

theorem grownBy_alloc (w : World) (o : Obj) : w.grownBy (w.alloc o) none := ⟨rfl, rfl, rfl, by simp, fun k hk _ => Below.heap_alloc _ _ _ hk⟩
theorem grownBy_drew (w : World) : w.grownBy w.drew none := ⟨rfl, rfl, rfl, Nat.le_refl _, fun _ _ _ => rfl⟩

theorem PInv.grown (h : PInv B N L P own w mb D n nms) {w' : World} (hg : w.grownBy w' none) : PInv B N L P own w' mb D n nms :=
  ⟨h.high, fun b hb => (h.blk b hb).kept hg (by simp) (by simp), h.base, h.map.kept hg (by simp), h.few, h.keys, h.ptrs, h.nodup⟩

theorem PInv.alloc (h : PInv B N L P own w mb D n nms) (o : Obj) : PInv B N L P own (w.alloc o) mb D n nms := h.grown (grownBy_alloc w o)

/-- Only a block that is none of the record's turns. -/
theorem PInv.turned (h : PInv B N L P own w mb D n nms) {w' : World} (hg : w.grownBy w' (some mb)) {D' : DataW Unit} {n' : Nat} {nms' : List (List UInt8)} (hm : w'.ownsMap Tryz.prog 9 Rp mb n' D')
    (hn : n' ≤ N) (hk : ∀ l : List UInt8, Maps.has D' (.string l) = decide (l ∈ nms')) (hp : ∀ l ∈ nms', ∃ b, P b ∧ D'.atKey (.string l) .nil = .lit (.int .i64 b)) (hd : nms'.Nodup) : PInv B N L P own w' mb D' n' nms' := by
  obtain ⟨mx, mc, hmb⟩ := h.mapBlock
  refine ⟨h.high, fun b hb => (h.blk b hb).kept hg ?_ ?_, h.base, hm, hn, hk, hp, hd⟩
  · intro e
    obtain ⟨x, v, len, xs, h1, _⟩ := h.blk b hb
    rw [Option.some.inj e, hmb] at h1
    cases h1
  · intro r e arr t ha
    rw [← Option.some.inj e, hmb] at ha
    cases ha

/-- The record, its metric taken off. -/
theorem PInv.del (h : PInv B N L P own w mb D n nms) {l : List UInt8} {w' : World} (hg : w.grownBy w' (some mb)) (hm : w'.ownsMap Tryz.prog 9 Rp mb n (D.del (.string l))) : PInv B N L P own w' mb (D.del (.string l)) n (nms.filter (· ≠ l)) := by
  refine h.turned hg hm h.few (fun k => ?_) (fun k hk => ?_) (h.nodup.filter _)
  · by_cases hk : k = l
    · subst hk
      rw [has_del_same]
      simp
    · rw [has_del_other (by simpa using hk), h.keys k]
      simp [hk]
  · simp only [List.mem_filter, decide_eq_true_eq] at hk
    obtain ⟨b, hb, ha⟩ := h.ptrs k hk.1
    exact ⟨b, hb, by rw [Maps.atKey_del_other (by simpa using hk.2)]; exact ha⟩

/-- A new metric. -/
theorem PInv.put (h : PInv B N L P own w mb D n nms) {l : List UInt8} (hl : l ∉ nms) {w' : World}
    (hg : (w.alloc (.cells #[.int .i64 0, .slice none 0 0] 77)).grownBy w' (some mb)) (hm : w'.ownsMap Tryz.prog 9 Rp mb (n + 1) (D.put (.string l) (.lit (.int .i64 (w.heap.size : Nat))))) :
    PInv B (N + 1) L (fun b => P b ∨ b = w.heap.size) own w' mb (D.put (.string l) (.lit (.int .i64 (w.heap.size : Nat)))) (n + 1) (nms ++ [l]) := by
  have hnew := heap_alloc_new w (.cells #[.int .i64 0, .slice none 0 0] 77)
  have h1 : PInv B (N + 1) L (fun b => P b ∨ b = w.heap.size) own (w.alloc (.cells #[.int .i64 0, .slice none 0 0] 77)) mb D n nms := by
    have h0 := (h.more (Nat.le_succ N) (Nat.le_refl L)).alloc (.cells #[.int .i64 0, .slice none 0 0] 77)
    refine ⟨?_, ?_, h0.base, h0.map, h0.few, h0.keys, fun k hk => ?_, h0.nodup⟩
    · rintro b (hb | rfl)
      · exact h.high b hb
      · exact h.lt
    · rintro b (hb | rfl)
      · exact h0.blk b hb
      · exact ⟨0, _, 0, [], hnew, World.ownsRow_nil _ _ _ _, Nat.zero_le _, by simp [Value.ownBlock]⟩
    · obtain ⟨b, hb, ha⟩ := h.ptrs k hk
      exact ⟨b, .inl hb, ha⟩
  refine h1.turned hg hm (by have := h.few; omega) (fun k => ?_) (fun k hk => ?_) ?_
  · by_cases hk : k = l
    · subst hk
      rw [has_put_same h.map.isMap (by simp [WideAt.IsKeyLit])]
      simp
    · rw [has_put_other (by simpa using hk), h.keys k]
      simp [hk]
  · rcases List.mem_append.1 hk with hk | hk
    · have hne : k ≠ l := fun e => hl (e ▸ hk)
      obtain ⟨b, hb, ha⟩ := h.ptrs k hk
      exact ⟨b, .inl hb, by rw [atKey_put_other (by simpa using hne)]; exact ha⟩
    · obtain rfl : k = l := by simpa using hk
      exact ⟨_, .inr rfl, atKey_put_same h.map.isMap (by simp [WideAt.IsKeyLit]) _ _⟩
  · rw [List.nodup_append]
    refine ⟨h.nodup, by simp, ?_⟩
    intro a ha b hb
    simp at hb
    rintro rfl
    exact hl (hb ▸ ha)

/-- A metric's number is set. -/
theorem PInv.value (h : PInv B N L P own w mb D n nms) {b : Nat} (hb : P b) (x : Int) : PInv B N L P own (w.setCell ⟨b, 0, none⟩ (.int .i64 x)) mb D n nms := by
  obtain ⟨mx, mc, hmb⟩ := h.mapBlock
  obtain ⟨x0, v0, len0, xs0, b1, b2, b3, b4⟩ := h.blk b hb
  have hbm : b ≠ mb := by rintro rfl; rw [hmb] at b1; cases b1
  refine ⟨h.high, fun c hc => ?_, h.base, h.map.setCell (by simpa using fun e => hbm e.symm) _, h.few, h.keys, h.ptrs, h.nodup⟩
  obtain ⟨x1, v1, len1, xs1, c1, c2, c3, c4⟩ := h.blk c hc
  have hrow : ∀ v len xs, w.ownsRow B 53 1 v len xs → (w.setCell ⟨b, 0, none⟩ (.int .i64 x)).ownsRow B 53 1 v len xs := fun v len xs ho => by
    refine ownsRow_setCell_other ho ?_ _
    intro e
    obtain ⟨arr, ha⟩ := row_block ho e
    rw [b1] at ha
    simp at ha
  by_cases hcb : c = b
  · subst hcb
    exact ⟨x, v0, len0, xs0, by rw [heap_setCell_same b1]; rfl, hrow _ _ _ b2, b3, b4⟩
  · exact ⟨x1, v1, len1, xs1, (Below.heap_setCell _ _ _ _ hcb).trans c1, hrow _ _ _ c2, c3, c4⟩

/-- A metric's row has grown, and its slice is set. -/
theorem PInv.app (h : PInv B N L P own w mb D n nms) {b : Nat} (hb : P b) {x : Int} {v : Value} {len : Nat} (b1 : w.heap[b]? = some (.cells #[.int .i64 x, v] 77 (0, 0))) (b3 : len ≤ L) (b4 : ∀ g, v.ownBlock = some g → own g = b)
    {w1 : World} (hg : w.grownBy w1 v.ownBlock) {g cap m : Nat} {ys xs0 : List Value} (b2 : w.ownsRow B 53 1 v len xs0) (ho : w1.ownsRow B 53 1 (.slice (some ⟨g, 0, none⟩) (len + m) cap) (len + m) ys) (hat : v.ownBlock = some g ∨ g = w.heap.size) (hm : m ≤ 2) :
    PInv B N (L + 2) P (fun k => if k = g then b else own k) (w1.setCell ⟨b, 1, none⟩ (.slice (some ⟨g, 0, none⟩) (len + m) cap)) mb D n nms := by
  obtain ⟨mx, mc, hmb⟩ := h.mapBlock
  have hbm : b ≠ mb := by rintro rfl; rw [hmb] at b1; cases b1
  have hbr : some b ≠ v.ownBlock := by
    intro e
    obtain ⟨arr, ha⟩ := row_block b2 e.symm
    rw [b1] at ha
    simp at ha
  have hmr : some mb ≠ v.ownBlock := by
    intro e
    obtain ⟨arr, ha⟩ := row_block b2 e.symm
    rw [hmb] at ha
    cases ha
  have b1' : w1.heap[b]? = _ := (hg.block b (lt_of_block b1) hbr).trans b1
  have hrow : ∀ u l zs, w1.ownsRow B 53 1 u l zs → (w1.setCell ⟨b, 1, none⟩ (.slice (some ⟨g, 0, none⟩) (len + m) cap)).ownsRow B 53 1 u l zs := fun u l zs hu => by
    refine ownsRow_setCell_other hu ?_ _
    intro e
    obtain ⟨arr, ha⟩ := row_block hu e
    rw [b1'] at ha
    simp at ha
  refine ⟨h.high, fun c hc => ?_, h.base, (h.map.kept hg hmr).setCell (by simpa using fun e => hbm e.symm) _, h.few, h.keys, h.ptrs, h.nodup⟩
  obtain ⟨x1, v1, len1, xs1, c1, c2, c3, c4⟩ := h.blk c hc
  by_cases hcb : c = b
  · subst hcb
    refine ⟨x, _, len + m, ys, by rw [heap_setCell_same b1']; rfl, hrow _ _ _ ho, by omega, fun g' e => ?_⟩
    obtain rfl : g = g' := by simpa [Value.ownBlock] using e
    simp
  · have hcr : some c ≠ v.ownBlock := by
      intro e
      obtain ⟨arr, ha⟩ := row_block b2 e.symm
      rw [c1] at ha
      simp at ha
    refine ⟨x1, v1, len1, xs1, (Below.heap_setCell _ _ _ _ hcb).trans ((hg.block c (lt_of_block c1) hcr).trans c1), hrow _ _ _ (c2.kept hg ?_), by omega, fun g' e => ?_⟩
    · rcases hv : v1.ownBlock with _ | g1
      · exact .inl rfl
      · refine .inr fun e => hcb ?_
        rw [← c4 g1 hv, b4 g1 e.symm]
    · show (if g' = g then b else own g') = c
      rw [if_neg, c4 g' e]
      rintro rfl
      rcases hat with hat | hat
      · exact hcb (by rw [← c4 _ e, b4 _ hat])
      · have := (c2.lt _ e).2
        omega
end
end Go.Proofs.YtaphagdbekmngaaGreatDoor
