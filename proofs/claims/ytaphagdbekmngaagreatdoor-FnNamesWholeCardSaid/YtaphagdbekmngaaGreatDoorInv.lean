/- What holds of a set of metrics in memory between two steps, and how it is kept. -/
import Derived.Test.YtaphagdbekmngaaGreatDoorProg
import Derived.Test.YtaphagdbekmngaaGreatDoorHeap
import Derived.Maps.Own
import Derived.Maps.OwnOps
import Derived.Maps.OwnSet
import Derived.Maps.Views
import Derived.Maps.AppendAt
import Derived.Sort.KeysCollected
namespace Go.Proofs.YtaphagdbekmngaaGreatDoor
open Go.RowKit Go.Maps
open Go.WideMaps (keyOf_string_mk)

/-- How a pointer, the element of a map, reads: nil, or the number of the block that it leads to. -/
def Rp (v : Value) : Option (DataW Unit × List MemPlace) :=
  match v with
  | .pointer none => some (.nil, [])
  | .pointer (some ⟨b, 0, none⟩) => some (.lit (.int .i64 b), [])
  | _ => none

abbrev ptrTo (b : Nat) : Value := .pointer (some ⟨b, 0, none⟩)

theorem Rp_ptr (b : Nat) : Rp (ptrTo b) = some (.lit (.int .i64 b), []) := rfl
theorem Rp_nil_inv {v : Value} {ps : List MemPlace} (h : Rp v = some (.nil, ps)) : v = .pointer none := by
  unfold Rp at h
  split at h
  · rfl
  · cases h
  · cases h
theorem Rp_lit_inv {v : Value} {b : Nat} {ps : List MemPlace} (h : Rp v = some (.lit (.int .i64 b), ps)) : v = ptrTo b := by
  unfold Rp at h
  split at h
  · cases h
  · simp at h
    obtain ⟨h1, _⟩ := h
    rw [show _ = b from Int.ofNat.inj h1]
  · cases h

theorem info69 : (Tryz.prog.info? 69).map (fun i => (i.zero, i.size, i.bytes)) = some (some (.pointer none), 1, 8) := by kernel_rfl
theorem law9 : Keyed Tryz.prog 9 := string_keyed Tryz.underlying9
theorem zero69 (w : World) : (zeroValue 69).run Tryz.prog w = .ok (.pointer none) w := by kernel_rfl
theorem zero41 (w : World) : (zeroValue 41).run Tryz.prog w = .ok (.pointer none) w := by kernel_rfl
theorem key_of (l : List UInt8) (h : l.length ≤ maxLen) : keyOf Tryz.prog 9 (.string ⟨l.toArray⟩) = some (.string l) := by
  have := keyOf_string_mk (s := ⟨l.toArray⟩) Tryz.underlying9 (show l.toArray.size ≤ maxLen by simpa using h)
  simpa using this

/-- A metric that is there: its name, the block of the named metric, the type of the pointer to the metric, the metric's block. -/
structure Ent where
  name : List UInt8
  nb : Nat
  mt : Nat
  mb : Nat

def mtOf : List UInt8 → Nat
  | 99 :: _ => 45
  | 102 :: _ => 50
  | 103 :: _ => 54
  | _ => 56
def clsOf (mt : Nat) : Nat := if mt = 45 then 84 else if mt = 50 then 87 else if mt = 54 then 91 else 61

abbrev names (es : List Ent) : List (List UInt8) := es.map (·.name)

/-- The map knows just these metrics. -/
def Knows (D : DataW Unit) (es : List Ent) : Prop := (∀ k : List UInt8, Maps.has D (.string k) = decide (k ∈ names es)) ∧ ∀ e ∈ es, D.atKey (.string e.name) .nil = .lit (.int .i64 e.nb)

theorem Knows.empty : Knows (.map []) [] := ⟨fun k => by simp [Maps.has_eq], fun e he => by cases he⟩

theorem Knows.put {D : DataW Unit} {es : List Ent} (h : Knows D es) (hD : IsMap D) (e : Ent) (he : e.name ∉ names es) : Knows (D.put (.string e.name) (.lit (.int .i64 e.nb))) (es ++ [e]) := by
  refine ⟨fun k => ?_, fun x hx => ?_⟩
  · by_cases hk : k = e.name
    · subst hk
      rw [has_put_same hD (by simp [WideAt.IsKeyLit])]
      simp [names]
    · rw [has_put_other (by simpa using hk), h.1 k]
      simp [names, hk]
  · rcases List.mem_append.1 hx with hx | hx
    · have hne : x.name ≠ e.name := fun e1 => he (e1 ▸ List.mem_map_of_mem hx)
      rw [atKey_put_other (by simpa using hne)]
      exact h.2 x hx
    · obtain rfl : x = e := by simpa using hx
      exact atKey_put_same hD (by simp [WideAt.IsKeyLit]) _ _

theorem Knows.del {D : DataW Unit} {es : List Ent} (h : Knows D es) (nm : List UInt8) : Knows (D.del (.string nm)) (es.filter (fun e => e.name ≠ nm)) := by
  refine ⟨fun k => ?_, fun x hx => ?_⟩
  · by_cases hk : k = nm
    · subst hk
      rw [has_del_same]
      simp [names]
    · rw [has_del_other (by simpa using hk), h.1 k]
      congr 1
      simp only [names, List.mem_map, List.mem_filter, eq_iff_iff]
      constructor
      · rintro ⟨a, ha, rfl⟩; exact ⟨a, ⟨ha, by simpa using hk⟩, rfl⟩
      · rintro ⟨a, ⟨ha, _⟩, rfl⟩; exact ⟨a, ha, rfl⟩
  · obtain ⟨hx, hne⟩ := List.mem_filter.1 hx
    rw [atKey_del_other (by simpa using hne)]
    exact h.2 x hx

theorem Knows.none {D : DataW Unit} {es : List Ent} (h : Knows D es) {nm : List UInt8} (hn : nm ∉ names es) : Maps.has D (.string nm) = false ∧ D.atKey (.string nm) .nil = .nil := by
  have h1 : Maps.has D (.string nm) = false := by rw [h.1 nm]; simp [hn]
  exact ⟨h1, atKey_of_not_has h1 _⟩

/-- The block of a named metric, and the class of the metric behind it. -/
def EntAt (cls : Cls) (w : World) (e : Ent) : Prop :=
  w.heap[e.nb]? = some (.cells #[.string ⟨e.name.toArray⟩, .iface e.mt (ptrTo e.mb), .bool false] 73 (0, 0)) ∧ cls e.mb = clsOf e.mt ∧ e.mt = mtOf e.name ∧ e.name.length ≤ 100

/-- THE SET between two steps: B: the blocks below it are not the set's; N: how many steps there have been. -/
structure Inv (B N : Nat) (cls : Cls) (w : World) (sb : Nat) (es : List Ent) (av : Value) (mb : Nat) (D : DataW Unit) (n : Nat) : Prop where
  typed : Typed cls w
  high : ∀ b, cls b ≠ 0 → B ≤ b
  base : B ≤ sb ∧ B ≤ mb
  body : w.heap[sb]? = some (.cells #[av, .map (some mb), .bool false, .slice none 0 0] 68 (0, 0))
  row : w.ownsRow B 69 1 av es.length (es.map fun e => ptrTo e.nb)
  map : w.ownsMap Tryz.prog 9 Rp mb n D
  knows : Knows D es
  few : n ≤ N ∧ es.length ≤ N
  ents : ∀ e ∈ es, EntAt cls w e
  nodup : (names es).Nodup

/-- What lies in blocks of steps stays. -/
def Keeps31 (w w' : World) : Prop := ∀ (b : Nat) (arr : Array Value) (m : Nat × Nat), w.heap[b]? = some (.cells arr 31 m) → w'.heap[b]? = w.heap[b]?
theorem Keeps31.refl (w : World) : Keeps31 w w := fun _ _ _ _ => rfl
theorem Keeps31.trans {a b c : World} (h : Keeps31 a b) (k : Keeps31 b c) : Keeps31 a c := fun i arr m hi => (k i arr m ((h i arr m hi).trans hi)).trans (h i arr m hi)

theorem Typed.tag {cls : Cls} {w : World} (h : Typed cls w) {b : Nat} {arr : Array Value} {t : TypeId} {m : Nat × Nat} (hb : w.heap[b]? = some (.cells arr t m)) (ht : t ≠ 84 ∧ t ≠ 87 ∧ t ≠ 91 ∧ t ≠ 61 ∧ t ≠ 99) : cls b = 0 := by
  by_cases hc : cls b = 0
  · exact hc
  · obtain ⟨arr', h1, h2⟩ := h b hc
    rw [hb] at h1
    simp only [Option.some.injEq, Obj.cells.injEq] at h1
    obtain ⟨_, e, _⟩ := h1
    unfold Good at h2
    rw [← e] at h2
    simp [ht.1, ht.2.1, ht.2.2.1, ht.2.2.2.1, ht.2.2.2.2] at h2
theorem Typed.tagMap {cls : Cls} {w : World} (h : Typed cls w) {b : Nat} {x : Array MapEntry} {c : Nat} (hb : w.heap[b]? = some (.map x c)) : cls b = 0 := by
  by_cases hc : cls b = 0
  · exact hc
  · obtain ⟨arr', h1, h2⟩ := h b hc
    rw [hb] at h1
    cases h1

/-- A step that leaves the blocks of metrics as they lie. -/
theorem Typed.grown {cls : Cls} {w w' : World} {row : Option Nat} (h : Typed cls w) (hg : w.grownBy w' row) (hr : ∀ r, row = some r → cls r = 0) : Typed cls w' := by
  intro b hb
  obtain ⟨arr, h1, h2⟩ := h b hb
  exact ⟨arr, (hg.block b (lt_of_block h1) (fun e => hb (hr b e.symm))).trans h1, h2⟩

theorem Evol.keeps31 {cls cls' : Cls} {w w' : World} (h : Evol cls w cls' w') (hT : Typed cls w) : Keeps31 w w' := fun b arr m hb => h.keep b (lt_of_block hb) (hT.tag hb (by decide))
theorem Evol.below {B : Nat} {cls cls' : Cls} {w w' : World} (h : Evol cls w cls' w') (hT : ∀ b, cls b ≠ 0 → B ≤ b) (hB : B ≤ w.heap.size) : Below B w w' :=
  ⟨h.os, h.tape, h.output, h.size, fun k hk => h.keep k (by omega) (by
    by_cases hc : cls k = 0
    · exact hc
    · exact absurd (hT k hc) (by omega))⟩
theorem Keeps31.grown {w w' : World} {row : Option Nat} (hg : w.grownBy w' row) (hr : ∀ (r : Nat) (arr : Array Value) (m : Nat × Nat), row = some r → w.heap[r]? ≠ some (.cells arr 31 m)) : Keeps31 w w' := fun b arr m hb =>
  hg.block b (lt_of_block hb) (fun e => hr b arr m e.symm hb)

section
variable {B N : Nat} {cls : Cls} {w : World} {sb : Nat} {es : List Ent} {av : Value} {mb : Nat} {D : DataW Unit} {n : Nat}

theorem Inv.more (h : Inv B N cls w sb es av mb D n) : Inv B (N + 1) cls w sb es av mb D n := ⟨h.typed, h.high, h.base, h.body, h.row, h.map, h.knows, ⟨by have := h.few; omega, by have := h.few; omega⟩, h.ents, h.nodup⟩

theorem Inv.lt (h : Inv B N cls w sb es av mb D n) : B ≤ w.heap.size := Nat.le_trans h.base.1 (Nat.le_of_lt (lt_of_block h.body))

theorem row_block {w : World} {base : Nat} {e : TypeId} {size : Nat} {v : Value} {n : Nat} {xs : List Value} (h : w.ownsRow base e size v n xs) {r : Nat} (hr : v.ownBlock = some r) : ∃ arr, w.heap[r]? = some (.cells arr e (0, 0)) := by
  rcases h.2 with ⟨rfl, _⟩ | ⟨g, cap, cur, rfl, _, hg, _⟩
  · cases hr
  · obtain rfl : g = r := by simpa [Value.ownBlock] using hr
    exact ⟨cur, hg⟩

theorem Inv.cls0 (h : Inv B N cls w sb es av mb D n) : cls sb = 0 ∧ cls mb = 0 ∧ (∀ r, av.ownBlock = some r → cls r = 0) ∧ ∀ e ∈ es, cls e.nb = 0 := by
  refine ⟨h.typed.tag h.body (by decide), ?_, fun r hr => ?_, fun e he => h.typed.tag (h.ents e he).1 (by decide)⟩
  · obtain ⟨x, c, hb, _⟩ := h.map
    exact h.typed.tagMap hb
  · obtain ⟨arr, ha⟩ := row_block h.row hr
    exact h.typed.tag ha (by decide)

/-- The set's own blocks are apart. -/
theorem Inv.apart (h : Inv B N cls w sb es av mb D n) : sb ≠ mb ∧ (∀ r, av.ownBlock = some r → r ≠ sb ∧ r ≠ mb) ∧ ∀ e ∈ es, e.nb ≠ sb ∧ e.nb ≠ mb ∧ ∀ r, av.ownBlock = some r → e.nb ≠ r := by
  obtain ⟨x, c, hb, _⟩ := h.map
  have hbody := h.body
  have hsm : sb ≠ mb := by
    rintro rfl
    rw [hbody] at hb
    cases hb
  have hrow : ∀ r, av.ownBlock = some r → r ≠ sb ∧ r ≠ mb := by
    intro r hr
    obtain ⟨arr, ha⟩ := row_block h.row hr
    constructor
    · rintro rfl
      rw [hbody] at ha
      simp at ha
    · rintro rfl
      rw [hb] at ha
      cases ha
  refine ⟨hsm, hrow, fun e he => ?_⟩
  have hn := (h.ents e he).1
  refine ⟨?_, ?_, fun r hr => ?_⟩
  · intro e1
    rw [e1, hbody] at hn
    simp at hn
  · intro e1
    rw [e1, hb] at hn
    cases hn
  · obtain ⟨arr, ha⟩ := row_block h.row hr
    intro e1
    rw [e1, ha] at hn
    simp at hn

/-- A metric has been updated. -/
theorem Inv.evol (h : Inv B N cls w sb es av mb D n) {cls' : Cls} {w' : World} (k : Evol cls w cls' w') : Inv B N cls' w' sb es av mb D n := by
  obtain ⟨c1, c2, c3, c4⟩ := h.cls0
  have hg : ∀ b, b < w.heap.size → cls b = 0 → w'.heap[b]? = w.heap[b]? := k.keep
  refine ⟨k.typed, fun b hb => ?_, h.base, ?_, ?_, ?_, h.knows, h.few, fun e he => ?_, h.nodup⟩
  · rcases Nat.lt_or_ge b w.heap.size with hlt | hge
    · rw [k.ext b hlt] at hb
      exact h.high b hb
    · exact Nat.le_trans h.lt hge
  · rw [hg sb (lt_of_block h.body) c1]; exact h.body
  · refine ⟨h.row.1, ?_⟩
    rcases h.row.2 with hn | ⟨g, cap, cur, hv, hb, hgg, rest⟩
    · exact .inl hn
    · exact .inr ⟨g, cap, cur, hv, hb, by rw [hg g (lt_of_block hgg) (c3 g (by rw [hv]; rfl))]; exact hgg, rest⟩
  · obtain ⟨x, c, hb, rest⟩ := h.map
    exact ⟨x, c, by rw [hg mb (lt_of_block hb) c2]; exact hb, rest⟩
  · obtain ⟨e1, e2, e3⟩ := h.ents e he
    have hne : cls e.mb ≠ 0 := by rw [e2]; unfold clsOf; split <;> (try split) <;> (try split) <;> decide
    exact ⟨by rw [hg e.nb (lt_of_block e1) (c4 e he)]; exact e1, by rw [k.ext e.mb (h.typed.lt hne)]; exact e2, e3⟩
end
end Go.Proofs.YtaphagdbekmngaaGreatDoor
