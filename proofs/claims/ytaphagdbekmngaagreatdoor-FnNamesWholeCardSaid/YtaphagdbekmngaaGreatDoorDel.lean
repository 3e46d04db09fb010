/- Taking a metric off the list: walked. -/
import Derived.Test.YtaphagdbekmngaaGreatDoorInv
import Derived.Deep.RegionLaw
import Derived.Deep.AppendLies
import Derived.WalkKit
import Derived.WalkSpells
import Derived.WalkLawsBesides
import Derived.Lib.Hide
namespace Go.Proofs.YtaphagdbekmngaaGreatDoor
open Go.RowKit Go.Maps

/-- append within a known row, as one step of a region that draws: the row behind it. -/
theorem step_append_row {P : Program} {ops : Array Oper} {o : Oper} {a : Act} {w : World} {K : Act → World → Prop} {Q : Exit → Act → World → Prop} {E : Prop}
    (hg : o.guard = none) (s x : Operand) (t : TypeId) (hop : o.op = Op.call { callee := Callee.builtin Builtin.append, args := #[s, x], argTypes := #[t, t] })
    (e : TypeId) (i : TypeInfo) (h1 : P.underlying t = some (.slice e)) (h2 : P.info? e = some i) (h4 : i.size = 1)
    (g n cap : Nat) (cur : Array Value) (hgg : w.heap[g]? = some (.cells cur e (0, 0))) (hs : a.eval s = .slice (some ⟨g, 0, none⟩) n cap)
    (ad : Addr) (m c : Nat) (news : List Value) (hx : a.eval x = .slice (some ad) m c) (hn : news.length = m) (hc : ∀ j u, news[j]? = some u → w.cell? (ad.add j) = some u) (h1c : ∀ u ∈ news, u.oneCell' = true)
    (hroom : n + m ≤ cap) (hfit : n + m ≤ cur.size)
    (hK : ∀ w', w.grownBy w' (some g) → w'.heap.size = w.heap.size → w'.heap[g]? = some (.cells (cur.toList.take n ++ news ++ cur.toList.drop (n + m)).toArray e (0, 0)) → K (a.put o.dst (.slice (some ⟨g, 0, none⟩) (n + m) cap)) w') :
    if Region.wanted o (yielded ops a.tmps) = true then Oper.wp P o a w K Q else E := by
  have hw : Region.wanted o (yielded ops a.tmps) = true := by simp [Region.wanted, hg]
  rw [if_pos hw]
  have hrun := run_append_room (P := P) w t o.type e i h1 h2 g n cap cur hgg ad m c news (by rw [h4, hn]; omega) hc h1c hroom (by rw [h4, hn]; omega)
  rw [h4, Nat.mul_one, hn] at hrun
  have hK' := hK (w.setRow g (cur.toList.take n ++ news ++ cur.toList.drop (n + m)).toArray) ⟨rfl, rfl, rfl, by simp, fun k _ hk => setRow_other w g k _ (fun e => hk (by rw [e]))⟩ (by simp) (setRow_heap w g cur _ e _ hgg)
  unfold Oper.wp
  simp only [execOp, hop, resolve, invoke, builtin, Sem.run_bind, Sem.run_pure, Result.andThen_ok, List.map_toArray, List.map_cons, List.map_nil, hs, hx, hrun]
  exact hK'

/-- What taking the i-th off the list leaves. -/
def Deleted (w : World) (sb g cap len i : Nat) (xs : List Value) (mv : Value) (e : Ending) (w' : World) : Prop :=
  e = .returned (.tuple #[]) ∧ (∃ cur', w'.heap[g]? = some (.cells cur' 69 (0, 0)) ∧ cur'.size = cap ∧ cur'.toList.take (len - 1) = xs.eraseIdx i) ∧
    w'.heap[sb]? = some (.cells #[.slice (some ⟨g, 0, none⟩) (len - 1) cap, mv, .bool false, .slice none 0 0] 68 (0, 0)) ∧ (∀ b, b ≠ g → b ≠ sb → w'.heap[b]? = w.heap[b]?) ∧
    w'.os = w.os ∧ w'.tape = w.tape ∧ w'.output = w.output ∧ w'.heap.size = w.heap.size

theorem deleted_of {w w3 : World} {sb g cap i : Nat} {cur : Array Value} {es : List Ent} {mv : Value} (hbody : w.heap[sb]? = some (.cells #[.slice (some ⟨g, 0, none⟩) es.length cap, mv, .bool false, .slice none 0 0] 68 (0, 0)))
    (hcs : cur.size = cap) (hlc : es.length ≤ cap) (htake : cur.toList.take es.length = es.map fun e => ptrTo e.nb) (hsg : sb ≠ g) (hi : i < es.length)
    (hg : w.drew.grownBy w3 (some g)) (hs : w3.heap.size = w.heap.size)
    (hr : w3.heap[g]? = some (.cells (cur.toList.take i ++ (es.drop (i + 1)).map (fun e => ptrTo e.nb) ++ cur.toList.drop (i + (es.length - (i + 1)))).toArray 69 (0, 0))) (e : Ending) (he : e = .returned (.tuple #[])) :
    Deleted w sb g cap es.length i (es.map fun e => ptrTo e.nb) mv e (w3.setCell ⟨sb, 0, none⟩ (.slice (some ⟨g, 0, none⟩) (i + (es.length - (i + 1))) cap)) := by
  have hlen : i + (es.length - (i + 1)) = es.length - 1 := by omega
  have hti : cur.toList.take i = (es.map fun e => ptrTo e.nb).take i := by rw [← htake, List.take_take]; congr 1; omega
  have h3 : ∀ b, b ≠ g → w3.heap[b]? = w.heap[b]? := fun b hb => by
    rcases Nat.lt_or_ge b w.heap.size with hlt | hge
    · exact hg.block b hlt (by simpa using hb)
    · rw [Array.getElem?_eq_none (by omega), Array.getElem?_eq_none hge]
  refine ⟨he, ⟨_, (Below.heap_setCell _ _ _ _ (fun e => hsg e.symm)).trans hr, ?_, ?_⟩, ?_, fun b h1 h2 => (Below.heap_setCell _ _ _ _ h2).trans (h3 b h1), hg.os, hg.tape, hg.output, by simpa using hs⟩
  · simp
    omega
  · rw [hti, List.eraseIdx_eq_take_drop_succ]
    simp only [List.map_drop]
    rw [List.take_append_of_le_length (by simp; omega), List.take_of_length_le (by simp; omega)]
  · rw [heap_setCell_same ((h3 sb hsg).trans hbody), hlen]
    rfl

set_option maxHeartbeats 1000000 in
set_option maxRecDepth 100000 in
theorem del_any (w : World) (bx sb g cap i : Nat) (cur : Array Value) (es : List Ent) (l : List UInt8) (mv : Value)
    (hbx : w.heap[bx]? = some (.cells #[ptrTo sb] 33 (0, 0))) (hbody : w.heap[sb]? = some (.cells #[.slice (some ⟨g, 0, none⟩) es.length cap, mv, .bool false, .slice none 0 0] 68 (0, 0)))
    (hrow : w.heap[g]? = some (.cells cur 69 (0, 0))) (hcs : cur.size = cap) (hlc : es.length ≤ cap) (hcm : cap ≤ maxLen) (hl1 : es.length ≤ 1000) (htake : cur.toList.take es.length = es.map fun e => ptrTo e.nb)
    (hents : ∀ e ∈ es, w.cell? ⟨e.nb, 0, none⟩ = some (.string ⟨e.name.toArray⟩))
    (hi : i < es.length) (hil : es[i].name = l) (hbefore : ∀ j (h : j < i), (es[j]'(by omega)).name ≠ l) :
    Calls Tryz.prog 57 #[.string ⟨l.toArray⟩, ptrTo bx] w (Deleted w sb g cap es.length i (es.map fun e => ptrTo e.nb) mv) := by
  have cbx : w.cell? ⟨bx, 0, none⟩ = some (ptrTo sb) := by rw [cell_at hbx]; rfl
  have c0 : w.cell? ⟨sb, 0, none⟩ = some (.slice (some ⟨g, 0, none⟩) es.length cap) := by rw [cell_at hbody]; rfl
  have f0 := free_at hbody 0
  have hcell : ∀ j (h : j < es.length), w.cell? ⟨g, j, none⟩ = some (ptrTo es[j].nb) := by
    intro j h
    rw [cell_at hrow]
    have e1 : (cur.toList.take es.length)[j]? = some (ptrTo es[j].nb) := by rw [htake]; simp [h]
    rw [List.getElem?_take_of_lt h] at e1
    simpa using e1
  have HC := Lib.hid hcell
  have HE := Lib.hid hents
  have HB := Lib.hid hbefore
  have HX := Lib.hid hil
  unfold maxLen at hcm
  have hsg : sb ≠ g := by
    rintro rfl
    rw [hbody] at hrow
    simp at hrow
  have P := Lib.hid (fun w3 => deleted_of (w3 := w3) hbody hcs hlc htake hsg hi)
  have HBD := Lib.hid hbody
  have HSG := Lib.hid hsg
  have hbg : bx ≠ g := by
    rintro rfl
    rw [hbx] at hrow
    simp at hrow
  have HBG := Lib.hid hbg
  have HBX := Lib.hid hbx
  clear hcell hents hbefore hil htake hbx hbody hsg hbg
  go_enter Tryz.func57, Tryz.ntmps57
  go_wp2
  go_loop [10] (fun k => ∃ j : Nat, j ≤ i ∧ k = .int .i64 j) (fun k => i - (intOf k).toNat)
  case atStart => exact ⟨0, Nat.zero_le _, rfl⟩
  case round =>
    obtain ⟨j, hj, rfl⟩ := hrel
    have hjl : j < es.length := by omega
    have cj := HC.out j hjl
    have nj := HE.out es[j] (List.getElem_mem hjl)
    by_cases hji : j < i
    · have hne : (es[j].name == l) = false := beq_eq_false_iff_ne.2 (HB.out j hji)
      go_wp2
      go_round
      case rel => exact ⟨j + 1, by omega, by go_num⟩
      case measure => simp [intOf]; omega
    · obtain rfl : j = i := by omega
      have heq : (es[j].name == l) = true := beq_iff_eq.2 HX.out
      go_wp2
      obtain ⟨i0, hi0, hz0, hz1, hz2⟩ := info_parts info69
      obtain ⟨A, hA, hnews⟩ : ∃ A : Addr, (if cap = j + 1 then some (⟨g, 0, none⟩ : Addr) else some ⟨g, j + 1, none⟩) = some A ∧ Hid (∀ k u, ((es.drop (j + 1)).map fun e => ptrTo e.nb)[k]? = some u → w.drew.cell? (A.add k) = some u) := by
        by_cases h : cap = j + 1
        · refine ⟨⟨g, 0, none⟩, by simp [h], fun k u hu => ?_⟩
          rw [List.drop_of_length_le (by omega)] at hu
          simp at hu
        · refine ⟨⟨g, j + 1, none⟩, by simp [h], fun k u hu => ?_⟩
          have hk : k < es.length - (j + 1) := by
            have := (List.getElem?_eq_some_iff.1 hu).1
            simpa using this
          rw [Addr.add_lit]
          have := HC.out (j + 1 + k) (by omega)
          rw [List.getElem?_map, List.getElem?_drop, List.getElem?_eq_getElem (show j + 1 + k < es.length by omega), Option.map_some] at hu
          rw [← hu]
          exact this
      have s1 : Hid (((es.drop (j + 1)).map fun e => ptrTo e.nb).length = es.length - (j + 1)) := Lib.hid (by simp)
      have s2 : Hid (∀ u ∈ (es.drop (j + 1)).map (fun e => ptrTo e.nb), u.oneCell' = true) := Lib.hid (by
        intro u hu
        obtain ⟨x, _, rfl⟩ := List.mem_map.1 hu
        rfl)
      have hic : j ≤ cap := by omega
      have hwr : IntKind.i64.wrap ((j : Int) + 1) = (j : Int) + 1 := by rw [IntKind.wrap_i64]; omega
      have hp0 : (0 : Int) ≤ (j : Int) + 1 := by omega
      have hp1 : (j : Int) + 1 ≤ (es.length : Int) := by omega
      have hp2 : ((j : Int) + 1).toNat = j + 1 := by omega
      have HR := Lib.hid hrow
      go_region_law (refine step_append_row rfl (.tmp 27) (.tmp 34) 64 rfl 69 i0 Tryz.underlying64 hi0 hz1 g j cap cur HR.out (by simp [Act.eval, Act.put]) A (es.length - (j + 1)) (cap - (j + 1)) _ (by simp [Act.eval, Act.put]) s1.out hnews.out s2.out (by omega) (by omega) ?_; intro w3 hg3 hs3 hr3; have c3 : w3.cell? ⟨sb, 0, none⟩ = some (.slice (some ⟨g, 0, none⟩) es.length cap) := (by rw [World.cell?_of_block (w := w) (hg3.block sb (lt_of_block HBD.out) (by simpa using HSG.out)), cell_at HBD.out]; rfl); have f3 : w3.frozen? ⟨sb, 0, none⟩ = false := (by rw [World.frozen?_of_block (w := w) (hg3.block sb (lt_of_block HBD.out) (by simpa using HSG.out))]; exact free_at HBD.out 0); have b3 : w3.cell? ⟨bx, 0, none⟩ = some (ptrTo sb) := (by rw [World.cell?_of_block (w := w) (hg3.block bx (lt_of_block HBX.out) (by simpa using HBG.out)), cell_at HBX.out]; rfl); have G3 := Lib.hid hg3; have R3 := Lib.hid hr3; have S3 := Lib.hid hs3; clear hg3 hr3 hs3)
      all_goals go_wp2
      all_goals go_end0
      all_goals exact P.out _ G3.out S3.out R3.out _ rfl
end Go.Proofs.YtaphagdbekmngaaGreatDoor
