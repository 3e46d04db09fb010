/- Taking a metric off a set: walked. -/
import Derived.Test.YtaphagdbekmngaaGreatDoorDel
import Derived.Test.YtaphagdbekmngaaGreatDoorGot
import Derived.Maps.OwnSet
namespace Go.Proofs.YtaphagdbekmngaaGreatDoor
open Go.RowKit Go.Maps

/-- What taking a metric off a set does. -/
def Gone (B N : Nat) (w : World) (sb : Nat) (l : List UInt8) (es : List Ent) (e : Ending) (w' : World) : Prop :=
  ∃ b, e = .returned (.bool b) ∧ ∃ cls' es' av' mb' D' n', Inv B (N + 1) cls' w' sb es' av' mb' D' n' ∧ Below B w w' ∧ Keeps31 w w' ∧ names es' = (names es).filter (· ≠ l)

theorem split_names {s t : List Ent} {x : Ent} (h : (names (s ++ x :: t)).Nodup) : (∀ y ∈ s, y.name ≠ x.name) ∧ (∀ y ∈ t, y.name ≠ x.name) := by
  simp only [names, List.map_append, List.map_cons, List.nodup_append, List.nodup_cons] at h
  obtain ⟨_, ⟨h2, _⟩, h3⟩ := h
  refine ⟨fun y hy e => ?_, fun y hy e => h2 (e ▸ List.mem_map_of_mem hy)⟩
  exact h3 y.name (List.mem_map_of_mem hy) x.name (by simp) e

theorem filter_split {s t : List Ent} {x : Ent} (h : (names (s ++ x :: t)).Nodup) : (s ++ x :: t).filter (fun e => e.name ≠ x.name) = s ++ t := by
  obtain ⟨h1, h2⟩ := split_names h
  rw [List.filter_append, List.filter_cons_of_neg (by simp), List.filter_eq_self.2 (fun y hy => by simpa using h1 y hy), List.filter_eq_self.2 (fun y hy => by simpa using h2 y hy)]

/-- The set behind the map's deletion and the list's. -/
theorem gone_inv {B N : Nat} {cls : Cls} {w : World} {sb : Nat} {s t : List Ent} {x : Ent} {mb : Nat} {D : DataW Unit} {n g cap : Nat}
    (h : Inv B N cls w sb (s ++ x :: t) (.slice (some ⟨g, 0, none⟩) (s ++ x :: t).length cap) mb D n) (w1 w' : World) (hg : (w.alloc (.cells #[ptrTo sb] 33)).grownBy w1 (some mb)) (ho : w1.ownsMap Tryz.prog 9 Rp mb n (D.del (.string x.name)))
    (e : Ending) (hd : Deleted w1 sb g cap (s ++ x :: t).length s.length ((s ++ x :: t).map fun e => ptrTo e.nb) (.map (some mb)) e w') :
    ∃ cls' es' av' mb' D' n', Inv B (N + 1) cls' w' sb es' av' mb' D' n' ∧ Below B w w' ∧ Keeps31 w w' ∧ names es' = (names (s ++ x :: t)).filter (· ≠ x.name) := by
  obtain ⟨_, ⟨cur', r1, r2, r3⟩, r4, r5, r6, r7, r8, r9⟩ := hd
  obtain ⟨a1, a2, a3⟩ := h.apart
  obtain ⟨k1, k2, k3, k4⟩ := h.cls0
  have hm : mb < w.heap.size := by obtain ⟨y, c, hb, _⟩ := h.map; exact lt_of_block hb
  have hgl : g < w.heap.size := (h.row.lt g rfl).2
  have hsz := hg.size
  simp only [World.size_alloc] at hsz
  have old : ∀ b, b < w.heap.size → b ≠ mb → b ≠ g → b ≠ sb → w'.heap[b]? = w.heap[b]? := fun b hb h1 h2 h3 => by
    rw [r5 b h2 h3, hg.block b (by simp; omega) (by simpa using h1), Below.heap_alloc _ _ _ hb]
  have hgm : g ≠ mb ∧ g ≠ sb := ⟨(a2 g rfl).2, (a2 g rfl).1⟩
  have hlen : (s ++ x :: t).length - 1 = (s ++ t).length := by simp
  refine ⟨cls, s ++ t, .slice (some ⟨g, 0, none⟩) (s ++ t).length cap, mb, D.del (.string x.name), n, ⟨?_, h.high, h.base, ?_, ?_, ?_, ?_, ?_, ?_, ?_⟩, ?_, ?_, ?_⟩
  · intro b hb
    obtain ⟨arr, h1, h2⟩ := h.typed b hb
    exact ⟨arr, (old b (lt_of_block h1) (fun e => hb (e ▸ k2)) (fun e => hb (k3 b (by rw [e]; rfl))) (fun e => hb (e ▸ k1))).trans h1, h2⟩
  · rw [r4, hlen]
  · have hh := h.row
    refine ⟨by simp, .inr ⟨g, cap, cur', rfl, (hh.lt g rfl).1, r1, ?_, ?_, by simpa using r2, ?_⟩⟩
    · rcases hh.2 with ⟨hv, _⟩ | ⟨g2, cap2, cur2, hv, _, _, hnc, _⟩
      · cases hv
      · simp only [Value.slice.injEq, Option.some.injEq, Addr.mk.injEq] at hv
        obtain ⟨_, _, rfl⟩ := hv
        simp at hnc ⊢
        omega
    · rcases hh.2 with ⟨hv, _⟩ | ⟨g2, cap2, cur2, hv, _, _, _, hcm, _⟩
      · cases hv
      · simp only [Value.slice.injEq, Option.some.injEq, Addr.mk.injEq] at hv
        obtain ⟨_, _, rfl⟩ := hv
        exact hcm
    · rw [Nat.mul_one, ← hlen, r3, List.map_append, List.map_append, List.map_cons, List.eraseIdx_append_of_length_le (by simp)]
      simp
  · obtain ⟨es0, c0, hb0, rest⟩ := ho
    exact ⟨es0, c0, (r5 mb hgm.1.symm a1.symm).trans hb0, rest⟩
  · have := h.knows.del x.name
    rw [filter_split h.nodup] at this
    exact this
  · have := h.few
    simp only [List.length_append, List.length_cons] at this ⊢
    omega
  · intro y hy
    have hy' : y ∈ s ++ x :: t := by
      rcases List.mem_append.1 hy with hy | hy
      · exact List.mem_append_left _ hy
      · exact List.mem_append_right _ (List.mem_cons_of_mem _ hy)
    obtain ⟨e1, e2⟩ := h.ents y hy'
    obtain ⟨b1, b2, b3⟩ := a3 y hy'
    exact ⟨(old y.nb (lt_of_block e1) b2 (b3 g rfl) b1).trans e1, e2⟩
  · have := h.nodup
    refine this.sublist ?_
    simp [names]
  · refine ⟨r6.trans hg.os, r7.trans hg.tape, r8.trans hg.output, by omega, fun k hk => ?_⟩
    have hb := h.base
    have := (h.row.lt g rfl).1
    exact old k (by have := h.lt; omega) (by omega) (by omega) (by omega)
  · intro b ar m hb
    refine old b (lt_of_block hb) ?_ ?_ ?_
    · rintro rfl
      obtain ⟨y, c, hx, _⟩ := h.map
      rw [hx] at hb
      cases hb
    · rintro rfl
      obtain ⟨ar', har'⟩ := row_block h.row (r := b) rfl
      rw [har'] at hb
      simp at hb
    · rintro rfl
      rw [h.body] at hb
      simp at hb
  · rw [← filter_split h.nodup]
    simp only [names, List.filter_map]
    rfl

set_option maxHeartbeats 1000000 in
set_option maxRecDepth 100000 in
theorem locked_any {B N : Nat} {cls : Cls} {w : World} {sb : Nat} {s t : List Ent} {x : Ent} {mb : Nat} {D : DataW Unit} {n g cap : Nat}
    (h : Inv B N cls w sb (s ++ x :: t) (.slice (some ⟨g, 0, none⟩) (s ++ x :: t).length cap) mb D n) (hN : N ≤ 900) :
    Calls Tryz.prog 42 #[ptrTo sb, ptrTo x.nb] w (Gone B N w sb x.name (s ++ x :: t)) := by
  have hx : x ∈ s ++ x :: t := List.mem_append_right _ (List.mem_cons_self ..)
  obtain ⟨e1, e2, e3, e4⟩ := h.ents x hx
  have hkey := Lib.hid (key_of x.name (by unfold maxLen; omega))
  have c1 : w.cell? ⟨sb, 1, none⟩ = some (.map (some mb)) := by rw [cell_at h.body]; rfl
  have c0 : w.cell? ⟨x.nb, 0, none⟩ = some (.string ⟨x.name.toArray⟩) := by rw [cell_at e1]; rfl
  have l1 := lt_of_block h.body
  have l2 := lt_of_block e1
  have HI := Lib.hid h
  have K : ∀ w1 : World, (w.alloc (.cells #[ptrTo sb] 33)).grownBy w1 (some mb) → Calls Tryz.prog 57 #[.string ⟨x.name.toArray⟩, ptrTo w.heap.size] w1 (Deleted w1 sb g cap (s ++ x :: t).length s.length ((s ++ x :: t).map fun e => ptrTo e.nb) (.map (some mb))) := by
    intro w1 hg
    obtain ⟨a1, a2, a3⟩ := h.apart
    have old : ∀ b, b < w.heap.size → b ≠ mb → w1.heap[b]? = w.heap[b]? := fun b hb hne => by
      rw [hg.block b (by simp; omega) (by simpa using hne), Below.heap_alloc _ _ _ hb]
    rcases h.row.2 with ⟨hv, _⟩ | ⟨g2, cap2, cur, hv, hbase, hgg, hnc, hcm, hcs, htk⟩
    · cases hv
    · simp only [Value.slice.injEq, Option.some.injEq, Addr.mk.injEq] at hv
      obtain ⟨⟨rfl, _, _⟩, _, rfl⟩ := hv
      obtain ⟨n1, n2⟩ := split_names h.nodup
      have few := h.few
      refine del_any w1 w.heap.size sb g cap s.length cur (s ++ x :: t) x.name (.map (some mb)) ?_ ?_ ?_ (by simpa using hcs) hnc hcm (by omega) (by simpa using htk) ?_ (by simp) (by simp) ?_
      · rw [hg.block _ (by simp) (by obtain ⟨y, c, hb, _⟩ := h.map; have := lt_of_block hb; simp; omega)]
        exact heap_alloc_new w _
      · exact (old sb l1 a1).trans h.body
      · exact (old g (lt_of_block hgg) (a2 g rfl).2).trans hgg
      · intro y hy
        have := (h.ents y hy).1
        rw [cell_at ((old y.nb (lt_of_block this) (a3 y hy).2.1).trans this)]
        rfl
      · intro j hj
        rw [List.getElem_append_left hj]
        exact n1 _ (List.getElem_mem hj)
  have HK := Lib.hid K
  clear h K e1 e2 e3 hx
  go_enter Tryz.func42, Tryz.ntmps42
  go_wp2_with (first | (at_delete; go_must (refine wpList_delete_own _ rfl _ _ 65 9 rfl 69 law9 Tryz.underlying65 Rp mb n D rfl (HI.out.map.alloc _) _ (.string x.name) rfl hkey.out ?_); intro w1 hown1 hturn1; have hg1 := hturn1.grown; have HO1 := Lib.hid hown1; have HG1 := Lib.hid hg1; clear hown1 hturn1 hg1) | (go_at_call 57; refine (HK.out _ HG1.out).mono ?_; intro e w' hd; obtain ⟨rfl, hd'⟩ := hd; have HD := Lib.hid hd'; clear hd'))
  go_ret
  exact ⟨_, rfl, gone_inv HI.out w1 _ HG1.out HO1.out _ ⟨rfl, HD.out⟩⟩

set_option maxHeartbeats 1000000 in
set_option maxRecDepth 100000 in
/-- TAKING A METRIC OFF, whether it is there or not. -/
theorem unreg_any {B N : Nat} {cls : Cls} {w : World} {sb : Nat} {es : List Ent} {av : Value} {mb : Nat} {D : DataW Unit} {n : Nat}
    (h : Inv B N cls w sb es av mb D n) (hN : N ≤ 900) (l : List UInt8) (hl : l.length ≤ 100) :
    Calls Tryz.prog 30 #[ptrTo sb, .string ⟨l.toArray⟩] w (Gone B N w sb l es) := by
  have c1 : w.cell? ⟨sb, 1, none⟩ = some (.map (some mb)) := by rw [cell_at h.body]; rfl
  obtain ⟨v, ps, hrun, hrv⟩ := h.map.look_ok law9 Tryz.underlying65 (zero69 w) (zd := .nil) (zp := []) rfl (key_of l (by unfold maxLen; omega))
  by_cases hn : l ∈ names es
  · obtain ⟨x, hx, rfl⟩ := List.mem_map.1 hn
    obtain ⟨s, t, rfl⟩ := List.append_of_mem hx
    rw [h.knows.2 x hx] at hrv
    rw [Rp_lit_inv hrv, h.knows.1, decide_eq_true hn] at hrun
    obtain ⟨e1, e2, e3, e4⟩ := h.ents x hx
    have c2 : w.cell? ⟨x.nb, 2, none⟩ = some (.bool false) := by rw [cell_at e1]; rfl
    obtain ⟨g, cap, rfl⟩ : ∃ g cap, av = .slice (some ⟨g, 0, none⟩) (s ++ x :: t).length cap := by
      rcases h.row.2 with ⟨_, h0⟩ | ⟨g, cap, cur, hv, _⟩
      · simp at h0
      · exact ⟨g, cap, hv⟩
    have L := Lib.hid (locked_any h hN)
    clear h hn hx hrv e1 e2 e3
    go_enter Tryz.func30, Tryz.ntmps30
    go_wp2_with (go_at_call 42; refine L.out.mono ?_; rintro e w' ⟨b, rfl, hG⟩; have HG := Lib.hid hG; clear hG)
    go_ret
    exact ⟨_, rfl, HG.out⟩
  · rw [(h.knows.none hn).2] at hrv
    rw [Rp_nil_inv hrv, (h.knows.none hn).1] at hrun
    have P : Hid (Gone B N w sb l es (.returned (.bool false)) w) := Lib.hid ⟨false, rfl, cls, es, av, mb, D, n, h.more, Below.refl _ _, Keeps31.refl _, (List.filter_eq_self.2 (fun a ha => by have : a ≠ l := (fun e => hn (e ▸ ha)); simpa using this)).symm⟩
    clear h hn hrv
    go_enter Tryz.func30, Tryz.ntmps30
    go_wp2
    go_ret
    exact P.out
end Go.Proofs.YtaphagdbekmngaaGreatDoor
