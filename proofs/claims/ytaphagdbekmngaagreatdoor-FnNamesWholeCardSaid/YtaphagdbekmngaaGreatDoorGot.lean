/- Fetching a metric by its name, or making it: walked. -/
import Derived.Test.YtaphagdbekmngaaGreatDoorVal
import Derived.Test.YtaphagdbekmngaaGreatDoorInv
import Derived.Deep.DeepMust
namespace Go.Proofs.YtaphagdbekmngaaGreatDoor
open Go.RowKit Go.Maps

theorem ownsRow_succ {w : World} {base : Nat} {e : TypeId} {size : Nat} {v : Value} {n : Nat} {xs : List Value} (h : w.ownsRow base e size v (n + 1) xs) : ∃ g cap, v = .slice (some ⟨g, 0, none⟩) (n + 1) cap := by
  rcases h.2 with ⟨_, h0⟩ | ⟨g, cap, cur, rfl, _⟩
  · omega
  · exact ⟨g, cap, rfl⟩

/-- Behind the store into the map. -/
theorem after_put {B N : Nat} {cls : Cls} {w : World} {sb : Nat} {es : List Ent} {av : Value} {mb : Nat} {D : DataW Unit} {n : Nat} (h : Inv B N cls w sb es av mb D n) (o1 o2 : Obj) (w1 : World)
    (hg : ((w.alloc o1).alloc o2).grownBy w1 (some mb)) :
    w1.cell? ⟨sb, 0, none⟩ = some av ∧ w1.frozen? ⟨sb, 0, none⟩ = false ∧ w1.ownsRow B 69 1 av es.length (es.map fun e => ptrTo e.nb) ∧ w.heap.size + 2 ≤ w1.heap.size ∧
      w1.heap[w.heap.size]? = some o1 ∧ w1.heap[w.heap.size + 1]? = some o2 ∧ (∀ b, b < w.heap.size → b ≠ mb → w1.heap[b]? = w.heap[b]?) := by
  obtain ⟨a1, a2, a3⟩ := h.apart
  have hm : mb < w.heap.size := by obtain ⟨x, c, hb, _⟩ := h.map; exact lt_of_block hb
  have hs := hg.size
  simp only [World.size_alloc] at hs
  have old : ∀ b, b < w.heap.size → b ≠ mb → w1.heap[b]? = w.heap[b]? := fun b hb hne => by
    rw [hg.block b (by simp; omega) (by simpa using hne), Below.heap_alloc _ _ _ (by simp; omega), Below.heap_alloc _ _ _ hb]
  have hsb : w1.heap[sb]? = _ := (old sb (lt_of_block h.body) a1).trans h.body
  refine ⟨by rw [cell_at hsb]; rfl, free_at hsb 0, ⟨h.row.1, ?_⟩, hs, ?_, ?_, old⟩
  · rcases h.row.2 with hn | ⟨g, cap, cur, hv, hb, hgg, rest⟩
    · exact .inl hn
    · exact .inr ⟨g, cap, cur, hv, hb, (old g (lt_of_block hgg) (a2 g (by rw [hv]; rfl)).2).trans hgg, rest⟩
  · rw [hg.block _ (by simp; omega) (by simp; omega), Below.heap_alloc _ _ _ (by simp)]
    exact heap_alloc_new w o1
  · rw [hg.block _ (by simp) (by simp; omega), show w.heap.size + 1 = (w.alloc o1).heap.size from by simp]
    exact heap_alloc_new (w.alloc o1) o2

/-- Behind the append to the list. -/
theorem after_app {B N : Nat} {cls : Cls} {w : World} {sb : Nat} {es : List Ent} {av : Value} {mb : Nat} {D : DataW Unit} {n : Nat} (h : Inv B N cls w sb es av mb D n) (o1 o2 : Obj) (w1 : World)
    (hg : ((w.alloc o1).alloc o2).grownBy w1 (some mb)) (T : Obj) (w2 : World) (hg2 : (w1.alloc T).grownBy w2 av.ownBlock) :
    w2.cell? ⟨sb, 0, none⟩ = some av ∧ w2.frozen? ⟨sb, 0, none⟩ = false ∧ w.heap.size + 2 ≤ w2.heap.size ∧ w2.heap[w.heap.size]? = some o1 ∧ w2.heap[w.heap.size + 1]? = some o2 ∧
      (∀ b, b < w.heap.size → b ≠ mb → some b ≠ av.ownBlock → w2.heap[b]? = w.heap[b]?) := by
  obtain ⟨p1, p2, p3, p4, p5, p6, p7⟩ := after_put h o1 o2 w1 hg
  obtain ⟨a1, a2, a3⟩ := h.apart
  have hs := hg2.size
  simp only [World.size_alloc] at hs
  have hlt : ∀ r, av.ownBlock = some r → r < w.heap.size := fun r hr => (h.row.lt r hr).2
  have old : ∀ b, b < w.heap.size → b ≠ mb → some b ≠ av.ownBlock → w2.heap[b]? = w.heap[b]? := fun b hb hne hr => by
    rw [hg2.block b (by simp; omega) hr, Below.heap_alloc _ _ _ (by omega), p7 b hb hne]
  have hsb : w2.heap[sb]? = _ := (old sb (lt_of_block h.body) a1 (fun e => (a2 sb e.symm).1 rfl)).trans h.body
  refine ⟨by rw [cell_at hsb]; rfl, free_at hsb 0, by omega, ?_, ?_, old⟩
  · rw [hg2.block _ (by simp; omega) (fun e => by have := hlt _ e.symm; omega), Below.heap_alloc _ _ _ (by omega), p5]
  · rw [hg2.block _ (by simp; omega) (fun e => by have := hlt _ e.symm; omega), Below.heap_alloc _ _ _ (by omega), p6]

/-- WHAT FETCHING A METRIC GIVES: a pointer to it; the set knows its name. -/
def Got (cls : Cls) (B N : Nat) (w : World) (sb : Nat) (l : List UInt8) (mt : Nat) (es : List Ent) (e : Ending) (w' : World) : Prop :=
  ∃ cls' es' av' mb' D' n' b, e = .returned (ptrTo b) ∧ Inv B (N + 1) cls' w' sb es' av' mb' D' n' ∧ cls' b = clsOf mt ∧ Below B w w' ∧ Keeps31 w w' ∧
    (names es' = if l ∈ names es then names es else names es ++ [l]) ∧ ∀ b, cls b ≠ 0 → cls' b = cls b

theorem clsOf_ne (mt : Nat) : clsOf mt ≠ 0 := by unfold clsOf; split <;> (try split) <;> (try split) <;> decide

theorem got_new {B N : Nat} {cls : Cls} {w : World} {sb : Nat} {es : List Ent} {av : Value} {mb : Nat} {D : DataW Unit} {n : Nat} (h : Inv B N cls w sb es av mb D n) (l : List UInt8) (hl : l.length ≤ 100) (hn : l ∉ names es)
    (mt : Nat) (hmt : mt = mtOf l) (arr : Array Value) (hgood : ∀ c, Good c (clsOf mt) arr) (w1 : World)
    (hg1 : ((w.alloc (.cells arr (clsOf mt))).alloc (.cells #[.string ⟨l.toArray⟩, .iface mt (ptrTo w.heap.size), .bool false] 73)).grownBy w1 (some mb))
    (ho1 : w1.ownsMap Tryz.prog 9 Rp mb (n + 1) (D.put (.string l) (.lit (.int .i64 ((w.heap.size + 1 : Nat) : Int))))) (T : Obj) (w2 : World) (hg2 : (w1.alloc T).grownBy w2 av.ownBlock) (g' cap' : Nat)
    (ho2 : w2.ownsRow B 69 1 (.slice (some ⟨g', 0, none⟩) (es.length + 1) cap') (es.length + 1) ((es.map fun e => ptrTo e.nb) ++ [ptrTo (w.heap.size + 1)])) :
    Got cls B N w sb l mt es (.returned (ptrTo w.heap.size)) (w2.setCell ⟨sb, 0, none⟩ (.slice (some ⟨g', 0, none⟩) (es.length + 1) cap')) := by
  obtain ⟨q1, q2, q3, q4, q5, q6⟩ := after_app h _ _ w1 hg1 T w2 hg2
  obtain ⟨a1, a2, a3⟩ := h.apart
  obtain ⟨k1, k2, k3, k4⟩ := h.cls0
  have hsb : sb < w.heap.size := lt_of_block h.body
  have hBw := h.lt
  have hbody2 : w2.heap[sb]? = _ := (q6 sb hsb a1 (fun e => (a2 sb e.symm).1 rfl)).trans h.body
  have hgs : g' ≠ sb := by
    rintro rfl
    obtain ⟨ar, har⟩ := row_block ho2 (r := g') rfl
    rw [hbody2] at har
    simp at har
  have old : ∀ b, b < w.heap.size → b ≠ mb → some b ≠ av.ownBlock → b ≠ sb → (w2.setCell ⟨sb, 0, none⟩ (.slice (some ⟨g', 0, none⟩) (es.length + 1) cap')).heap[b]? = w.heap[b]? := fun b hb h1 h2 h3 =>
    (Below.heap_setCell _ _ _ _ h3).trans (q6 b hb h1 h2)
  have oldc : ∀ b, cls b ≠ 0 → (w2.setCell ⟨sb, 0, none⟩ (.slice (some ⟨g', 0, none⟩) (es.length + 1) cap')).heap[b]? = w.heap[b]? := fun b hb =>
    old b (h.typed.lt hb) (fun e => hb (e ▸ k2)) (fun e => hb (k3 b e.symm)) (fun e => hb (e ▸ k1))
  have hs1 := hg1.size
  have hs2 := hg2.size
  simp only [World.size_alloc] at hs1 hs2
  have hnew : upd cls w.heap.size (clsOf mt) w.heap.size = clsOf mt := upd_same _ _ _
  have hext : ∀ b, cls b ≠ 0 → upd cls w.heap.size (clsOf mt) b = cls b := fun b hb => upd_other _ _ _ _ (by have := h.typed.lt hb; omega)
  refine ⟨upd cls w.heap.size (clsOf mt), es ++ [⟨l, w.heap.size + 1, mt, w.heap.size⟩], .slice (some ⟨g', 0, none⟩) (es.length + 1) cap', mb, _, n + 1, w.heap.size, rfl, ⟨?_, ?_, h.base, ?_, ?_, ?_, h.knows.put (h.map.isMap) ⟨l, w.heap.size + 1, mt, w.heap.size⟩ hn, ?_, ?_, ?_⟩, hnew, ?_, ?_, ?_, hext⟩
  · intro b hb
    by_cases hbs : b = w.heap.size
    · subst hbs
      rw [hnew]
      exact ⟨arr, (Below.heap_setCell _ _ _ _ (show w.heap.size ≠ sb by omega)).trans q4, hgood _⟩
    · rw [upd_other _ _ _ _ hbs] at hb ⊢
      obtain ⟨ar, har, hga⟩ := h.typed b hb
      exact ⟨ar, (oldc b hb).trans har, hga.ext hext⟩
  · intro b hb
    by_cases hbs : b = w.heap.size
    · omega
    · rw [upd_other _ _ _ _ hbs] at hb
      exact h.high b hb
  · rw [heap_setCell_same hbody2]
    rfl
  · have := ownsRow_setCell_other ho2 (a := ⟨sb, 0, none⟩) (by simpa [Value.ownBlock] using hgs) (.slice (some ⟨g', 0, none⟩) (es.length + 1) cap')
    simpa using this
  · exact ((ho1.alloc T).kept hg2 (fun e => (a2 mb e.symm).2 rfl)).setCell (by simpa using fun e => a1 e.symm) _
  · have := h.few
    simp only [List.length_append, List.length_cons, List.length_nil]
    omega
  · intro e he
    rcases List.mem_append.1 he with he | he
    · obtain ⟨e1, e2, e3⟩ := h.ents e he
      obtain ⟨b1, b2, b3⟩ := a3 e he
      exact ⟨(old e.nb (lt_of_block e1) b2 (fun ee => b3 e.nb ee.symm rfl) b1).trans e1, by rw [hext e.mb (by rw [e2]; exact clsOf_ne _)]; exact e2, e3⟩
    · obtain rfl : e = _ := by simpa using he
      exact ⟨(Below.heap_setCell _ _ _ _ (show w.heap.size + 1 ≠ sb by omega)).trans q5, hnew, hmt, hl⟩
  · rw [names, List.map_append, List.nodup_append]
    refine ⟨h.nodup, by simp, ?_⟩
    intro a ha b hb
    simp at hb
    rintro rfl
    exact hn (hb ▸ ha)
  · refine ⟨hg2.os.trans hg1.os, hg2.tape.trans hg1.tape, hg2.output.trans hg1.output, by simp; omega, fun k hk => ?_⟩
    refine old k (by omega) ?_ ?_ ?_
    · have := h.base; omega
    · intro e
      have := (h.row.lt k e.symm).1
      omega
    · have := h.base; omega
  · intro b ar m hb
    have hb' := lt_of_block hb
    refine old b hb' ?_ ?_ ?_
    · rintro rfl
      obtain ⟨x, c, hx, _⟩ := h.map
      rw [hx] at hb
      cases hb
    · intro e
      obtain ⟨ar', har'⟩ := row_block h.row e.symm
      rw [har'] at hb
      simp at hb
    · rintro rfl
      rw [h.body] at hb
      simp at hb
  · rw [if_neg hn]
    simp [names]

/-- .. and where it is there. -/
theorem got_old {B N : Nat} {cls : Cls} {w : World} {sb : Nat} {es : List Ent} {av : Value} {mb : Nat} {D : DataW Unit} {n : Nat} (h : Inv B N cls w sb es av mb D n) (x : Ent) (hx : x ∈ es) :
    Got cls B N w sb x.name x.mt es (.returned (ptrTo x.mb)) w :=
  ⟨cls, es, av, mb, D, n, x.mb, rfl, h.more, (h.ents x hx).2.1, Below.refl _ _, Keeps31.refl _, by rw [if_pos (List.mem_map_of_mem hx)], fun _ _ => rfl⟩

theorem ta45 (v : Value) (w : World) : (Instr.typeAssert (.iface 45 v) 71 45 true).run Tryz.prog w = .ok (.tuple #[v, .bool true]) w := by
  simp [Instr.typeAssert, run_underlying Tryz.underlying45]

set_option maxHeartbeats 400000 in
set_option maxRecDepth 100000 in
theorem counter_there (w : World) (sb mb nb xb : Nat) (l : List UInt8)
    (c1 : w.cell? ⟨sb, 1, none⟩ = some (.map (some mb))) (hlook : (Instr.lookup 65 (.map (some mb)) (.string ⟨l.toArray⟩) false).run Tryz.prog w = .ok (ptrTo nb) w)
    (c2 : w.cell? ⟨nb, 1, none⟩ = some (.iface 45 (ptrTo xb))) :
    Calls Tryz.prog 19 #[ptrTo sb, .string ⟨l.toArray⟩] w fun e w' => e = .returned (ptrTo xb) ∧ w = w' := by
  have hta := ta45
  go_enter Tryz.func19, Tryz.ntmps19
  go_wp2
  go_ret
  exact ⟨rfl, rfl⟩

set_option maxHeartbeats 1000000 in
set_option maxRecDepth 100000 in
theorem counter_new {B N : Nat} {cls : Cls} {w : World} {sb : Nat} {es : List Ent} {av : Value} {mb : Nat} {D : DataW Unit} {n : Nat} (h : Inv B N cls w sb es av mb D n) (hN : N ≤ 1000) (l : List UInt8) (hl : l.length ≤ 100)
    (hmt : 45 = mtOf l) (hv : ∀ w, Calls Tryz.prog 36 #[.string ⟨l.toArray⟩] w fun e w' => e = .returned .nilIface ∧ w = w') (hn : l ∉ names es) :
    Calls Tryz.prog 19 #[ptrTo sb, .string ⟨l.toArray⟩] w (Got cls B N w sb l 45 es) := by
  have HV := Lib.hid hv
  have HM := Lib.hid hmt
  clear hv hmt
  have hml : l.length ≤ maxLen := by unfold maxLen; omega
  have hkey := Lib.hid (key_of l hml)
  have hnone := (h.knows.none hn).2
  have look : ∀ W : World, W.ownsMap Tryz.prog 9 Rp mb n D → (Instr.lookup 65 (.map (some mb)) (.string ⟨l.toArray⟩) false).run Tryz.prog W = .ok (.pointer none) W := by
    intro W hW
    obtain ⟨v, ps, hrun, hv⟩ := hW.lookup law9 Tryz.underlying65 (zero69 W) (zd := .nil) (zp := []) rfl hkey.out
    rw [hnone] at hv
    rw [hrun, Rp_nil_inv hv]
  have l0 := look w h.map
  have l1 : ∀ o1 o2, _ := fun o1 o2 => look ((w.alloc o1).alloc o2) ((h.map.alloc o1).alloc o2)
  have c1 : w.cell? ⟨sb, 1, none⟩ = some (.map (some mb)) := by rw [cell_at h.body]; rfl
  have hsb : sb < w.heap.size := lt_of_block h.body
  have hta := ta45
  have HI := Lib.hid h
  have HNn := Lib.hid hn
  have few := h.few
  have hbw := h.lt
  obtain ⟨i0, hi, hz0, hz1, hz2⟩ := info_parts info69
  clear h hnone look hn
  go_enter Tryz.func19, Tryz.ntmps19
  go_wp2_with (first | (go_at_call 36; refine (HV.out _).mono ?_; rintro e w' ⟨rfl, rfl⟩) | (at_mapUpdate; go_must (refine wpList_mapUpdate_own _ rfl _ _ _ 65 rfl 9 69 law9 Tryz.underlying65 Rp mb n D rfl ((HI.out.map.alloc _).alloc _) (by unfold maxLen; omega) _ _ (.string l) rfl rfl hkey.out (.lit (.int .i64 _)) [] rfl ?_); intro w1 hown1 hgrow1; obtain ⟨c10, f10, hrow1, hs1, hb1, hb2, hold1⟩ := after_put HI.out _ _ w1 hgrow1; have HG1 := Lib.hid hgrow1; have HO1 := Lib.hid hown1; clear hb1 hb2 hold1 hgrow1 hown1) | (at_builtin; go_must (refine wpList_append_own_at _ rfl _ _ 64 rfl B 69 i0 (.pointer none) 1 8 Tryz.underlying64 hi hz0 hz1 hz2 rfl (by decide) _ _ _ rfl (hrow1.alloc _) ⟨_, 0, none⟩ 1 1 [_] rfl rfl (cell_one_new _ _ _) (by simp [Value.oneCell']) (by unfold maxLen; omega) (by omega) (by simp; omega) ?_); intro v' w2 hown2 hgrow2 hnil2 hloc2; obtain ⟨g', cap', rfl⟩ := ownsRow_succ hown2; obtain ⟨c20, f20, hs2, hb21, hb22, hold2⟩ := after_app HI.out _ _ w1 HG1.out _ w2 hgrow2; have c21 : w2.cell? ⟨w.heap.size + 1, 1, none⟩ = some (.iface 45 (ptrTo w.heap.size)) := (by rw [cell_at hb22]; rfl); have H2 := Lib.hid hown2; have HG2 := Lib.hid hgrow2; clear hb21 hb22 hold2 hown2 hloc2 hgrow2 hnil2))
  go_ret
  exact got_new HI.out l hl HNn.out 45 HM.out _ (fun c => by simp [clsOf, Good]) w1 HG1.out HO1.out _ w2 HG2.out g' cap' H2.out

/-- FETCHING IT: whether it is there or not. -/
theorem counter_got {B N : Nat} {cls : Cls} {w : World} {sb : Nat} {es : List Ent} {av : Value} {mb : Nat} {D : DataW Unit} {n : Nat} (h : Inv B N cls w sb es av mb D n) (hN : N ≤ 1000) (l : List UInt8) (hl : l.length ≤ 100)
    (hmt : 45 = mtOf l) (hv : ∀ w, Calls Tryz.prog 36 #[.string ⟨l.toArray⟩] w fun e w' => e = .returned .nilIface ∧ w = w') :
    Calls Tryz.prog 19 #[ptrTo sb, .string ⟨l.toArray⟩] w (Got cls B N w sb l 45 es) := by
  by_cases hn : l ∈ names es
  · obtain ⟨x, hx, rfl⟩ := List.mem_map.1 hn
    obtain ⟨e1, e2, e3, e4⟩ := h.ents x hx
    have hxm : x.mt = 45 := e3.trans hmt.symm
    obtain ⟨v, ps, hrun, hrv⟩ := h.map.lookup law9 Tryz.underlying65 (zero69 w) (zd := .nil) (zp := []) rfl (key_of x.name (by unfold maxLen; omega))
    rw [h.knows.2 x hx] at hrv
    rw [Rp_lit_inv hrv] at hrun
    refine (counter_there w sb mb x.nb x.mb x.name (by rw [cell_at h.body]; rfl) hrun (by rw [cell_at e1, ← hxm]; rfl)).mono ?_
    rintro e w' ⟨rfl, rfl⟩
    rw [← hxm]
    exact got_old h x hx
  · exact counter_new h hN l hl hmt hv hn

theorem ta50 (v : Value) (w : World) : (Instr.typeAssert (.iface 50 v) 71 50 true).run Tryz.prog w = .ok (.tuple #[v, .bool true]) w := by
  simp [Instr.typeAssert, run_underlying Tryz.underlying50]

set_option maxHeartbeats 400000 in
set_option maxRecDepth 100000 in
theorem float_there (w : World) (sb mb nb xb : Nat) (l : List UInt8)
    (c1 : w.cell? ⟨sb, 1, none⟩ = some (.map (some mb))) (hlook : (Instr.lookup 65 (.map (some mb)) (.string ⟨l.toArray⟩) false).run Tryz.prog w = .ok (ptrTo nb) w)
    (c2 : w.cell? ⟨nb, 1, none⟩ = some (.iface 50 (ptrTo xb))) :
    Calls Tryz.prog 22 #[ptrTo sb, .string ⟨l.toArray⟩] w fun e w' => e = .returned (ptrTo xb) ∧ w = w' := by
  have hta := ta50
  go_enter Tryz.func22, Tryz.ntmps22
  go_wp2
  go_ret
  exact ⟨rfl, rfl⟩

set_option maxHeartbeats 1000000 in
set_option maxRecDepth 100000 in
theorem float_new {B N : Nat} {cls : Cls} {w : World} {sb : Nat} {es : List Ent} {av : Value} {mb : Nat} {D : DataW Unit} {n : Nat} (h : Inv B N cls w sb es av mb D n) (hN : N ≤ 1000) (l : List UInt8) (hl : l.length ≤ 100)
    (hmt : 50 = mtOf l) (hv : ∀ w, Calls Tryz.prog 36 #[.string ⟨l.toArray⟩] w fun e w' => e = .returned .nilIface ∧ w = w') (hn : l ∉ names es) :
    Calls Tryz.prog 22 #[ptrTo sb, .string ⟨l.toArray⟩] w (Got cls B N w sb l 50 es) := by
  have HV := Lib.hid hv
  have HM := Lib.hid hmt
  clear hv hmt
  have hml : l.length ≤ maxLen := by unfold maxLen; omega
  have hkey := Lib.hid (key_of l hml)
  have hnone := (h.knows.none hn).2
  have look : ∀ W : World, W.ownsMap Tryz.prog 9 Rp mb n D → (Instr.lookup 65 (.map (some mb)) (.string ⟨l.toArray⟩) false).run Tryz.prog W = .ok (.pointer none) W := by
    intro W hW
    obtain ⟨v, ps, hrun, hv⟩ := hW.lookup law9 Tryz.underlying65 (zero69 W) (zd := .nil) (zp := []) rfl hkey.out
    rw [hnone] at hv
    rw [hrun, Rp_nil_inv hv]
  have l0 := look w h.map
  have l1 : ∀ o1 o2, _ := fun o1 o2 => look ((w.alloc o1).alloc o2) ((h.map.alloc o1).alloc o2)
  have c1 : w.cell? ⟨sb, 1, none⟩ = some (.map (some mb)) := by rw [cell_at h.body]; rfl
  have hsb : sb < w.heap.size := lt_of_block h.body
  have hta := ta50
  have HI := Lib.hid h
  have HNn := Lib.hid hn
  have few := h.few
  have hbw := h.lt
  obtain ⟨i0, hi, hz0, hz1, hz2⟩ := info_parts info69
  clear h hnone look hn
  go_enter Tryz.func22, Tryz.ntmps22
  go_wp2_with (first | (go_at_call 36; refine (HV.out _).mono ?_; rintro e w' ⟨rfl, rfl⟩) | (at_mapUpdate; go_must (refine wpList_mapUpdate_own _ rfl _ _ _ 65 rfl 9 69 law9 Tryz.underlying65 Rp mb n D rfl ((HI.out.map.alloc _).alloc _) (by unfold maxLen; omega) _ _ (.string l) rfl rfl hkey.out (.lit (.int .i64 _)) [] rfl ?_); intro w1 hown1 hgrow1; obtain ⟨c10, f10, hrow1, hs1, hb1, hb2, hold1⟩ := after_put HI.out _ _ w1 hgrow1; have HG1 := Lib.hid hgrow1; have HO1 := Lib.hid hown1; clear hb1 hb2 hold1 hgrow1 hown1) | (at_builtin; go_must (refine wpList_append_own_at _ rfl _ _ 64 rfl B 69 i0 (.pointer none) 1 8 Tryz.underlying64 hi hz0 hz1 hz2 rfl (by decide) _ _ _ rfl (hrow1.alloc _) ⟨_, 0, none⟩ 1 1 [_] rfl rfl (cell_one_new _ _ _) (by simp [Value.oneCell']) (by unfold maxLen; omega) (by omega) (by simp; omega) ?_); intro v' w2 hown2 hgrow2 hnil2 hloc2; obtain ⟨g', cap', rfl⟩ := ownsRow_succ hown2; obtain ⟨c20, f20, hs2, hb21, hb22, hold2⟩ := after_app HI.out _ _ w1 HG1.out _ w2 hgrow2; have c21 : w2.cell? ⟨w.heap.size + 1, 1, none⟩ = some (.iface 50 (ptrTo w.heap.size)) := (by rw [cell_at hb22]; rfl); have H2 := Lib.hid hown2; have HG2 := Lib.hid hgrow2; clear hb21 hb22 hold2 hown2 hloc2 hgrow2 hnil2))
  go_ret
  exact got_new HI.out l hl HNn.out 50 HM.out _ (fun c => by simp [clsOf, Good]) w1 HG1.out HO1.out _ w2 HG2.out g' cap' H2.out

/-- FETCHING IT: whether it is there or not. -/
theorem float_got {B N : Nat} {cls : Cls} {w : World} {sb : Nat} {es : List Ent} {av : Value} {mb : Nat} {D : DataW Unit} {n : Nat} (h : Inv B N cls w sb es av mb D n) (hN : N ≤ 1000) (l : List UInt8) (hl : l.length ≤ 100)
    (hmt : 50 = mtOf l) (hv : ∀ w, Calls Tryz.prog 36 #[.string ⟨l.toArray⟩] w fun e w' => e = .returned .nilIface ∧ w = w') :
    Calls Tryz.prog 22 #[ptrTo sb, .string ⟨l.toArray⟩] w (Got cls B N w sb l 50 es) := by
  by_cases hn : l ∈ names es
  · obtain ⟨x, hx, rfl⟩ := List.mem_map.1 hn
    obtain ⟨e1, e2, e3, e4⟩ := h.ents x hx
    have hxm : x.mt = 50 := e3.trans hmt.symm
    obtain ⟨v, ps, hrun, hrv⟩ := h.map.lookup law9 Tryz.underlying65 (zero69 w) (zd := .nil) (zp := []) rfl (key_of x.name (by unfold maxLen; omega))
    rw [h.knows.2 x hx] at hrv
    rw [Rp_lit_inv hrv] at hrun
    refine (float_there w sb mb x.nb x.mb x.name (by rw [cell_at h.body]; rfl) hrun (by rw [cell_at e1, ← hxm]; rfl)).mono ?_
    rintro e w' ⟨rfl, rfl⟩
    rw [← hxm]
    exact got_old h x hx
  · exact float_new h hN l hl hmt hv hn

theorem ta54 (v : Value) (w : World) : (Instr.typeAssert (.iface 54 v) 71 54 true).run Tryz.prog w = .ok (.tuple #[v, .bool true]) w := by
  simp [Instr.typeAssert, run_underlying Tryz.underlying54]

set_option maxHeartbeats 400000 in
set_option maxRecDepth 100000 in
theorem gauge_there (w : World) (sb mb nb xb : Nat) (l : List UInt8)
    (c1 : w.cell? ⟨sb, 1, none⟩ = some (.map (some mb))) (hlook : (Instr.lookup 65 (.map (some mb)) (.string ⟨l.toArray⟩) false).run Tryz.prog w = .ok (ptrTo nb) w)
    (c2 : w.cell? ⟨nb, 1, none⟩ = some (.iface 54 (ptrTo xb))) :
    Calls Tryz.prog 24 #[ptrTo sb, .string ⟨l.toArray⟩, .nilFunc] w fun e w' => e = .returned (ptrTo xb) ∧ w = w' := by
  have hta := ta54
  go_enter Tryz.func24, Tryz.ntmps24
  go_wp2
  go_ret
  exact ⟨rfl, rfl⟩

set_option maxHeartbeats 1000000 in
set_option maxRecDepth 100000 in
theorem gauge_new {B N : Nat} {cls : Cls} {w : World} {sb : Nat} {es : List Ent} {av : Value} {mb : Nat} {D : DataW Unit} {n : Nat} (h : Inv B N cls w sb es av mb D n) (hN : N ≤ 1000) (l : List UInt8) (hl : l.length ≤ 100)
    (hmt : 54 = mtOf l) (hv : ∀ w, Calls Tryz.prog 36 #[.string ⟨l.toArray⟩] w fun e w' => e = .returned .nilIface ∧ w = w') (hn : l ∉ names es) :
    Calls Tryz.prog 24 #[ptrTo sb, .string ⟨l.toArray⟩, .nilFunc] w (Got cls B N w sb l 54 es) := by
  have HV := Lib.hid hv
  have HM := Lib.hid hmt
  clear hv hmt
  have hml : l.length ≤ maxLen := by unfold maxLen; omega
  have hkey := Lib.hid (key_of l hml)
  have hnone := (h.knows.none hn).2
  have look : ∀ W : World, W.ownsMap Tryz.prog 9 Rp mb n D → (Instr.lookup 65 (.map (some mb)) (.string ⟨l.toArray⟩) false).run Tryz.prog W = .ok (.pointer none) W := by
    intro W hW
    obtain ⟨v, ps, hrun, hv⟩ := hW.lookup law9 Tryz.underlying65 (zero69 W) (zd := .nil) (zp := []) rfl hkey.out
    rw [hnone] at hv
    rw [hrun, Rp_nil_inv hv]
  have l0 := look w h.map
  have l1 : ∀ o1 o2, _ := fun o1 o2 => look ((w.alloc o1).alloc o2) ((h.map.alloc o1).alloc o2)
  have c1 : w.cell? ⟨sb, 1, none⟩ = some (.map (some mb)) := by rw [cell_at h.body]; rfl
  have hsb : sb < w.heap.size := lt_of_block h.body
  have hta := ta54
  have HI := Lib.hid h
  have HNn := Lib.hid hn
  have few := h.few
  have hbw := h.lt
  obtain ⟨i0, hi, hz0, hz1, hz2⟩ := info_parts info69
  clear h hnone look hn
  go_enter Tryz.func24, Tryz.ntmps24
  go_wp2_with (first | (go_at_call 36; refine (HV.out _).mono ?_; rintro e w' ⟨rfl, rfl⟩) | (at_mapUpdate; go_must (refine wpList_mapUpdate_own _ rfl _ _ _ 65 rfl 9 69 law9 Tryz.underlying65 Rp mb n D rfl ((HI.out.map.alloc _).alloc _) (by unfold maxLen; omega) _ _ (.string l) rfl rfl hkey.out (.lit (.int .i64 _)) [] rfl ?_); intro w1 hown1 hgrow1; obtain ⟨c10, f10, hrow1, hs1, hb1, hb2, hold1⟩ := after_put HI.out _ _ w1 hgrow1; have HG1 := Lib.hid hgrow1; have HO1 := Lib.hid hown1; clear hb1 hb2 hold1 hgrow1 hown1) | (at_builtin; go_must (refine wpList_append_own_at _ rfl _ _ 64 rfl B 69 i0 (.pointer none) 1 8 Tryz.underlying64 hi hz0 hz1 hz2 rfl (by decide) _ _ _ rfl (hrow1.alloc _) ⟨_, 0, none⟩ 1 1 [_] rfl rfl (cell_one_new _ _ _) (by simp [Value.oneCell']) (by unfold maxLen; omega) (by omega) (by simp; omega) ?_); intro v' w2 hown2 hgrow2 hnil2 hloc2; obtain ⟨g', cap', rfl⟩ := ownsRow_succ hown2; obtain ⟨c20, f20, hs2, hb21, hb22, hold2⟩ := after_app HI.out _ _ w1 HG1.out _ w2 hgrow2; have c21 : w2.cell? ⟨w.heap.size + 1, 1, none⟩ = some (.iface 54 (ptrTo w.heap.size)) := (by rw [cell_at hb22]; rfl); have H2 := Lib.hid hown2; have HG2 := Lib.hid hgrow2; clear hb21 hb22 hold2 hown2 hloc2 hgrow2 hnil2))
  go_ret
  exact got_new HI.out l hl HNn.out 54 HM.out _ (fun c => by simp [clsOf, Good]) w1 HG1.out HO1.out _ w2 HG2.out g' cap' H2.out

/-- FETCHING IT: whether it is there or not. -/
theorem gauge_got {B N : Nat} {cls : Cls} {w : World} {sb : Nat} {es : List Ent} {av : Value} {mb : Nat} {D : DataW Unit} {n : Nat} (h : Inv B N cls w sb es av mb D n) (hN : N ≤ 1000) (l : List UInt8) (hl : l.length ≤ 100)
    (hmt : 54 = mtOf l) (hv : ∀ w, Calls Tryz.prog 36 #[.string ⟨l.toArray⟩] w fun e w' => e = .returned .nilIface ∧ w = w') :
    Calls Tryz.prog 24 #[ptrTo sb, .string ⟨l.toArray⟩, .nilFunc] w (Got cls B N w sb l 54 es) := by
  by_cases hn : l ∈ names es
  · obtain ⟨x, hx, rfl⟩ := List.mem_map.1 hn
    obtain ⟨e1, e2, e3, e4⟩ := h.ents x hx
    have hxm : x.mt = 54 := e3.trans hmt.symm
    obtain ⟨v, ps, hrun, hrv⟩ := h.map.lookup law9 Tryz.underlying65 (zero69 w) (zd := .nil) (zp := []) rfl (key_of x.name (by unfold maxLen; omega))
    rw [h.knows.2 x hx] at hrv
    rw [Rp_lit_inv hrv] at hrun
    refine (gauge_there w sb mb x.nb x.mb x.name (by rw [cell_at h.body]; rfl) hrun (by rw [cell_at e1, ← hxm]; rfl)).mono ?_
    rintro e w' ⟨rfl, rfl⟩
    rw [← hxm]
    exact got_old h x hx
  · exact gauge_new h hN l hl hmt hv hn

theorem good_fresh (c : Cls) : Good c (clsOf 56) #[.pointer none, .pointer none, .pointer none, .pointer none, .pointer none, .pointer none, .pointer none, .pointer none, .pointer none, .pointer none, .pointer none, .pointer none, .pointer none, .pointer none, .pointer none, .pointer none, .pointer none, .pointer none, .pointer none, .pointer none, .pointer none, .pointer none, .pointer none, .pointer none, .pointer none, .pointer none, .pointer none, .int .u64 0, .int .u64 0, .float .f64 0] := by
  rw [show clsOf 56 = 61 from rfl, good_hist_iff]
  refine ⟨rfl, fun i hi => .inl ?_, ⟨0, rfl⟩, ⟨0, rfl⟩, ⟨0, rfl⟩⟩
  have e : ∀ k, k < 27 → (#[.pointer none, .pointer none, .pointer none, .pointer none, .pointer none, .pointer none, .pointer none, .pointer none, .pointer none, .pointer none, .pointer none, .pointer none, .pointer none, .pointer none, .pointer none, .pointer none, .pointer none, .pointer none, .pointer none, .pointer none, .pointer none, .pointer none, .pointer none, .pointer none, .pointer none, .pointer none, .pointer none, .int .u64 0, .int .u64 0, .float .f64 0] : Array Value)[k]? = some (.pointer none) := by
    intro k hk
    have : (#[.pointer none, .pointer none, .pointer none, .pointer none, .pointer none, .pointer none, .pointer none, .pointer none, .pointer none, .pointer none, .pointer none, .pointer none, .pointer none, .pointer none, .pointer none, .pointer none, .pointer none, .pointer none, .pointer none, .pointer none, .pointer none, .pointer none, .pointer none, .pointer none, .pointer none, .pointer none, .pointer none, .int .u64 0, .int .u64 0, .float .f64 0] : Array Value) = Array.replicate 27 (.pointer none) ++ #[.int .u64 0, .int .u64 0, .float .f64 0] := rfl
    rw [this, Array.getElem?_append_left (by simpa using hk), Array.getElem?_replicate, if_pos hk]
  exact e i hi

theorem ta56 (v : Value) (w : World) : (Instr.typeAssert (.iface 56 v) 71 56 true).run Tryz.prog w = .ok (.tuple #[v, .bool true]) w := by
  simp [Instr.typeAssert, run_underlying Tryz.underlying56]

set_option maxHeartbeats 400000 in
set_option maxRecDepth 100000 in
theorem hist_there (w : World) (sb mb nb xb : Nat) (l : List UInt8)
    (c1 : w.cell? ⟨sb, 1, none⟩ = some (.map (some mb))) (hlook : (Instr.lookup 65 (.map (some mb)) (.string ⟨l.toArray⟩) false).run Tryz.prog w = .ok (ptrTo nb) w)
    (c2 : w.cell? ⟨nb, 1, none⟩ = some (.iface 56 (ptrTo xb))) :
    Calls Tryz.prog 27 #[ptrTo sb, .string ⟨l.toArray⟩] w fun e w' => e = .returned (ptrTo xb) ∧ w = w' := by
  have hta := ta56
  go_enter Tryz.func27, Tryz.ntmps27
  go_wp2
  go_ret
  exact ⟨rfl, rfl⟩

set_option maxHeartbeats 1000000 in
set_option maxRecDepth 100000 in
theorem hist_new {B N : Nat} {cls : Cls} {w : World} {sb : Nat} {es : List Ent} {av : Value} {mb : Nat} {D : DataW Unit} {n : Nat} (h : Inv B N cls w sb es av mb D n) (hN : N ≤ 1000) (l : List UInt8) (hl : l.length ≤ 100)
    (hmt : 56 = mtOf l) (hv : ∀ w, Calls Tryz.prog 36 #[.string ⟨l.toArray⟩] w fun e w' => e = .returned .nilIface ∧ w = w') (hn : l ∉ names es) :
    Calls Tryz.prog 27 #[ptrTo sb, .string ⟨l.toArray⟩] w (Got cls B N w sb l 56 es) := by
  have HV := Lib.hid hv
  have HM := Lib.hid hmt
  clear hv hmt
  have hml : l.length ≤ maxLen := by unfold maxLen; omega
  have hkey := Lib.hid (key_of l hml)
  have hnone := (h.knows.none hn).2
  have look : ∀ W : World, W.ownsMap Tryz.prog 9 Rp mb n D → (Instr.lookup 65 (.map (some mb)) (.string ⟨l.toArray⟩) false).run Tryz.prog W = .ok (.pointer none) W := by
    intro W hW
    obtain ⟨v, ps, hrun, hv⟩ := hW.lookup law9 Tryz.underlying65 (zero69 W) (zd := .nil) (zp := []) rfl hkey.out
    rw [hnone] at hv
    rw [hrun, Rp_nil_inv hv]
  have l0 := look w h.map
  have l1 : ∀ o1 o2, _ := fun o1 o2 => look ((w.alloc o1).alloc o2) ((h.map.alloc o1).alloc o2)
  have c1 : w.cell? ⟨sb, 1, none⟩ = some (.map (some mb)) := by rw [cell_at h.body]; rfl
  have hsb : sb < w.heap.size := lt_of_block h.body
  have hta := ta56
  have HI := Lib.hid h
  have HNn := Lib.hid hn
  have few := h.few
  have hbw := h.lt
  obtain ⟨i0, hi, hz0, hz1, hz2⟩ := info_parts info69
  clear h hnone look hn
  go_enter Tryz.func27, Tryz.ntmps27
  go_wp2_with (first | (go_at_call 36; refine (HV.out _).mono ?_; rintro e w' ⟨rfl, rfl⟩) | (at_mapUpdate; go_must (refine wpList_mapUpdate_own _ rfl _ _ _ 65 rfl 9 69 law9 Tryz.underlying65 Rp mb n D rfl ((HI.out.map.alloc _).alloc _) (by unfold maxLen; omega) _ _ (.string l) rfl rfl hkey.out (.lit (.int .i64 _)) [] rfl ?_); intro w1 hown1 hgrow1; obtain ⟨c10, f10, hrow1, hs1, hb1, hb2, hold1⟩ := after_put HI.out _ _ w1 hgrow1; have HG1 := Lib.hid hgrow1; have HO1 := Lib.hid hown1; clear hb1 hb2 hold1 hgrow1 hown1) | (at_builtin; go_must (refine wpList_append_own_at _ rfl _ _ 64 rfl B 69 i0 (.pointer none) 1 8 Tryz.underlying64 hi hz0 hz1 hz2 rfl (by decide) _ _ _ rfl (hrow1.alloc _) ⟨_, 0, none⟩ 1 1 [_] rfl rfl (cell_one_new _ _ _) (by simp [Value.oneCell']) (by unfold maxLen; omega) (by omega) (by simp; omega) ?_); intro v' w2 hown2 hgrow2 hnil2 hloc2; obtain ⟨g', cap', rfl⟩ := ownsRow_succ hown2; obtain ⟨c20, f20, hs2, hb21, hb22, hold2⟩ := after_app HI.out _ _ w1 HG1.out _ w2 hgrow2; have c21 : w2.cell? ⟨w.heap.size + 1, 1, none⟩ = some (.iface 56 (ptrTo w.heap.size)) := (by rw [cell_at hb22]; rfl); have H2 := Lib.hid hown2; have HG2 := Lib.hid hgrow2; clear hb21 hb22 hold2 hown2 hloc2 hgrow2 hnil2))
  go_ret
  exact got_new HI.out l hl HNn.out 56 HM.out _ (good_fresh) w1 HG1.out HO1.out _ w2 HG2.out g' cap' H2.out

/-- FETCHING IT: whether it is there or not. -/
theorem hist_got {B N : Nat} {cls : Cls} {w : World} {sb : Nat} {es : List Ent} {av : Value} {mb : Nat} {D : DataW Unit} {n : Nat} (h : Inv B N cls w sb es av mb D n) (hN : N ≤ 1000) (l : List UInt8) (hl : l.length ≤ 100)
    (hmt : 56 = mtOf l) (hv : ∀ w, Calls Tryz.prog 36 #[.string ⟨l.toArray⟩] w fun e w' => e = .returned .nilIface ∧ w = w') :
    Calls Tryz.prog 27 #[ptrTo sb, .string ⟨l.toArray⟩] w (Got cls B N w sb l 56 es) := by
  by_cases hn : l ∈ names es
  · obtain ⟨x, hx, rfl⟩ := List.mem_map.1 hn
    obtain ⟨e1, e2, e3, e4⟩ := h.ents x hx
    have hxm : x.mt = 56 := e3.trans hmt.symm
    obtain ⟨v, ps, hrun, hrv⟩ := h.map.lookup law9 Tryz.underlying65 (zero69 w) (zd := .nil) (zp := []) rfl (key_of x.name (by unfold maxLen; omega))
    rw [h.knows.2 x hx] at hrv
    rw [Rp_lit_inv hrv] at hrun
    refine (hist_there w sb mb x.nb x.mb x.name (by rw [cell_at h.body]; rfl) hrun (by rw [cell_at e1, ← hxm]; rfl)).mono ?_
    rintro e w' ⟨rfl, rfl⟩
    rw [← hxm]
    exact got_old h x hx
  · exact hist_new h hN l hl hmt hv hn
end Go.Proofs.YtaphagdbekmngaaGreatDoor
