/- Steps as data: how they lie in memory, which names they bear, and which names are there behind them. -/
import Derived.Test.YtaphagdbekmngaaGreatDoorInv
import Derived.Test.YtaphagdbekmngaaGreatDoorVal
namespace Go.Proofs.YtaphagdbekmngaaGreatDoor
open Go.RowKit Go.Maps

structure St where
  kind : Nat
  name : List UInt8
  n : Int

def stCells (s : St) : List Value := [.int .i64 (s.kind : Int), .string ⟨s.name.toArray⟩, .int .i64 s.n]
def flat (sts : List St) : List Value := sts.flatMap stCells

def nameOf (a b : UInt8) : Option UInt8 → List UInt8
  | none => [a, b]
  | some d => [a, b, 123, 116, 61, 34, d, 34, 125]

def letterB (a : UInt8) : Prop := 97 ≤ (a.toNat : Int) ∧ (a.toNat : Int) ≤ 122
def digitB (d : UInt8) : Prop := 48 ≤ (d.toNat : Int) ∧ (d.toNat : Int) ≤ 57
def GoodName (l : List UInt8) : Prop := ∃ a b t, letterB a ∧ letterB b ∧ (∀ d, t = some d → digitB d) ∧ l = nameOf a b t

theorem good_validate {l : List UInt8} (h : GoodName l) (w : World) : Calls Tryz.prog 36 #[.string ⟨l.toArray⟩] w fun e w' => e = .returned .nilIface ∧ w = w' := by
  obtain ⟨a, b, t, ha, hb, ht, rfl⟩ := h
  cases t with
  | none => exact validate_two a b ha hb w
  | some d => exact validate_tag a b d ha hb (ht d rfl) w
theorem good_len {l : List UInt8} (h : GoodName l) : l.length ≤ 100 := by
  obtain ⟨a, b, t, ha, hb, ht, rfl⟩ := h
  cases t <;> simp [nameOf]

/-- The type of the pointer to the metric that a step of this kind asks for. -/
def mtKind (k : Nat) : Nat := if k ≤ 1 then 45 else if k = 2 then 50 else if k ≤ 4 then 54 else 56

structure StOk (s : St) : Prop where
  kind : s.kind ≤ 7
  name : GoodName s.name
  fits : s.kind ≠ 7 → mtKind s.kind = mtOf s.name
  n : -100 ≤ s.n ∧ s.n ≤ 255
  pos : s.kind = 5 ∨ s.kind = 6 → 0 ≤ s.n

def step1 (acc : List (List UInt8)) (s : St) : List (List UInt8) := if s.kind = 7 then acc.filter (· ≠ s.name) else if s.name ∈ acc then acc else acc ++ [s.name]
def after (sts : List St) : List (List UInt8) := sts.foldl step1 []

theorem after_take (sts : List St) (k : Nat) (hk : k < sts.length) : after (sts.take (k + 1)) = step1 (after (sts.take k)) sts[k] := by
  unfold after
  rw [List.take_add_one, List.getElem?_eq_getElem hk, List.foldl_append]
  rfl

theorem step1_nodup {acc : List (List UInt8)} (h : acc.Nodup) (s : St) : (step1 acc s).Nodup := by
  unfold step1
  split
  · exact h.filter _
  · split
    · exact h
    · rename_i hn
      rw [List.nodup_append]
      refine ⟨h, by simp, ?_⟩
      intro a ha b hb
      simp at hb
      rintro rfl
      exact hn (hb ▸ ha)

theorem after_nodup (sts : List St) : (after sts).Nodup := by
  have : ∀ (l : List St) (acc : List (List UInt8)), acc.Nodup → (l.foldl step1 acc).Nodup := by
    intro l
    induction l with
    | nil => intro acc h; exact h
    | cons s l ih => intro acc h; exact ih _ (step1_nodup h s)
  exact this sts [] List.nodup_nil

theorem flat_length (sts : List St) : (flat sts).length = sts.length * 3 := by
  induction sts with
  | nil => rfl
  | cons s l ih => simp only [flat, List.flatMap_cons, List.length_append] at ih ⊢; rw [ih]; simp [stCells]; omega

theorem flat_get (sts : List St) (k : Nat) (hk : k < sts.length) : (flat sts)[k * 3]? = some (.int .i64 (sts[k].kind : Int)) ∧ (flat sts)[k * 3 + 1]? = some (.string ⟨sts[k].name.toArray⟩) ∧ (flat sts)[k * 3 + 2]? = some (.int .i64 sts[k].n) := by
  induction sts generalizing k with
  | nil => simp at hk
  | cons s l ih =>
    have e : flat (s :: l) = stCells s ++ flat l := rfl
    rw [e]
    cases k with
    | zero => exact ⟨rfl, rfl, rfl⟩
    | succ k =>
      have hk' : k < l.length := by simpa using hk
      obtain ⟨h1, h2, h3⟩ := ih k hk'
      have hl : (stCells s).length = 3 := rfl
      refine ⟨?_, ?_, ?_⟩
      · rw [List.getElem?_append_right (by rw [hl]; omega), hl, show (k + 1) * 3 - 3 = k * 3 by omega, h1]; rfl
      · rw [List.getElem?_append_right (by rw [hl]; omega), hl, show (k + 1) * 3 + 1 - 3 = k * 3 + 1 by omega, h2]; rfl
      · rw [List.getElem?_append_right (by rw [hl]; omega), hl, show (k + 1) * 3 + 2 - 3 = k * 3 + 2 by omega, h3]; rfl

/-- Steps in memory: a slice of them, nil or over a row of its own. -/
def StepsAt (w : World) (base : Nat) (v : Value) (sts : List St) : Prop := w.ownsRow base 31 3 v sts.length (flat sts)

theorem StepsAt.cells {w : World} {base : Nat} {v : Value} {sts : List St} (h : StepsAt w base v sts) (k : Nat) (hk : k < sts.length) : ∃ g cap, v = .slice (some ⟨g, 0, none⟩) sts.length cap ∧ g < w.heap.size ∧ base ≤ g ∧ sts.length ≤ cap ∧ cap ≤ maxLen ∧
    w.cell? ⟨g, k * 3, none⟩ = some (.int .i64 (sts[k].kind : Int)) ∧ w.cell? ⟨g, k * 3 + 1, none⟩ = some (.string ⟨sts[k].name.toArray⟩) ∧ w.cell? ⟨g, k * 3 + 2, none⟩ = some (.int .i64 sts[k].n) := by
  rcases h.2 with ⟨_, h0⟩ | ⟨g, cap, cur, rfl, hb, hg, hn, hcm, hcs, ht⟩
  · omega
  · obtain ⟨f1, f2, f3⟩ := flat_get sts k hk
    have key : ∀ j u, (flat sts)[j]? = some u → w.cell? ⟨g, j, none⟩ = some u := by
      intro j u hu
      rw [cell_at hg]
      rw [← ht, List.getElem?_take] at hu
      split at hu
      · simpa using hu
      · cases hu
    exact ⟨g, cap, rfl, lt_of_block hg, hb, hn, hcm, key _ _ f1, key _ _ f2, key _ _ f3⟩
end Go.Proofs.YtaphagdbekmngaaGreatDoor
