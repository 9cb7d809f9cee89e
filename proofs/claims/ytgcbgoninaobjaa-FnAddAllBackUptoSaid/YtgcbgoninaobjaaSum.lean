/-
  Sums of lists of durations, and a slice of durations in memory.
-/
import Derived.Test.YtgcbgoninaobjaaPlain
import Derived.WalkKit
namespace Go.Proofs.Ytgcbgoninaobjaa
open Go.RowKit
namespace Plain

/-- The sum of a list of durations. -/
def tot : List Int → Int
  | [] => 0
  | x :: r => x + tot r
theorem tot_append (l r : List Int) : tot (l ++ r) = tot l + tot r := by
  induction l with
  | nil => simp [tot]
  | cons x l ih => simp only [List.cons_append, tot, ih]; omega
theorem tot_reverse (l : List Int) : tot l.reverse = tot l := by
  induction l with
  | nil => rfl
  | cons x l ih => simp only [List.reverse_cons, tot_append, ih, tot]; omega
theorem tot_take_succ (l : List Int) (k : Nat) (h : k < l.length) : tot (l.take (k + 1)) = tot (l.take k) + l.getD k 0 := by
  have e : l.getD k 0 = l[k] := by simp [List.getD, h]
  rw [List.take_succ_eq_append_getElem h, tot_append, e]
  simp [tot]
theorem tot_bd (l : List Int) (h : ∀ x ∈ l, I64 x) : -9223372036854775808 * (l.length : Int) ≤ tot l ∧ tot l ≤ 9223372036854775808 * (l.length : Int) := by
  induction l with
  | nil => simp [tot]
  | cons x l ih =>
    have h1 := ih fun y hy => h y (List.mem_cons_of_mem _ hy)
    have h2 := h x List.mem_cons_self
    unfold I64 at h2
    simp only [tot, List.length_cons]
    omega
theorem far_tot (l : List Int) (h : ∀ x ∈ l, I64 x) (hl : l.length ≤ 4194304) : Far (tot l) := by
  have := tot_bd l h
  unfold Far
  omega
theorem far_take (l : List Int) (k : Nat) (h : ∀ x ∈ l, I64 x) (hl : l.length ≤ 4194304) : Far (tot (l.take k)) :=
  far_tot _ (fun x hx => h x (List.mem_of_mem_take hx)) (by have := List.length_take_le k l; have := List.length_take_le' k l; omega)
theorem i64_getD (l : List Int) (k : Nat) (h : ∀ x ∈ l, I64 x) : I64 (l.getD k 0) := by
  by_cases hk : k < l.length
  · have e : l.getD k 0 = l[k] := by simp [List.getD, hk]
    rw [e]; exact h _ (List.getElem_mem hk)
  · have e : l.getD k 0 = 0 := by simp [List.getD, hk]
    rw [e]; unfold I64; omega

end Plain

theorem put2 {w : World} {g : Nat} {x0 x1 : Value} (v0 v1 : Value) (c0 : w.cell? ⟨g, 0, none⟩ = some x0) (c1 : w.cell? ⟨g, 1, none⟩ = some x1) :
    ((w.setCell ⟨g, 0, none⟩ v0).setCell ⟨g, 1, none⟩ v1).cell? ⟨g, 0, none⟩ = some v0 ∧ ((w.setCell ⟨g, 0, none⟩ v0).setCell ⟨g, 1, none⟩ v1).cell? ⟨g, 1, none⟩ = some v1 := by
  constructor
  · rw [World.cell?_setCell_other _ _ _ _ (by simp)]; exact World.cell?_setCell_same _ _ _ c0
  · exact World.cell?_setCell_same _ _ _ (u := x1) (by rw [World.cell?_setCell_other _ _ _ _ (by simp)]; exact c1)

theorem put3 {w : World} {g : Nat} {x0 x1 x2 : Value} (v0 v1 v2 : Value) (c0 : w.cell? ⟨g, 0, none⟩ = some x0) (c1 : w.cell? ⟨g, 1, none⟩ = some x1) (c2 : w.cell? ⟨g, 2, none⟩ = some x2) :
    (((w.setCell ⟨g, 0, none⟩ v0).setCell ⟨g, 1, none⟩ v1).setCell ⟨g, 2, none⟩ v2).cell? ⟨g, 0, none⟩ = some v0 ∧ (((w.setCell ⟨g, 0, none⟩ v0).setCell ⟨g, 1, none⟩ v1).setCell ⟨g, 2, none⟩ v2).cell? ⟨g, 1, none⟩ = some v1 ∧ (((w.setCell ⟨g, 0, none⟩ v0).setCell ⟨g, 1, none⟩ v1).setCell ⟨g, 2, none⟩ v2).cell? ⟨g, 2, none⟩ = some v2 := by
  have h := put2 v0 v1 c0 c1
  refine ⟨?_, ?_, ?_⟩
  · rw [World.cell?_setCell_other _ _ _ _ (by simp)]; exact h.1
  · rw [World.cell?_setCell_other _ _ _ _ (by simp)]; exact h.2
  · exact World.cell?_setCell_same _ _ _ (u := x2) (by rw [World.cell?_setCell_other _ _ _ _ (by simp), World.cell?_setCell_other _ _ _ _ (by simp)]; exact c2)

/-- A slice of durations in memory: it is empty, or its cells lie there. -/
def Held (w : World) (a : Option Addr) (xs : List Int) : Prop :=
  xs = [] ∨ ∃ b o : Nat, a = some ⟨b, o, none⟩ ∧ b < w.heap.size ∧ ∀ i, i < xs.length → w.cell? ⟨b, o + i, none⟩ = some (.int .i64 (xs.getD i 0))

theorem Held.kept {w w' : World} {a : Option Addr} {xs : List Int} (h : Held w a xs) (hb : Below w.heap.size w w') : Held w' a xs := by
  rcases h with h | ⟨b, o, e, hl, hc⟩
  · exact .inl h
  · exact .inr ⟨b, o, e, Nat.lt_of_lt_of_le hl hb.size, fun i hi => (hb.cell (p := ⟨b, o + i, none⟩) hl).trans (hc i hi)⟩

end Go.Proofs.Ytgcbgoninaobjaa
