/-
  Lists of durations that the call itself makes by append.
-/
import Derived.Test.YtgcbgoninaobjaaSum
import Derived.Test.YtgcbgoninaobjaaProg
import Derived.WalkKit
import Derived.WalkSpells
import Derived.Laws.AppendOwnNone
import Derived.Lib.Hide
import Derived.KernelRfl
namespace Go.Proofs.Ytgcbgoninaobjaa
open Go.RowKit

theorem info64' : (Try.prog.info? 2).map (fun i => (i.zero, i.size, i.bytes)) = some (some (.int .i64 0), 1, 8) := by kernel_rfl

/-- A row of the call's own that holds a list, as a slice's value. -/
theorem own_form {w : World} {base : Nat} {e : TypeId} {v : Value} {n : Nat} {xs : List Int} (h : w.ownsRow base e 1 v n (xs.map (Value.int .i64))) :
    xs.length = n ∧ ((v = .slice none 0 0 ∧ xs = []) ∨ ∃ g cap : Nat, v = .slice (some ⟨g, 0, none⟩) n cap ∧ base ≤ g ∧ g < w.heap.size ∧ Held w (some ⟨g, 0, none⟩) xs) := by
  have hl : xs.length = n := by have := h.1; simpa using this
  refine ⟨hl, ?_⟩
  rcases h.2 with ⟨h1, h2⟩ | ⟨g, cap, cur, h1, hb, hg, _⟩
  · exact .inl ⟨h1, List.eq_nil_of_length_eq_zero (hl.trans h2)⟩
  · subst h1
    have hlt := (h.lt g rfl).2
    refine .inr ⟨g, cap, rfl, hb, hlt, .inr ⟨g, 0, rfl, hlt, fun i hi => ?_⟩⟩
    rw [Nat.zero_add, h.cellAt i (by omega)]
    simp [List.getD, hi]

/-- The cells of a list that came in, as the law on append wants them. -/
theorem news_of {w : World} {b o : Nat} {xs : List Int} (hc : ∀ i, i < xs.length → w.cell? ⟨b, o + i, none⟩ = some (.int .i64 (xs.getD i 0))) :
    ∀ j u, (xs.map (Value.int .i64))[j]? = some u → w.cell? ((⟨b, o, none⟩ : Addr).add j) = some u := by
  intro j u hj
  have hjl : j < xs.length := by
    have := List.getElem?_eq_some_iff.1 hj
    simpa using this.1
  have e : u = .int .i64 (xs.getD j 0) := by
    simp [hjl] at hj
    simp [List.getD, hjl, hj]
  by_cases h0 : j = 0
  · subst h0; rw [e]; have := hc 0 hjl; simpa [Addr.add] using this
  · rw [e]; have := hc j hjl; simpa [Addr.add, h0] using this

theorem one_cells (xs : List Int) : ∀ u ∈ xs.map (Value.int .i64), u.oneCell' = true := by
  intro u hu
  obtain ⟨x, _, rfl⟩ := List.mem_map.1 hu
  rfl

/-- One element, laid in a new block. -/
theorem news_one (w : World) (x : Int) (e : TypeId) : ∀ j u, ([x].map (Value.int .i64))[j]? = some u → (w.alloc (.cells #[.int .i64 x] e)).cell? ((⟨w.heap.size, 0, none⟩ : Addr).add j) = some u := by
  intro j u hj
  match j, hj with
  | 0, hj => simp at hj; subst hj; simp [Addr.add]

end Go.Proofs.Ytgcbgoninaobjaa
