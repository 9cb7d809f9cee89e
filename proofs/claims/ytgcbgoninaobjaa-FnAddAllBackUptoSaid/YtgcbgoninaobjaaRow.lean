/-
  A slice of durations that came in, as a list.
-/
import Derived.Test.YtgcbgoninaobjaaLaw
import Derived.Test.YtgcbgoninaobjaaSum
namespace Go.Proofs.Ytgcbgoninaobjaa
open Go.RowKit

theorem row_held {w : World} {a : Option Addr} {len cap : Nat} {zs : List Int} (h : IsRow .i64 w a len cap zs) :
    ∃ xs : List Int, xs.length = len ∧ Held w a xs ∧ (∀ x ∈ xs, Plain.I64 x) ∧ len ≤ cap := by
  rcases h with ⟨rfl, rfl, rfl, rfl⟩ | ⟨x, rfl, hl, hm, hz, hcell, hwz⟩
  · exact ⟨[], rfl, .inl rfl, by simp, Nat.le_refl _⟩
  · have hlen : (zs.take len).length = len := by rw [List.length_take]; omega
    refine ⟨zs.take len, hlen, ?_, fun y hy => i64_of_wf (hwz y (List.mem_of_mem_take hy)), hl⟩
    by_cases h0 : len = 0
    · subst h0; exact .inl (by simp)
    · obtain ⟨b, off, spot⟩ := x
      have hc := hcell 0 (by omega)
      have hspot : spot = none := by simpa [Addr.add] using World.cell?_spot hc
      subst hspot
      have hc0 : w.cell? ⟨b, off, none⟩ = some (.int .i64 (zs.getD 0 0)) := by simpa [Addr.add] using hc
      refine .inr ⟨b, off, rfl, World.block_lt_of_cell? _ _ hc0, fun i hi => ?_⟩
      have e : (zs.take len).getD i 0 = zs.getD i 0 := by simp [List.getD, show i < len by omega]
      rw [e]
      by_cases hi0 : i = 0
      · subst hi0; exact hc0
      · have := hcell i (by omega)
        simpa [Addr.add, hi0] using this

end Go.Proofs.Ytgcbgoninaobjaa
