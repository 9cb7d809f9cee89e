/-
  The statements' own helpers: toInt64S copies a list, eqInt64S compares two lists.
-/
import Derived.Test.YtgcbgoninaobjaaSum
import Derived.Test.YtgcbgoninaobjaaProg
import Derived.WalkKit
import Derived.WalkSpells
import Derived.WalkLawsBesides
import Derived.Deep.QuietTactic
import Derived.BigQuiet
import Derived.Lib.Hide
import Derived.KernelRfl
namespace Go.Proofs.Ytgcbgoninaobjaa
open Go.RowKit
set_option linter.unusedVariables false

theorem info64 : (Try.prog.info? 2).map (fun i => (i.zero, i.size, i.bytes)) = some (some (.int .i64 0), 1, 8) := by kernel_rfl

/-- A list that is told by the cells of a row of the call's own. -/
theorem held_of_own {w : World} {base : Nat} {e : TypeId} {g n cap : Nat} {ys : List Value} {ts : List Int} (h : w.ownsRow base e 1 (.slice (some ⟨g, 0, none⟩) n cap) n ys) (hn : ts.length = n)
    (hy : ∀ j, j < n → ys[j]? = some (.int .i64 (ts.getD j 0))) : Held w (some ⟨g, 0, none⟩) ts := by
  refine .inr ⟨g, 0, rfl, (h.lt g rfl).2, fun i hi => ?_⟩
  rw [Nat.zero_add, h.cellAt i (by omega)]
  exact hy i (by omega)

/-- What toInt64S leaves: a new list, equal to the given one. -/
def ToRet (xs : List Int) (w : World) (e : Ending) (w' : World) : Prop := ∃ g : Nat, e = .returned (.slice (some ⟨g, 0, none⟩) xs.length xs.length) ∧ Held w' (some ⟨g, 0, none⟩) xs ∧ Below w.heap.size w w'

set_option maxHeartbeats 2000000 in
theorem toS_row (xs : List Int) (b o cap : Nat) (w : World) (hw : b < w.heap.size) (hc : ∀ i, i < xs.length → w.cell? ⟨b, o + i, none⟩ = some (.int .i64 (xs.getD i 0))) (hl : xs.length ≤ 4194304) :
    Calls Try.prog 24 #[.slice (some ⟨b, o, none⟩) xs.length cap] w (ToRet xs w) := by
  obtain ⟨i0, hi, hz0, hz1, hz2⟩ := info_parts info64
  have C := Lib.hid hc
  clear hc
  have hbig : i0.bytes * xs.length ≤ 281474976710656 := by rw [hz2]; omega
  have hml : xs.length ≤ maxLen := by unfold maxLen; omega
  go_enter Try.func24, Try.ntmps24
  go_wp2_with (at_make; refine wpList_make_full _ rfl _ _ 27 rfl w.heap.size 2 i0 (.int .i64 0) 1 Try.underlying27 hi hz0 hz1 .i64 .i64 _ _ xs.length rfl rfl rfl rfl hbig hml (Nat.le_refl _) ?_; intro w1 hown hgrow)
  go_loopw [4] (fun i wr => ∃ (k : Nat) (ys : List Value), k ≤ xs.length ∧ i = .int .i64 k ∧ ys.length = xs.length ∧ (∀ j, j < k → ys[j]? = some (.int .i64 (xs.getD j 0))) ∧ wr.ownsRow w.heap.size 2 1 (.slice (some ⟨w.heap.size, 0, none⟩) xs.length xs.length) xs.length ys ∧ Below w.heap.size w wr)
    (fun i _ => xs.length - (intOf i).toNat)
  case atStart => exact ⟨0, _, Nat.zero_le _, rfl, by simp [size_madeCells], fun j hj => absurd hj (Nat.not_lt_zero j), hown, (Below.refl _ _).grown hgrow (Nat.le_refl _) (fun k hk => by cases hk)⟩
  case round =>
    obtain ⟨k, ys, hk, rfl, hyl, hys, hown', hB⟩ := hrel
    have Y := Lib.hid hys
    have YL := Lib.hid hyl
    have O := Lib.hid hown'
    clear hys hyl hown' hown hgrow
    by_cases hlen : k < xs.length
    · obtain ⟨x, hxk⟩ : ∃ x, x = xs.getD k 0 := ⟨_, rfl⟩
      have hcell : wr.cell? ⟨b, o + k, none⟩ = some (.int .i64 x) := hxk ▸ (hB.cell (p := ⟨b, o + k, none⟩) hw).trans (C.out k hlen)
      obtain ⟨old, hold⟩ : ∃ old, wr.cell? ⟨w.heap.size, k, none⟩ = some old := ⟨_, (O.out.cellAt k (by omega)).trans (List.getElem?_eq_getElem (by rw [YL.out]; exact hlen))⟩
      have hfz : wr.frozen? ⟨w.heap.size, k, none⟩ = false := O.out.frozenAt k
      have XK := Lib.hid hxk
      clear hxk
      go_wp2
      go_roundw
      case rel =>
        refine ⟨k + 1, ys.set k (.int .i64 x), by omega, by go_num, by rw [List.length_set]; exact YL.out, fun j hj => ?_, (O.out.stored k _).1, hB.setCell (Nat.le_refl _) _⟩
        by_cases hjk : j = k
        · subst hjk; rw [List.getElem?_set_self (by rw [YL.out]; exact hlen), XK.out]
        · rw [List.getElem?_set_ne (fun e => hjk e.symm)]; exact Y.out j (by omega)
      case measure => simp [intOf]; omega
    · obtain rfl : k = xs.length := by omega
      go_wp2
      go_ret
      exact ⟨w.heap.size, rfl, held_of_own O.out rfl Y.out, hB⟩

set_option maxHeartbeats 2000000 in
theorem toS_nil (a : Option Addr) (cap : Nat) (w : World) :
    Calls Try.prog 24 #[.slice a 0 cap] w (ToRet [] w) := by
  obtain ⟨i0, hi, hz0, hz1, hz2⟩ := info_parts info64
  have hml : 0 ≤ maxLen := Nat.zero_le _
  go_enter Try.func24, Try.ntmps24
  go_wp2_with (at_make; refine wpList_make_full _ rfl _ _ 27 rfl w.heap.size 2 i0 (.int .i64 0) 1 Try.underlying27 hi hz0 hz1 .i64 .i64 _ _ 0 rfl rfl rfl rfl (by simp) hml (Nat.le_refl _) ?_; intro w1 hown hgrow)
  refine wp_loop_rounds 1 ?_
  rw [rounds_succ]
  go_wp2
  go_ret
  exact ⟨w.heap.size, rfl, .inl rfl, (Below.refl _ _).grown hgrow (Nat.le_refl _) (fun k hk => by cases hk)⟩

theorem toS_any (xs : List Int) (a : Option Addr) (cap : Nat) (w : World) (h : Held w a xs) (hl : xs.length ≤ 4194304) :
    Calls Try.prog 24 #[.slice a xs.length cap] w (ToRet xs w) := by
  rcases h with rfl | ⟨b, o, rfl, hw, hc⟩
  · exact toS_nil a cap w
  · exact toS_row xs b o cap w hw hc hl

set_option maxHeartbeats 2000000 in
theorem eqS_row (xs : List Int) (b o cap b' o' cap' : Nat) (w : World) (hc : ∀ i, i < xs.length → w.cell? ⟨b, o + i, none⟩ = some (.int .i64 (xs.getD i 0))) (hc' : ∀ i, i < xs.length → w.cell? ⟨b', o' + i, none⟩ = some (.int .i64 (xs.getD i 0))) (hw : b < w.heap.size) (hw' : b' < w.heap.size) (hl : xs.length ≤ 4194304) :
    Calls Try.prog 25 #[.slice (some ⟨b, o, none⟩) xs.length cap, .slice (some ⟨b', o', none⟩) xs.length cap'] w fun e w' => e = .returned (.bool true) ∧ Below w.heap.size w w' := by
  have C := Lib.hid hc
  have C' := Lib.hid hc'
  clear hc hc'
  go_enter Try.func25, Try.ntmps25
  go_wp2
  go_loopw [5] (fun i wr => ∃ k : Nat, k ≤ xs.length ∧ i = .int .i64 k ∧ Below w.heap.size w wr) (fun i _ => xs.length - (intOf i).toNat)
  case atStart => exact ⟨0, Nat.zero_le _, rfl, Below.refl _ _⟩
  case round =>
    obtain ⟨k, hk, rfl, hB⟩ := hrel
    by_cases hlen : k < xs.length
    · obtain ⟨x, hxk⟩ : ∃ x, x = xs.getD k 0 := ⟨_, rfl⟩
      have hcell : wr.cell? ⟨b, o + k, none⟩ = some (.int .i64 x) := hxk ▸ (hB.cell (p := ⟨b, o + k, none⟩) hw).trans (C.out k hlen)
      have hcell' : wr.cell? ⟨b', o' + k, none⟩ = some (.int .i64 x) := hxk ▸ (hB.cell (p := ⟨b', o' + k, none⟩) hw').trans (C'.out k hlen)
      have bi : (k : Int) < (xs.length : Int) := by omega
      clear hxk
      go_wp2
      go_quiet (fail)
      go_wp2
      go_roundw
      case rel => exact ⟨k + 1, by omega, by go_num, below_drewN hB _⟩
      case measure => simp [intOf]; omega
    · go_wp2
      go_ret
      exact ⟨rfl, hB⟩

set_option maxHeartbeats 2000000 in
theorem eqS_nil (a a' : Option Addr) (cap cap' : Nat) (w : World) :
    Calls Try.prog 25 #[.slice a 0 cap, .slice a' 0 cap'] w fun e w' => e = .returned (.bool true) ∧ Below w.heap.size w w' := by
  go_enter Try.func25, Try.ntmps25
  go_wp2
  refine wp_loop_rounds 1 ?_
  rw [rounds_succ]
  go_wp2
  go_ret
  exact ⟨rfl, Below.refl _ _⟩

theorem eqS_any (xs : List Int) (a a' : Option Addr) (cap cap' : Nat) (w : World) (h : Held w a xs) (h' : Held w a' xs) (hl : xs.length ≤ 4194304) :
    Calls Try.prog 25 #[.slice a xs.length cap, .slice a' xs.length cap'] w fun e w' => e = .returned (.bool true) ∧ Below w.heap.size w w' := by
  rcases h with rfl | ⟨b, o, rfl, hw, hc⟩
  · exact eqS_nil a a' cap cap' w
  · rcases h' with rfl | ⟨b', o', rfl, hw', hc'⟩
    · exact eqS_nil _ _ cap cap' w
    · exact eqS_row xs b o cap b' o' cap' w hc hc' hw hw' hl

end Go.Proofs.Ytgcbgoninaobjaa
