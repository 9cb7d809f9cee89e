/-
  For all arguments of 64 bits AddAll of the thin package returns what the reference returns and leaves its argument as it was: the law FnExactAddAll returns true and changes nothing.
-/
import Derived.Test.YtgcbgoninaobjaaRows
import Derived.Test.YtgcbgoninaobjaaLaw
import Derived.Test.YtgcbgoninaobjaaRow
import Derived.Test.YtgcbgoninaobjaaListS
import Derived.Test.YtgcbgoninaobjaaListI
import Derived.Test.YtgcbgoninaobjaaCopy
import Derived.WalkKit
import Derived.ProofKit
import Derived.OpenShut
import Derived.ShutString
import Derived.ChangeOld
import Derived.Below
namespace Go.Proofs.Ytgcbgoninaobjaa.fnExactAddAll
open Go.ChangeShapes Go.WideShapes Go.ChangeAt Go.RowKit
set_option linter.unusedVariables false

theorem own : ownKnob Try.prog.godebug = none := by kernel_rfl
theorem laidOut : laidOutB Try.prog = true := by kernel_rfl

set_option maxHeartbeats 4000000 in
theorem walk (s0 : Option Addr) (len0 cap0 : Nat) (z0 : List Int) (w : World) (h0 : IsRow .i64 w s0 len0 cap0 z0) :
    Calls Try.prog 11 #[.slice s0 len0 cap0] w fun e w' => e = .returned (.bool true) ∧ Below w.heap.size w w' := by
  obtain ⟨xs, rfl, hh, hI, hc⟩ := row_held h0
  have HI := Lib.hid hI
  clear hI h0
  by_cases c : 1048576 < xs.length
  · have c' : (1048576 : Int) < (xs.length : Int) := by omega
    have hB0 : Below w.heap.size w w := Below.refl _ w
    go_enter Try.func11, Try.ntmps11
    go_wp2
    go_ret
    exact ⟨rfl, hB0⟩
  have hl : xs.length ≤ 4194304 := by omega
  have c' : ¬ (1048576 : Int) < (xs.length : Int) := by omega
  obtain ⟨f, F⟩ : ∃ f, Hid (f = Plain.cl (Plain.tot xs)) := ⟨_, Lib.hid rfl⟩
  obtain ⟨r, R⟩ : ∃ r, Hid (r = Plain.p2 (Plain.tot xs)) := ⟨_, Lib.hid rfl⟩
  clear c
  go_enter Try.func11, Try.ntmps11
  go_wp2_with fail
  refine (toS_any xs s0 cap0 _ hh hl).mono ?_
  rintro e w1 ⟨g1, rfl, k1, hb1⟩
  go_wp2_with fail
  refine (Sp.addAll_any xs (some ⟨g1, 0, none⟩) xs.length f r _ k1 hl HI.out F.out R.out).mono ?_
  rintro e w2 ⟨rfl, hb2⟩
  have hB2 : Below w.heap.size w w2 := hb1.trans (hb2.mono hb1.size)
  clear k1 hb1 hb2
  go_wp2_with fail
  refine (toS_any xs s0 cap0 _ (hh.kept hB2) hl).mono ?_
  rintro e w3 ⟨g3, rfl, k3, hb3⟩
  go_wp2_with fail
  refine (addAll_any xs (some ⟨g3, 0, none⟩) xs.length f r _ k3 hl HI.out F.out R.out).mono ?_
  rintro e w4 ⟨rfl, hb4⟩
  have hB4 : Below w.heap.size w w4 := (hB2.trans (hb3.mono hB2.size)).trans (hb4.mono (Nat.le_trans hB2.size hb3.size))
  have k4 := k3.kept hb4
  clear k3 hb3 hb4 hB2
  go_wp2_with fail
  refine (toS_any xs s0 cap0 _ (hh.kept hB4) hl).mono ?_
  rintro e w5 ⟨g5, rfl, k5, hb5⟩
  have k6 := k4.kept hb5
  go_wp2_with fail
  refine (eqS_any xs (some ⟨g3, 0, none⟩) (some ⟨g5, 0, none⟩) xs.length xs.length _ k6 k5 hl).mono ?_
  rintro e w6 ⟨rfl, hb6⟩
  have hB6 : Below w.heap.size w w6 := (hB4.trans (hb5.mono hB4.size)).trans (hb6.mono (Nat.le_trans hB4.size hb5.size))
  clear k4 k5 k6 hb5 hb6 hB4
  go_wp2
  go_ret
  exact ⟨rfl, hB6⟩

set_option maxRecDepth 100000 in
theorem lifted (os : Os) (started : os.Started) (H : Type) (enc : TypeId × Value → H) :
    ReturnsInHanded {} Try.checked os 11 .any (Rows.fnExactAddAllSpec.pre6 enc Try.prog Try.f11 Rows.fnExactAddAllRow.domain false) (Rows.fnExactAddAllSpec.post enc Try.prog Try.f11 false true false false) := by
  refine returnsInHanded_of_change (C := Try.checked) own started (by kernel_rfl) Try.func11
    (ChangeSpec.witness6 (enc := enc) (C := Try.checked) false ⟨#[], #[.slice none 0 0], []⟩ 8 (by kernel_rfl) (by kernel_rfl) (by kernel_rfl) (by kernel_rfl)) ?_
  intro W base args ds gs before hval0 hW hcnd _
  have hval : ∀ (j : Nat) t v, Try.f11.params[j]? = some t → args[j]? = some v → Value.okWide Try.prog W .any base t v := hval0
  have hW' := hW
  obtain ⟨p, q, hA0, hV, rfl, hfz, hnd⟩ := hW
  have hA : DataW.TrodAll enc Try.prog W 0 (fun _ => true) true Try.f11.params.toList args.toList ds p := hA0
  rw [Try.params11] at hA hval
  obtain ⟨v0, vs0, d0, ds0, p0, q0, hargs, rfl, rfl, h0, r0⟩ := trodAll_cons hA
  obtain ⟨rfl, rfl, rfl⟩ := trodAll_nil r0
  obtain rfl : args = #[v0] := by cases args; simp_all
  obtain ⟨rfl, rfl⟩ := trodVars_none hV
  obtain ⟨s0, len0, cap0, rfl⟩ := okWide_slice Try.underlying27 (hval 0 27 v0 rfl rfl)
  have t0 := h0
  have lt0 : ∀ x ∈ p0, x.block < W.heap.size := by obtain ⟨m, hm⟩ := t0; exact DataW.trod_lt m _ _ _ hm
  obtain ⟨z0, w0⟩ : ∃ zs, IsRow .i64 W s0 len0 cap0 zs := by
    obtain ⟨fuel, hf⟩ := h0
    rcases open_ints Try.underlying27 Try.underlying2 (by kernel_rfl) hf with ⟨hcs, _⟩ | ⟨x, l, c, zs, hcs, _, hl, hm, hz, _, hcell, hwz⟩
    · simp [Value.cells] at hcs
      obtain ⟨rfl, rfl, rfl⟩ := hcs
      exact ⟨[], .inl ⟨rfl, rfl, rfl, rfl⟩⟩
    · simp [Value.cells] at hcs
      obtain ⟨rfl, rfl, rfl⟩ := hcs
      exact ⟨zs, .inr ⟨_, rfl, hl, hm, by simpa using hz, hcell, hwz⟩⟩
  clear hA0 hval0
  refine (walk s0 len0 cap0 z0 W w0).mono fun e W' ⟨he, bel⟩ => ?_
  subst he
  exact ⟨_, rfl, _, _, _, [], _, [], hW', trodAll_mk1 (shut_bool Try.underlying4 _), (trodAll_cons_mk (Below.trod laidOut (by kernel_rfl) (of_decide_eq_true (by kernel_rfl)) t0 bel lt0) trodAll_mk0), rfl, bel.frame _, fun h => by cases h⟩

theorem proved : Rows.FnExactAddAllSaid :=
  OpenClaim.holds_of_wide 11 Try.f11 rfl rfl rfl rfl rfl rfl rfl ⟨rfl, rfl, rfl, rfl, rfl⟩ rfl rfl rfl rfl rfl (by kernel_rfl) Try.func11 (by kernel_rfl)
    (of_decide_eq_true (by kernel_rfl)) (by unfold Func.isWrapper; first | (rw [if_pos (by decide +kernel)]; kernel_rfl) | (rw [if_neg (by decide +kernel)]; exact ⟨rfl, rfl⟩))
    (fun os started H enc _ => lifted os started H enc)
#print axioms proved
end Go.Proofs.Ytgcbgoninaobjaa.fnExactAddAll
