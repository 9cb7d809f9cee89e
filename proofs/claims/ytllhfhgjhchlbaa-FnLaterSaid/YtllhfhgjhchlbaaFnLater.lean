/-
  For all arguments of 64 bits an instant is before another one exactly if this one is it and a positive duration: the law FnLater returns true and changes nothing.
-/
import Derived.Test.YtllhfhgjhchlbaaRows
import Derived.Test.YtllhfhgjhchlbaaLaw
import Derived.Test.YtllhfhgjhchlbaaApi
import Derived.WalkKit
import Derived.ProofKit
import Derived.OpenShut
import Derived.ShutString
import Derived.ChangeOld
import Derived.Below
namespace Go.Proofs.Ytllhfhgjhchlbaa.fnLater
open Go.ChangeShapes Go.WideShapes Go.ChangeAt Go.RowKit
set_option linter.unusedVariables false

theorem own : ownKnob Try.prog.godebug = none := by kernel_rfl
theorem laidOut : laidOutB Try.prog = true := by kernel_rfl

set_option maxHeartbeats 2000000 in
theorem walk (a0 : Int) (a1 : Int) (w : World) (h0 : Plain.I64 a0) (h1 : Plain.I64 a1) :
    Calls Try.prog 9 #[.int .i64 a0, .int .i64 a1] w fun e w' => e = .returned (.bool true) ∧ Below w.heap.size w w' := by
  have i0 : Plain.I64 0 := by unfold Plain.I64; omega
  rcases Plain.sg_cases a1 0 with ⟨lt, g⟩ | ⟨lt, g⟩ | ⟨lt, g⟩
  · have L := Lib.hid lt
    clear g
    have k : (a1 == 0) = false := by simp; omega
    have d1 : decide (0 < a1) = false := by simp; omega
    have d2 : decide (a1 < 0) = true := by simp; omega
    have hB0 : Below w.heap.size w w := Below.refl _ w
    go_enter Try.func9, Try.ntmps9
    go_wp2_with fail
    refine (beforeOf_any a0 0 a0 a1 false _ h0 i0 h0 h1 (by have := L.out; simp; omega)).mono ?_
    rintro e w1 ⟨rfl, hb1⟩
    have hB1 : Below w.heap.size w w1 := hB0.trans (hb1.mono hB0.size)
    clear hb1 hB0
    go_wp2_with fail
    refine (afterOf_any a0 0 a0 a1 true _ h0 i0 h0 h1 (by have := L.out; simp; omega)).mono ?_
    rintro e w2 ⟨rfl, hb2⟩
    have hB2 : Below w.heap.size w w2 := hB1.trans (hb2.mono hB1.size)
    clear hb2 hB1
    go_wp2_with fail
    refine (equalOf_any a0 0 a0 a1 false _ h0 i0 h0 h1 (by have := L.out; simp; omega)).mono ?_
    rintro e w3 ⟨rfl, hb3⟩
    have hB3 : Below w.heap.size w w3 := hB2.trans (hb3.mono hB2.size)
    clear hb3 hB2
    go_wp2_with fail
    refine (equalOf_any a0 a1 a1 a0 true _ h0 h1 h1 h0 (by simp; try omega)).mono ?_
    rintro e w4 ⟨rfl, hb4⟩
    have hB4 : Below w.heap.size w w4 := hB3.trans (hb4.mono hB3.size)
    clear hb4 hB3
    go_wp2
    go_ret
    exact ⟨rfl, hB4⟩
  · have L := Lib.hid lt
    clear g
    clear L
    subst lt
    have hB0 : Below w.heap.size w w := Below.refl _ w
    go_enter Try.func9, Try.ntmps9
    go_wp2_with fail
    refine (beforeOf_any a0 0 a0 0 false _ h0 i0 h0 h1 (by simp)).mono ?_
    rintro e w1 ⟨rfl, hb1⟩
    have hB1 : Below w.heap.size w w1 := hB0.trans (hb1.mono hB0.size)
    clear hb1 hB0
    go_wp2_with fail
    refine (afterOf_any a0 0 a0 0 false _ h0 i0 h0 h1 (by simp)).mono ?_
    rintro e w2 ⟨rfl, hb2⟩
    have hB2 : Below w.heap.size w w2 := hB1.trans (hb2.mono hB1.size)
    clear hb2 hB1
    go_wp2_with fail
    refine (equalOf_any a0 0 a0 0 true _ h0 i0 h0 h1 (by simp)).mono ?_
    rintro e w3 ⟨rfl, hb3⟩
    have hB3 : Below w.heap.size w w3 := hB2.trans (hb3.mono hB2.size)
    clear hb3 hB2
    go_wp2_with fail
    refine (equalOf_any a0 0 0 a0 true _ h0 h1 h1 h0 (by simp; try omega)).mono ?_
    rintro e w4 ⟨rfl, hb4⟩
    have hB4 : Below w.heap.size w w4 := hB3.trans (hb4.mono hB3.size)
    clear hb4 hB3
    go_wp2
    go_ret
    exact ⟨rfl, hB4⟩
  · have L := Lib.hid lt
    clear g
    have k : (a1 == 0) = false := by simp; omega
    have d1 : decide (0 < a1) = true := by simp; omega
    have d2 : decide (a1 < 0) = false := by simp; omega
    have hB0 : Below w.heap.size w w := Below.refl _ w
    go_enter Try.func9, Try.ntmps9
    go_wp2_with fail
    refine (beforeOf_any a0 0 a0 a1 true _ h0 i0 h0 h1 (by have := L.out; simp; omega)).mono ?_
    rintro e w1 ⟨rfl, hb1⟩
    have hB1 : Below w.heap.size w w1 := hB0.trans (hb1.mono hB0.size)
    clear hb1 hB0
    go_wp2_with fail
    refine (afterOf_any a0 0 a0 a1 false _ h0 i0 h0 h1 (by have := L.out; simp; omega)).mono ?_
    rintro e w2 ⟨rfl, hb2⟩
    have hB2 : Below w.heap.size w w2 := hB1.trans (hb2.mono hB1.size)
    clear hb2 hB1
    go_wp2_with fail
    refine (equalOf_any a0 0 a0 a1 false _ h0 i0 h0 h1 (by have := L.out; simp; omega)).mono ?_
    rintro e w3 ⟨rfl, hb3⟩
    have hB3 : Below w.heap.size w w3 := hB2.trans (hb3.mono hB2.size)
    clear hb3 hB2
    go_wp2_with fail
    refine (equalOf_any a0 a1 a1 a0 true _ h0 h1 h1 h0 (by simp; try omega)).mono ?_
    rintro e w4 ⟨rfl, hb4⟩
    have hB4 : Below w.heap.size w w4 := hB3.trans (hb4.mono hB3.size)
    clear hb4 hB3
    go_wp2
    go_ret
    exact ⟨rfl, hB4⟩

set_option maxRecDepth 100000 in
theorem lifted (os : Os) (started : os.Started) (H : Type) (enc : TypeId × Value → H) :
    ReturnsInHanded {} Try.checked os 9 .any (Rows.fnLaterSpec.pre6 enc Try.prog Try.f9 Rows.fnLaterRow.domain false) (Rows.fnLaterSpec.post enc Try.prog Try.f9 false true false false) := by
  refine returnsInHanded_of_change (C := Try.checked) own started (by kernel_rfl) Try.func9
    (ChangeSpec.witness6 (enc := enc) (C := Try.checked) false ⟨#[], #[.int .i64 0, .int .i64 0], []⟩ 8 (by kernel_rfl) (by kernel_rfl) (by kernel_rfl) (by kernel_rfl)) ?_
  intro W base args ds gs before hval0 hW hcnd _
  have hval : ∀ (j : Nat) t v, Try.f9.params[j]? = some t → args[j]? = some v → Value.okWide Try.prog W .any base t v := hval0
  have hW' := hW
  obtain ⟨p, q, hA0, hV, rfl, hfz, hnd⟩ := hW
  have hA : DataW.TrodAll enc Try.prog W 0 (fun _ => true) true Try.f9.params.toList args.toList ds p := hA0
  rw [Try.params9] at hA hval
  obtain ⟨v0, vs0, d0, ds0, p0, q0, hargs, rfl, rfl, h0, r0⟩ := trodAll_cons hA
  obtain ⟨v1, vs1, d1, ds1, p1, q1, rfl, rfl, rfl, h1, r1⟩ := trodAll_cons r0
  obtain ⟨rfl, rfl, rfl⟩ := trodAll_nil r1
  obtain rfl : args = #[v0, v1] := by cases args; simp_all
  obtain ⟨rfl, rfl⟩ := trodVars_none hV
  obtain ⟨a0, rfl, rfl, rfl, w0⟩ := open_int Try.underlying2 (hval 0 2 v0 rfl rfl) h0
  obtain ⟨a1, rfl, rfl, rfl, w1⟩ := open_int Try.underlying2 (hval 1 2 v1 rfl rfl) h1
  clear hA0 hval0
  refine (walk a0 a1 W (i64_of_wf w0) (i64_of_wf w1)).mono fun e W' ⟨he, bel⟩ => ?_
  subst he
  exact ⟨_, rfl, _, _, _, [], _, [], hW', trodAll_mk1 (shut_bool Try.underlying4 _), (trodAll_cons_mk (shut_int Try.underlying2 w0) (trodAll_cons_mk (shut_int Try.underlying2 w1) trodAll_mk0)), rfl, bel.frame _, fun h => by cases h⟩

theorem proved : Rows.FnLaterSaid :=
  OpenClaim.holds_of_wide 9 Try.f9 rfl rfl rfl rfl rfl rfl rfl ⟨rfl, rfl, rfl, rfl, rfl⟩ rfl rfl rfl rfl rfl (by kernel_rfl) Try.func9 (by kernel_rfl)
    (of_decide_eq_true (by kernel_rfl)) (by unfold Func.isWrapper; first | (rw [if_pos (by decide +kernel)]; kernel_rfl) | (rw [if_neg (by decide +kernel)]; exact ⟨rfl, rfl⟩))
    (fun os started H enc _ => lifted os started H enc)
#print axioms proved
end Go.Proofs.Ytllhfhgjhchlbaa.fnLater
