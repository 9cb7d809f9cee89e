/-
  For all arguments of 64 bits the difference of two instants is positive, 0 or negative as Compare tells: the law FnSubSign returns true and changes nothing.
-/
import Derived.Test.YtmdhpkhmmnmdlaaRows
import Derived.Test.YtmdhpkhmmnmdlaaLaw
import Derived.Test.YtmdhpkhmmnmdlaaApi
import Derived.WalkKit
import Derived.ProofKit
import Derived.OpenShut
import Derived.ShutString
import Derived.ChangeOld
import Derived.Below
namespace Go.Proofs.Ytmdhpkhmmnmdlaa.fnSubSign
open Go.ChangeShapes Go.WideShapes Go.ChangeAt Go.RowKit
set_option linter.unusedVariables false

theorem own : ownKnob Try.prog.godebug = none := by kernel_rfl
theorem laidOut : laidOutB Try.prog = true := by kernel_rfl

set_option maxHeartbeats 2000000 in
theorem walk (a0 : Int) (a1 : Int) (a2 : Int) (a3 : Int) (w : World) (h0 : Plain.I64 a0) (h1 : Plain.I64 a1) (h2 : Plain.I64 a2) (h3 : Plain.I64 a3) :
    Calls Try.prog 10 #[.int .i64 a0, .int .i64 a1, .int .i64 a2, .int .i64 a3] w fun e w' => e = .returned (.bool true) ∧ Below w.heap.size w w' := by
  obtain ⟨x, hx⟩ : ∃ x, x = Plain.cl (a0 + a1 - (a2 + a3)) := ⟨_, rfl⟩
  rcases Plain.sg_cases (a0 + a1) (a2 + a3) with ⟨lt, g⟩ | ⟨lt, g⟩ | ⟨lt, g⟩
  · have s : x < 0 := by rw [hx]; unfold Plain.cl; omega
    have L := Lib.hid lt
    have G := Lib.hid g.symm
    have X := Lib.hid hx
    clear lt g hx
    have k0 : (x == 0) = false := by simp; omega
    have d1 : decide (0 < x) = false := by simp; omega
    have d2 : decide (x < 0) = true := by simp; omega
    have hB0 : Below w.heap.size w w := Below.refl _ w
    go_enter Try.func10, Try.ntmps10
    go_wp2_with fail
    refine (subOf_any a0 a1 a2 a3 x _ h0 h1 h2 h3 X.out).mono ?_
    rintro e w1 ⟨rfl, hb1⟩
    have hB1 : Below w.heap.size w w1 := hB0.trans (hb1.mono hB0.size)
    clear hb1 hB0
    go_wp2_with fail
    refine (compareOf_any a0 a1 a2 a3 (-1) _ h0 h1 h2 h3 G.out).mono ?_
    rintro e w2 ⟨rfl, hb2⟩
    have hB2 : Below w.heap.size w w2 := hB1.trans (hb2.mono hB1.size)
    clear hb2 hB1
    go_wp2_with fail
    refine (equalOf_any a0 a1 a2 a3 false _ h0 h1 h2 h3 (by have := L.out; simp; omega)).mono ?_
    rintro e w3 ⟨rfl, hb3⟩
    have hB3 : Below w.heap.size w w3 := hB2.trans (hb3.mono hB2.size)
    clear hb3 hB2
    go_wp2
    go_ret
    exact ⟨rfl, hB3⟩
  · have s : x = 0 := by rw [hx]; unfold Plain.cl; omega
    have L := Lib.hid lt
    have G := Lib.hid g.symm
    have X := Lib.hid hx
    clear lt g hx
    subst s
    have hB0 : Below w.heap.size w w := Below.refl _ w
    go_enter Try.func10, Try.ntmps10
    go_wp2_with fail
    refine (subOf_any a0 a1 a2 a3 0 _ h0 h1 h2 h3 X.out).mono ?_
    rintro e w1 ⟨rfl, hb1⟩
    have hB1 : Below w.heap.size w w1 := hB0.trans (hb1.mono hB0.size)
    clear hb1 hB0
    go_wp2_with fail
    refine (compareOf_any a0 a1 a2 a3 (0) _ h0 h1 h2 h3 G.out).mono ?_
    rintro e w2 ⟨rfl, hb2⟩
    have hB2 : Below w.heap.size w w2 := hB1.trans (hb2.mono hB1.size)
    clear hb2 hB1
    go_wp2_with fail
    refine (equalOf_any a0 a1 a2 a3 true _ h0 h1 h2 h3 (by have := L.out; simp; omega)).mono ?_
    rintro e w3 ⟨rfl, hb3⟩
    have hB3 : Below w.heap.size w w3 := hB2.trans (hb3.mono hB2.size)
    clear hb3 hB2
    go_wp2
    go_ret
    exact ⟨rfl, hB3⟩
  · have s : 0 < x := by rw [hx]; unfold Plain.cl; omega
    have L := Lib.hid lt
    have G := Lib.hid g.symm
    have X := Lib.hid hx
    clear lt g hx
    have k0 : (x == 0) = false := by simp; omega
    have d1 : decide (0 < x) = true := by simp; omega
    have d2 : decide (x < 0) = false := by simp; omega
    have hB0 : Below w.heap.size w w := Below.refl _ w
    go_enter Try.func10, Try.ntmps10
    go_wp2_with fail
    refine (subOf_any a0 a1 a2 a3 x _ h0 h1 h2 h3 X.out).mono ?_
    rintro e w1 ⟨rfl, hb1⟩
    have hB1 : Below w.heap.size w w1 := hB0.trans (hb1.mono hB0.size)
    clear hb1 hB0
    go_wp2_with fail
    refine (compareOf_any a0 a1 a2 a3 (1) _ h0 h1 h2 h3 G.out).mono ?_
    rintro e w2 ⟨rfl, hb2⟩
    have hB2 : Below w.heap.size w w2 := hB1.trans (hb2.mono hB1.size)
    clear hb2 hB1
    go_wp2_with fail
    refine (equalOf_any a0 a1 a2 a3 false _ h0 h1 h2 h3 (by have := L.out; simp; omega)).mono ?_
    rintro e w3 ⟨rfl, hb3⟩
    have hB3 : Below w.heap.size w w3 := hB2.trans (hb3.mono hB2.size)
    clear hb3 hB2
    go_wp2
    go_ret
    exact ⟨rfl, hB3⟩

set_option maxRecDepth 100000 in
theorem lifted (os : Os) (started : os.Started) (H : Type) (enc : TypeId × Value → H) :
    ReturnsInHanded {} Try.checked os 10 .any (Rows.fnSubSignSpec.pre6 enc Try.prog Try.f10 Rows.fnSubSignRow.domain false) (Rows.fnSubSignSpec.post enc Try.prog Try.f10 false true false false) := by
  refine returnsInHanded_of_change (C := Try.checked) own started (by kernel_rfl) Try.func10
    (ChangeSpec.witness6 (enc := enc) (C := Try.checked) false ⟨#[], #[.int .i64 0, .int .i64 0, .int .i64 0, .int .i64 0], []⟩ 8 (by kernel_rfl) (by kernel_rfl) (by kernel_rfl) (by kernel_rfl)) ?_
  intro W base args ds gs before hval0 hW hcnd _
  have hval : ∀ (j : Nat) t v, Try.f10.params[j]? = some t → args[j]? = some v → Value.okWide Try.prog W .any base t v := hval0
  have hW' := hW
  obtain ⟨p, q, hA0, hV, rfl, hfz, hnd⟩ := hW
  have hA : DataW.TrodAll enc Try.prog W 0 (fun _ => true) true Try.f10.params.toList args.toList ds p := hA0
  rw [Try.params10] at hA hval
  obtain ⟨v0, vs0, d0, ds0, p0, q0, hargs, rfl, rfl, h0, r0⟩ := trodAll_cons hA
  obtain ⟨v1, vs1, d1, ds1, p1, q1, rfl, rfl, rfl, h1, r1⟩ := trodAll_cons r0
  obtain ⟨v2, vs2, d2, ds2, p2, q2, rfl, rfl, rfl, h2, r2⟩ := trodAll_cons r1
  obtain ⟨v3, vs3, d3, ds3, p3, q3, rfl, rfl, rfl, h3, r3⟩ := trodAll_cons r2
  obtain ⟨rfl, rfl, rfl⟩ := trodAll_nil r3
  obtain rfl : args = #[v0, v1, v2, v3] := by cases args; simp_all
  obtain ⟨rfl, rfl⟩ := trodVars_none hV
  obtain ⟨a0, rfl, rfl, rfl, w0⟩ := open_int Try.underlying2 (hval 0 2 v0 rfl rfl) h0
  obtain ⟨a1, rfl, rfl, rfl, w1⟩ := open_int Try.underlying2 (hval 1 2 v1 rfl rfl) h1
  obtain ⟨a2, rfl, rfl, rfl, w2⟩ := open_int Try.underlying2 (hval 2 2 v2 rfl rfl) h2
  obtain ⟨a3, rfl, rfl, rfl, w3⟩ := open_int Try.underlying2 (hval 3 2 v3 rfl rfl) h3
  clear hA0 hval0
  refine (walk a0 a1 a2 a3 W (i64_of_wf w0) (i64_of_wf w1) (i64_of_wf w2) (i64_of_wf w3)).mono fun e W' ⟨he, bel⟩ => ?_
  subst he
  exact ⟨_, rfl, _, _, _, [], _, [], hW', trodAll_mk1 (shut_bool Try.underlying4 _), (trodAll_cons_mk (shut_int Try.underlying2 w0) (trodAll_cons_mk (shut_int Try.underlying2 w1) (trodAll_cons_mk (shut_int Try.underlying2 w2) (trodAll_cons_mk (shut_int Try.underlying2 w3) trodAll_mk0)))), rfl, bel.frame _, fun h => by cases h⟩

theorem proved : Rows.FnSubSignSaid :=
  OpenClaim.holds_of_wide 10 Try.f10 rfl rfl rfl rfl rfl rfl rfl ⟨rfl, rfl, rfl, rfl, rfl⟩ rfl rfl rfl rfl rfl (by kernel_rfl) Try.func10 (by kernel_rfl)
    (of_decide_eq_true (by kernel_rfl)) (by unfold Func.isWrapper; first | (rw [if_pos (by decide +kernel)]; kernel_rfl) | (rw [if_neg (by decide +kernel)]; exact ⟨rfl, rfl⟩))
    (fun os started H enc _ => lifted os started H enc)
#print axioms proved
end Go.Proofs.Ytmdhpkhmmnmdlaa.fnSubSign
