/-
  For all arguments of 64 bits two instants are equal exactly if they have the same parts: the law FnSameParts returns true and changes nothing.
-/
import Derived.Test.YtllhfhgjhchlbaaRows
import Derived.Test.YtllhfhgjhchlbaaLaw
import Derived.Test.YtllhfhgjhchlbaaApi
import Derived.WalkKit
import Derived.ProofKit
import Derived.OpenShut
import Derived.ShutString
import Derived.ChangeOld
import Derived.Below
namespace Go.Proofs.Ytllhfhgjhchlbaa.fnSameParts
open Go.ChangeShapes Go.WideShapes Go.ChangeAt Go.RowKit
set_option linter.unusedVariables false

theorem own : ownKnob Try.prog.godebug = none := by kernel_rfl
theorem laidOut : laidOutB Try.prog = true := by kernel_rfl

set_option maxHeartbeats 2000000 in
theorem walk (a0 : Int) (a1 : Int) (a2 : Int) (a3 : Int) (w : World) (h0 : Plain.I64 a0) (h1 : Plain.I64 a1) (h2 : Plain.I64 a2) (h3 : Plain.I64 a3) :
    Calls Try.prog 8 #[.int .i64 a0, .int .i64 a1, .int .i64 a2, .int .i64 a3] w fun e w' => e = .returned (.bool true) ∧ Below w.heap.size w w' := by
  obtain ⟨l0, u0⟩ : -9223372036854775808 ≤ a0 ∧ a0 ≤ 9223372036854775807 := ⟨h0.1, h0.2⟩
  obtain ⟨l1, u1⟩ : -9223372036854775808 ≤ a1 ∧ a1 ≤ 9223372036854775807 := ⟨h1.1, h1.2⟩
  obtain ⟨l2, u2⟩ : -9223372036854775808 ≤ a2 ∧ a2 ≤ 9223372036854775807 := ⟨h2.1, h2.2⟩
  obtain ⟨l3, u3⟩ : -9223372036854775808 ≤ a3 ∧ a3 ≤ 9223372036854775807 := ⟨h3.1, h3.2⟩
  obtain ⟨f, hf⟩ : ∃ f, f = Plain.cl (a0 + a1) := ⟨_, rfl⟩
  obtain ⟨r, hr⟩ : ∃ r, r = Plain.p2 (a0 + a1) := ⟨_, rfl⟩
  have e1 : f + r = a0 + a1 := by rw [hf, hr]; exact Plain.parts_add (by omega) (by omega)
  have jf : Plain.I64 f := hf ▸ Plain.cl_i64 _
  have jr : Plain.I64 r := hr ▸ Plain.p2_i64 _
  have F := Lib.hid hf
  have R := Lib.hid hr
  have E := Lib.hid e1
  clear hf hr e1
  by_cases c : a0 + a1 = a2 + a3
  · have C := Lib.hid c
    clear c
    have hB0 : Below w.heap.size w w := Below.refl _ w
    go_enter Try.func8, Try.ntmps8
    go_wp2_with fail
    refine (addTo_any a0 a1 f r _ h0 h1 F.out R.out).mono ?_
    rintro e w1 ⟨rfl, hb1⟩
    have hB1 : Below w.heap.size w w1 := hB0.trans (hb1.mono hB0.size)
    clear hb1 hB0
    go_wp2_with fail
    refine (addTo_any a2 a3 f r _ h2 h3 (by rw [← C.out]; exact F.out) (by rw [← C.out]; exact R.out)).mono ?_
    rintro e w2 ⟨rfl, hb2⟩
    have hB2 : Below w.heap.size w w2 := hB1.trans (hb2.mono hB1.size)
    clear hb2 hB1
    go_wp2_with fail
    refine (equalOf_any a0 a1 a2 a3 true _ h0 h1 h2 h3 (by have := C.out; simp; omega)).mono ?_
    rintro e w3 ⟨rfl, hb3⟩
    have hB3 : Below w.heap.size w w3 := hB2.trans (hb3.mono hB2.size)
    clear hb3 hB2
    go_wp2_with fail
    refine (equalOf_any f r a0 a1 true _ jf jr h0 h1 (by have := E.out; simp; omega)).mono ?_
    rintro e w4 ⟨rfl, hb4⟩
    have hB4 : Below w.heap.size w w4 := hB3.trans (hb4.mono hB3.size)
    clear hb4 hB3
    go_wp2
    go_ret
    exact ⟨rfl, hB4⟩
  · obtain ⟨g, hg⟩ : ∃ g, g = Plain.cl (a2 + a3) := ⟨_, rfl⟩
    obtain ⟨s, hs⟩ : ∃ s, s = Plain.p2 (a2 + a3) := ⟨_, rfl⟩
    have e2 : g + s = a2 + a3 := by rw [hg, hs]; exact Plain.parts_add (by omega) (by omega)
    have G := Lib.hid hg
    have S := Lib.hid hs
    have C := Lib.hid c
    have E2 := Lib.hid e2
    clear hg hs c e2
    by_cases k : f = g
    · subst k
      have k2 : (r == s) = false := by have h1 := E.out; have h2 := E2.out; have h3 := C.out; simp; omega
      have hB0 : Below w.heap.size w w := Below.refl _ w
      go_enter Try.func8, Try.ntmps8
      go_wp2_with fail
      refine (addTo_any a0 a1 f r _ h0 h1 F.out R.out).mono ?_
      rintro e w1 ⟨rfl, hb1⟩
      have hB1 : Below w.heap.size w w1 := hB0.trans (hb1.mono hB0.size)
      clear hb1 hB0
      go_wp2_with fail
      refine (addTo_any a2 a3 f s _ h2 h3 G.out S.out).mono ?_
      rintro e w2 ⟨rfl, hb2⟩
      have hB2 : Below w.heap.size w w2 := hB1.trans (hb2.mono hB1.size)
      clear hb2 hB1
      go_wp2_with fail
      refine (equalOf_any a0 a1 a2 a3 false _ h0 h1 h2 h3 (by have := C.out; simp; omega)).mono ?_
      rintro e w3 ⟨rfl, hb3⟩
      have hB3 : Below w.heap.size w w3 := hB2.trans (hb3.mono hB2.size)
      clear hb3 hB2
      go_wp2_with fail
      refine (equalOf_any f r a0 a1 true _ jf jr h0 h1 (by have := E.out; simp; omega)).mono ?_
      rintro e w4 ⟨rfl, hb4⟩
      have hB4 : Below w.heap.size w w4 := hB3.trans (hb4.mono hB3.size)
      clear hb4 hB3
      go_wp2
      go_ret
      exact ⟨rfl, hB4⟩
    · have k2 : (f == g) = false := by simpa using k
      clear k
      have hB0 : Below w.heap.size w w := Below.refl _ w
      go_enter Try.func8, Try.ntmps8
      go_wp2_with fail
      refine (addTo_any a0 a1 f r _ h0 h1 F.out R.out).mono ?_
      rintro e w1 ⟨rfl, hb1⟩
      have hB1 : Below w.heap.size w w1 := hB0.trans (hb1.mono hB0.size)
      clear hb1 hB0
      go_wp2_with fail
      refine (addTo_any a2 a3 g s _ h2 h3 G.out S.out).mono ?_
      rintro e w2 ⟨rfl, hb2⟩
      have hB2 : Below w.heap.size w w2 := hB1.trans (hb2.mono hB1.size)
      clear hb2 hB1
      go_wp2_with fail
      refine (equalOf_any a0 a1 a2 a3 false _ h0 h1 h2 h3 (by have := C.out; simp; omega)).mono ?_
      rintro e w3 ⟨rfl, hb3⟩
      have hB3 : Below w.heap.size w w3 := hB2.trans (hb3.mono hB2.size)
      clear hb3 hB2
      go_wp2_with fail
      refine (equalOf_any f r a0 a1 true _ jf jr h0 h1 (by have := E.out; simp; omega)).mono ?_
      rintro e w4 ⟨rfl, hb4⟩
      have hB4 : Below w.heap.size w w4 := hB3.trans (hb4.mono hB3.size)
      clear hb4 hB3
      go_wp2
      go_ret
      exact ⟨rfl, hB4⟩

set_option maxRecDepth 100000 in
theorem lifted (os : Os) (started : os.Started) (H : Type) (enc : TypeId × Value → H) :
    ReturnsInHanded {} Try.checked os 8 .any (Rows.fnSamePartsSpec.pre6 enc Try.prog Try.f8 Rows.fnSamePartsRow.domain false) (Rows.fnSamePartsSpec.post enc Try.prog Try.f8 false true false false) := by
  refine returnsInHanded_of_change (C := Try.checked) own started (by kernel_rfl) Try.func8
    (ChangeSpec.witness6 (enc := enc) (C := Try.checked) false ⟨#[], #[.int .i64 0, .int .i64 0, .int .i64 0, .int .i64 0], []⟩ 8 (by kernel_rfl) (by kernel_rfl) (by kernel_rfl) (by kernel_rfl)) ?_
  intro W base args ds gs before hval0 hW hcnd _
  have hval : ∀ (j : Nat) t v, Try.f8.params[j]? = some t → args[j]? = some v → Value.okWide Try.prog W .any base t v := hval0
  have hW' := hW
  obtain ⟨p, q, hA0, hV, rfl, hfz, hnd⟩ := hW
  have hA : DataW.TrodAll enc Try.prog W 0 (fun _ => true) true Try.f8.params.toList args.toList ds p := hA0
  rw [Try.params8] at hA hval
  obtain ⟨v0, vs0, d0, ds0, p0, q0, hargs, rfl, rfl, h0, r0⟩ := trodAll_cons hA
  obtain ⟨v1, vs1, d1, ds1, p1, q1, rfl, rfl, rfl, h1, r1⟩ := trodAll_cons r0
  obtain ⟨v2, vs2, d2, ds2, p2, q2, rfl, rfl, rfl, h2, r2⟩ := trodAll_cons r1
  obtain ⟨v3, vs3, d3, ds3, p3, q3, rfl, rfl, rfl, h3, r3⟩ := trodAll_cons r2
  obtain ⟨rfl, rfl, rfl⟩ := trodAll_nil r3
  obtain rfl : args = #[v0, v1, v2, v3] := by cases args; simp_all
  obtain ⟨rfl, rfl⟩ := trodVars_none hV
  obtain ⟨a0, rfl, rfl, rfl, w0⟩ := open_int Try.underlying2 (hval 0 2 v0 rfl rfl) h0
  obtain ⟨a1, rfl, rfl, rfl, w1⟩ := open_int Try.underlying2 (hval 1 2 v1 rfl rfl) h1
  obtain ⟨a2, rfl, rfl, rfl, w2⟩ := open_int Try.underlying2 (hval 2 2 v2 rfl rfl) h2
  obtain ⟨a3, rfl, rfl, rfl, w3⟩ := open_int Try.underlying2 (hval 3 2 v3 rfl rfl) h3
  clear hA0 hval0
  refine (walk a0 a1 a2 a3 W (i64_of_wf w0) (i64_of_wf w1) (i64_of_wf w2) (i64_of_wf w3)).mono fun e W' ⟨he, bel⟩ => ?_
  subst he
  exact ⟨_, rfl, _, _, _, [], _, [], hW', trodAll_mk1 (shut_bool Try.underlying4 _), (trodAll_cons_mk (shut_int Try.underlying2 w0) (trodAll_cons_mk (shut_int Try.underlying2 w1) (trodAll_cons_mk (shut_int Try.underlying2 w2) (trodAll_cons_mk (shut_int Try.underlying2 w3) trodAll_mk0)))), rfl, bel.frame _, fun h => by cases h⟩

theorem proved : Rows.FnSamePartsSaid :=
  OpenClaim.holds_of_wide 8 Try.f8 rfl rfl rfl rfl rfl rfl rfl ⟨rfl, rfl, rfl, rfl, rfl⟩ rfl rfl rfl rfl rfl (by kernel_rfl) Try.func8 (by kernel_rfl)
    (of_decide_eq_true (by kernel_rfl)) (by unfold Func.isWrapper; first | (rw [if_pos (by decide +kernel)]; kernel_rfl) | (rw [if_neg (by decide +kernel)]; exact ⟨rfl, rfl⟩))
    (fun os started H enc _ => lifted os started H enc)
#print axioms proved
end Go.Proofs.Ytllhfhgjhchlbaa.fnSameParts
