/-
  For all arguments of 64 bits a later instant is not rounded to an earlier one, and, if it is later by the duration at least, to a later one: the law FnMonotone returns true and changes nothing.
-/
import Derived.Test.YtllhfhgjhchlbaaRows
import Derived.Test.YtllhfhgjhchlbaaLaw
import Derived.Test.YtllhfhgjhchlbaaApi
import Derived.Test.YtllhfhgjhchlbaaPlainB
import Derived.Test.YtllhfhgjhchlbaaDown
import Derived.WalkKit
import Derived.ProofKit
import Derived.OpenShut
import Derived.ShutString
import Derived.ChangeOld
import Derived.Below
namespace Go.Proofs.Ytllhfhgjhchlbaa.fnMonotone
open Go.ChangeShapes Go.WideShapes Go.ChangeAt Go.RowKit
set_option linter.unusedVariables false

theorem own : ownKnob Try.prog.godebug = none := by kernel_rfl
theorem laidOut : laidOutB Try.prog = true := by kernel_rfl

set_option maxHeartbeats 4000000 in
theorem walk (a0 : Int) (a1 : Int) (a2 : Int) (a3 : Int) (a4 : Int) (w : World) (h0 : Plain.I64 a0) (h1 : Plain.I64 a1) (h2 : Plain.I64 a2) (h3 : Plain.I64 a3) (h4 : Plain.I64 a4) :
    Calls Try.prog 13 #[.int .i64 a0, .int .i64 a1, .int .i64 a2, .int .i64 a3, .int .i64 a4] w fun e w' => e = .returned (.bool true) ∧ Below w.heap.size w w' := by
  obtain ⟨l0, u0⟩ : -9223372036854775808 ≤ a0 ∧ a0 ≤ 9223372036854775807 := ⟨h0.1, h0.2⟩
  obtain ⟨l1, u1⟩ : -9223372036854775808 ≤ a1 ∧ a1 ≤ 9223372036854775807 := ⟨h1.1, h1.2⟩
  obtain ⟨l2, u2⟩ : -9223372036854775808 ≤ a2 ∧ a2 ≤ 9223372036854775807 := ⟨h2.1, h2.2⟩
  obtain ⟨l3, u3⟩ : -9223372036854775808 ≤ a3 ∧ a3 ≤ 9223372036854775807 := ⟨h3.1, h3.2⟩
  obtain ⟨l4, u4⟩ : -9223372036854775808 ≤ a4 ∧ a4 ≤ 9223372036854775807 := ⟨h4.1, h4.2⟩
  by_cases c : a4 ≤ 0
  · have hB0 : Below w.heap.size w w := Below.refl _ w
    go_enter Try.func13, Try.ntmps13
    go_wp2
    go_ret
    exact ⟨rfl, hB0⟩
  have d0 : 0 < a4 := by omega
  clear c
  have rg := Lib.hid (Plain.range_two h0 h1)
  have rg2 := Lib.hid (Plain.range_two h2 h3)
  by_cases c : a2 + a3 < a0 + a1
  · have C := Lib.hid (show 1 = Plain.sg (a0 + a1) (a2 + a3) from (Plain.sg_gt c).symm)
    clear c
    have hB0 : Below w.heap.size w w := Below.refl _ w
    go_enter Try.func13, Try.ntmps13
    go_wp2_with fail
    refine (Sp.compareOf_any a0 a1 a2 a3 1 _ h0 h1 h2 h3 C.out).mono ?_
    rintro e w1 ⟨rfl, hb1⟩
    have hB1 : Below w.heap.size w w1 := hB0.trans (hb1.mono hB0.size)
    clear hb1 hB0
    go_wp2
    go_ret
    exact ⟨rfl, hB1⟩
  obtain ⟨v, hv, V⟩ : ∃ v, v ≤ 0 ∧ Hid (v = Plain.sg (a0 + a1) (a2 + a3)) := by
    refine ⟨_, ?_, Lib.hid rfl⟩
    rcases Plain.sg_cases (a0 + a1) (a2 + a3) with ⟨x, g⟩ | ⟨x, g⟩ | ⟨x, g⟩ <;> omega
  have LE := Lib.hid (show a0 + a1 ≤ a2 + a3 by omega)
  clear c
  obtain ⟨f, F⟩ : ∃ f, Hid (f = Plain.cl (Plain.down (a0 + a1) a4)) := ⟨_, Lib.hid rfl⟩
  obtain ⟨r, R⟩ : ∃ r, Hid (r = Plain.p2 (Plain.down (a0 + a1) a4)) := ⟨_, Lib.hid rfl⟩
  have jf : Plain.I64 f := Plain.i64_cl F.out
  have jr : Plain.I64 r := Plain.i64_p2 R.out
  obtain ⟨g, G⟩ : ∃ g, Hid (g = Plain.cl (Plain.near (a2 + a3) a4)) := ⟨_, Lib.hid rfl⟩
  obtain ⟨s, S⟩ : ∃ s, Hid (s = Plain.p2 (Plain.near (a2 + a3) a4)) := ⟨_, Lib.hid rfl⟩
  have jg : Plain.I64 g := Plain.i64_cl G.out
  have js : Plain.I64 s := Plain.i64_p2 S.out
  obtain ⟨p, P⟩ : ∃ p, Hid (p = Plain.cl (Plain.down (a2 + a3) a4)) := ⟨_, Lib.hid rfl⟩
  obtain ⟨q, Q⟩ : ∃ q, Hid (q = Plain.p2 (Plain.down (a2 + a3) a4)) := ⟨_, Lib.hid rfl⟩
  have jp : Plain.I64 p := Plain.i64_cl P.out
  have jq : Plain.I64 q := Plain.i64_p2 Q.out
  obtain ⟨x, X⟩ : ∃ x, Hid (x = Plain.cl (Plain.near (a0 + a1) a4)) := ⟨_, Lib.hid rfl⟩
  obtain ⟨y, Y⟩ : ∃ y, Hid (y = Plain.p2 (Plain.near (a0 + a1) a4)) := ⟨_, Lib.hid rfl⟩
  have jx : Plain.I64 x := Plain.i64_cl X.out
  have jy : Plain.I64 y := Plain.i64_p2 Y.out
  by_cases eE : f = -9223372036854775808 ∧ r = -9223372036854775808
  · have E := Lib.hid (show true = decide (f = -9223372036854775808 ∧ r = -9223372036854775808) by simpa using eE)
    clear eE
    have hB0 : Below w.heap.size w w := Below.refl _ w
    go_enter Try.func13, Try.ntmps13
    go_wp2_with fail
    refine (Sp.compareOf_any a0 a1 a2 a3 v _ h0 h1 h2 h3 V.out).mono ?_
    rintro e w1 ⟨rfl, hb1⟩
    have hB1 : Below w.heap.size w w1 := hB0.trans (hb1.mono hB0.size)
    clear hb1 hB0
    go_wp2_with fail
    refine (Sp.truncateOf_any a0 a1 a4 f r _ h0 h1 h4 F.out R.out).mono ?_
    rintro e w2 ⟨rfl, hb2⟩
    have hB2 : Below w.heap.size w w2 := hB1.trans (hb2.mono hB1.size)
    clear hb2 hB1
    go_wp2_with fail
    refine (Sp.early_any f r true _ E.out).mono ?_
    rintro e w3 ⟨rfl, hb3⟩
    have hB3 : Below w.heap.size w w3 := hB2.trans (hb3.mono hB2.size)
    clear hb3 hB2
    go_wp2
    go_ret
    exact ⟨rfl, hB3⟩
  have E := Lib.hid (show false = decide (f = -9223372036854775808 ∧ r = -9223372036854775808) by simpa using eE)
  have NE := Lib.hid eE
  clear eE
  by_cases eL : g = 9223372036854775807 ∧ s = 9223372036854775807
  · have L := Lib.hid (show true = decide (g = 9223372036854775807 ∧ s = 9223372036854775807) by simpa using eL)
    clear eL
    have hB0 : Below w.heap.size w w := Below.refl _ w
    go_enter Try.func13, Try.ntmps13
    go_wp2_with fail
    refine (Sp.compareOf_any a0 a1 a2 a3 v _ h0 h1 h2 h3 V.out).mono ?_
    rintro e w1 ⟨rfl, hb1⟩
    have hB1 : Below w.heap.size w w1 := hB0.trans (hb1.mono hB0.size)
    clear hb1 hB0
    go_wp2_with fail
    refine (Sp.truncateOf_any a0 a1 a4 f r _ h0 h1 h4 F.out R.out).mono ?_
    rintro e w2 ⟨rfl, hb2⟩
    have hB2 : Below w.heap.size w w2 := hB1.trans (hb2.mono hB1.size)
    clear hb2 hB1
    go_wp2_with fail
    refine (Sp.early_any f r false _ E.out).mono ?_
    rintro e w3 ⟨rfl, hb3⟩
    have hB3 : Below w.heap.size w w3 := hB2.trans (hb3.mono hB2.size)
    clear hb3 hB2
    go_wp2_with fail
    refine (Sp.roundOf_any a2 a3 a4 g s _ h2 h3 h4 G.out S.out).mono ?_
    rintro e w4 ⟨rfl, hb4⟩
    have hB4 : Below w.heap.size w w4 := hB3.trans (hb4.mono hB3.size)
    clear hb4 hB3
    go_wp2_with fail
    refine (Sp.late_any g s true _ L.out).mono ?_
    rintro e w5 ⟨rfl, hb5⟩
    have hB5 : Below w.heap.size w w5 := hB4.trans (hb5.mono hB4.size)
    clear hb5 hB4
    go_wp2
    go_ret
    exact ⟨rfl, hB5⟩
  have L := Lib.hid (show false = decide (g = 9223372036854775807 ∧ s = 9223372036854775807) by simpa using eL)
  have NL := Lib.hid eL
  clear eL
  obtain ⟨T1, k1⟩ := Plain.not_early F.out R.out NE.out (Int.le_trans (Plain.down_bd d0).2 rg.out.2)
  have b1 := Plain.near_bd (z := a0 + a1) d0
  have b2 := Plain.near_bd (z := a2 + a3) d0
  have b3 := Plain.down_mono d0 LE.out
  have b4 := Plain.near_mono d0 LE.out
  have b5 := Plain.down_bd (z := a2 + a3) d0
  have r2 := rg2.out
  obtain ⟨T2, k2⟩ := Plain.not_late G.out S.out NL.out (by omega)
  have T3 := Plain.sum_of P.out Q.out (by omega) (by omega)
  have T4 := Plain.sum_of X.out Y.out (by omega) (by omega)
  obtain ⟨u, U⟩ : ∃ u, Hid (u = Plain.cl (a2 + a3 - (a0 + a1))) := ⟨_, Lib.hid rfl⟩
  by_cases c : a4 ≤ u
  · have st : a0 + a1 + a4 ≤ a2 + a3 := by have h := U.out; unfold Plain.cl at h; omega
    have s1 := Plain.down_step d0 st
    have s2 := Plain.near_step d0 st
    have O1 := Lib.hid (show -1 = Plain.sg (f + r) (p + q) from (Plain.sg_lt (by omega)).symm)
    have O2 := Lib.hid (show -1 = Plain.sg (x + y) (g + s) from (Plain.sg_lt (by omega)).symm)
    clear st s1 s2 T1 T2 T3 T4 b1 b2 b3 b4 b5 r2 k1 k2
    have hB0 : Below w.heap.size w w := Below.refl _ w
    go_enter Try.func13, Try.ntmps13
    go_wp2_with fail
    refine (Sp.compareOf_any a0 a1 a2 a3 v _ h0 h1 h2 h3 V.out).mono ?_
    rintro e w1 ⟨rfl, hb1⟩
    have hB1 : Below w.heap.size w w1 := hB0.trans (hb1.mono hB0.size)
    clear hb1 hB0
    go_wp2_with fail
    refine (Sp.truncateOf_any a0 a1 a4 f r _ h0 h1 h4 F.out R.out).mono ?_
    rintro e w2 ⟨rfl, hb2⟩
    have hB2 : Below w.heap.size w w2 := hB1.trans (hb2.mono hB1.size)
    clear hb2 hB1
    go_wp2_with fail
    refine (Sp.early_any f r false _ E.out).mono ?_
    rintro e w3 ⟨rfl, hb3⟩
    have hB3 : Below w.heap.size w w3 := hB2.trans (hb3.mono hB2.size)
    clear hb3 hB2
    go_wp2_with fail
    refine (Sp.roundOf_any a2 a3 a4 g s _ h2 h3 h4 G.out S.out).mono ?_
    rintro e w4 ⟨rfl, hb4⟩
    have hB4 : Below w.heap.size w w4 := hB3.trans (hb4.mono hB3.size)
    clear hb4 hB3
    go_wp2_with fail
    refine (Sp.late_any g s false _ L.out).mono ?_
    rintro e w5 ⟨rfl, hb5⟩
    have hB5 : Below w.heap.size w w5 := hB4.trans (hb5.mono hB4.size)
    clear hb5 hB4
    go_wp2_with fail
    refine (truncateOf_any a0 a1 a4 f r _ h0 h1 h4 F.out R.out).mono ?_
    rintro e w6 ⟨rfl, hb6⟩
    have hB6 : Below w.heap.size w w6 := hB5.trans (hb6.mono hB5.size)
    clear hb6 hB5
    go_wp2_with fail
    refine (truncateOf_any a2 a3 a4 p q _ h2 h3 h4 P.out Q.out).mono ?_
    rintro e w7 ⟨rfl, hb7⟩
    have hB7 : Below w.heap.size w w7 := hB6.trans (hb7.mono hB6.size)
    clear hb7 hB6
    go_wp2_with fail
    refine (roundOf_any a0 a1 a4 x y _ h0 h1 h4 X.out Y.out).mono ?_
    rintro e w8 ⟨rfl, hb8⟩
    have hB8 : Below w.heap.size w w8 := hB7.trans (hb8.mono hB7.size)
    clear hb8 hB7
    go_wp2_with fail
    refine (roundOf_any a2 a3 a4 g s _ h2 h3 h4 G.out S.out).mono ?_
    rintro e w9 ⟨rfl, hb9⟩
    have hB9 : Below w.heap.size w w9 := hB8.trans (hb9.mono hB8.size)
    clear hb9 hB8
    go_wp2_with fail
    refine (Sp.compareOf_any f r p q (-1) _ jf jr jp jq O1.out).mono ?_
    rintro e w10 ⟨rfl, hb10⟩
    have hB10 : Below w.heap.size w w10 := hB9.trans (hb10.mono hB9.size)
    clear hb10 hB9
    go_wp2_with fail
    refine (Sp.compareOf_any x y g s (-1) _ jx jy jg js O2.out).mono ?_
    rintro e w11 ⟨rfl, hb11⟩
    have hB11 : Below w.heap.size w w11 := hB10.trans (hb11.mono hB10.size)
    clear hb11 hB10
    go_wp2_with fail
    refine (Sp.subOf_any a2 a3 a0 a1 u _ h2 h3 h0 h1 U.out).mono ?_
    rintro e w12 ⟨rfl, hb12⟩
    have hB12 : Below w.heap.size w w12 := hB11.trans (hb12.mono hB11.size)
    clear hb12 hB11
    go_wp2
    go_ret
    exact ⟨rfl, hB12⟩
  · obtain ⟨o1, n1, O1⟩ : ∃ o, o ≤ 0 ∧ Hid (o = Plain.sg (f + r) (p + q)) := by
      refine ⟨_, ?_, Lib.hid rfl⟩
      rcases Plain.sg_cases (f + r) (p + q) with ⟨x, g⟩ | ⟨x, g⟩ | ⟨x, g⟩ <;> omega
    obtain ⟨o2, n2, O2⟩ : ∃ o, o ≤ 0 ∧ Hid (o = Plain.sg (x + y) (g + s)) := by
      refine ⟨_, ?_, Lib.hid rfl⟩
      rcases Plain.sg_cases (x + y) (g + s) with ⟨x, g⟩ | ⟨x, g⟩ | ⟨x, g⟩ <;> omega
    clear T1 T2 T3 T4 b1 b2 b3 b4 b5 r2 k1 k2
    have hB0 : Below w.heap.size w w := Below.refl _ w
    go_enter Try.func13, Try.ntmps13
    go_wp2_with fail
    refine (Sp.compareOf_any a0 a1 a2 a3 v _ h0 h1 h2 h3 V.out).mono ?_
    rintro e w1 ⟨rfl, hb1⟩
    have hB1 : Below w.heap.size w w1 := hB0.trans (hb1.mono hB0.size)
    clear hb1 hB0
    go_wp2_with fail
    refine (Sp.truncateOf_any a0 a1 a4 f r _ h0 h1 h4 F.out R.out).mono ?_
    rintro e w2 ⟨rfl, hb2⟩
    have hB2 : Below w.heap.size w w2 := hB1.trans (hb2.mono hB1.size)
    clear hb2 hB1
    go_wp2_with fail
    refine (Sp.early_any f r false _ E.out).mono ?_
    rintro e w3 ⟨rfl, hb3⟩
    have hB3 : Below w.heap.size w w3 := hB2.trans (hb3.mono hB2.size)
    clear hb3 hB2
    go_wp2_with fail
    refine (Sp.roundOf_any a2 a3 a4 g s _ h2 h3 h4 G.out S.out).mono ?_
    rintro e w4 ⟨rfl, hb4⟩
    have hB4 : Below w.heap.size w w4 := hB3.trans (hb4.mono hB3.size)
    clear hb4 hB3
    go_wp2_with fail
    refine (Sp.late_any g s false _ L.out).mono ?_
    rintro e w5 ⟨rfl, hb5⟩
    have hB5 : Below w.heap.size w w5 := hB4.trans (hb5.mono hB4.size)
    clear hb5 hB4
    go_wp2_with fail
    refine (truncateOf_any a0 a1 a4 f r _ h0 h1 h4 F.out R.out).mono ?_
    rintro e w6 ⟨rfl, hb6⟩
    have hB6 : Below w.heap.size w w6 := hB5.trans (hb6.mono hB5.size)
    clear hb6 hB5
    go_wp2_with fail
    refine (truncateOf_any a2 a3 a4 p q _ h2 h3 h4 P.out Q.out).mono ?_
    rintro e w7 ⟨rfl, hb7⟩
    have hB7 : Below w.heap.size w w7 := hB6.trans (hb7.mono hB6.size)
    clear hb7 hB6
    go_wp2_with fail
    refine (roundOf_any a0 a1 a4 x y _ h0 h1 h4 X.out Y.out).mono ?_
    rintro e w8 ⟨rfl, hb8⟩
    have hB8 : Below w.heap.size w w8 := hB7.trans (hb8.mono hB7.size)
    clear hb8 hB7
    go_wp2_with fail
    refine (roundOf_any a2 a3 a4 g s _ h2 h3 h4 G.out S.out).mono ?_
    rintro e w9 ⟨rfl, hb9⟩
    have hB9 : Below w.heap.size w w9 := hB8.trans (hb9.mono hB8.size)
    clear hb9 hB8
    go_wp2_with fail
    refine (Sp.compareOf_any f r p q o1 _ jf jr jp jq O1.out).mono ?_
    rintro e w10 ⟨rfl, hb10⟩
    have hB10 : Below w.heap.size w w10 := hB9.trans (hb10.mono hB9.size)
    clear hb10 hB9
    go_wp2_with fail
    refine (Sp.compareOf_any x y g s o2 _ jx jy jg js O2.out).mono ?_
    rintro e w11 ⟨rfl, hb11⟩
    have hB11 : Below w.heap.size w w11 := hB10.trans (hb11.mono hB10.size)
    clear hb11 hB10
    go_wp2_with fail
    refine (Sp.subOf_any a2 a3 a0 a1 u _ h2 h3 h0 h1 U.out).mono ?_
    rintro e w12 ⟨rfl, hb12⟩
    have hB12 : Below w.heap.size w w12 := hB11.trans (hb12.mono hB11.size)
    clear hb12 hB11
    go_wp2
    go_ret
    exact ⟨rfl, hB12⟩

set_option maxRecDepth 100000 in
theorem lifted (os : Os) (started : os.Started) (H : Type) (enc : TypeId × Value → H) :
    ReturnsInHanded {} Try.checked os 13 .any (Rows.fnMonotoneSpec.pre6 enc Try.prog Try.f13 Rows.fnMonotoneRow.domain false) (Rows.fnMonotoneSpec.post enc Try.prog Try.f13 false true false false) := by
  refine returnsInHanded_of_change (C := Try.checked) own started (by kernel_rfl) Try.func13
    (ChangeSpec.witness6 (enc := enc) (C := Try.checked) false ⟨#[], #[.int .i64 0, .int .i64 0, .int .i64 0, .int .i64 0, .int .i64 0], []⟩ 8 (by kernel_rfl) (by kernel_rfl) (by kernel_rfl) (by kernel_rfl)) ?_
  intro W base args ds gs before hval0 hW hcnd _
  have hval : ∀ (j : Nat) t v, Try.f13.params[j]? = some t → args[j]? = some v → Value.okWide Try.prog W .any base t v := hval0
  have hW' := hW
  obtain ⟨p, q, hA0, hV, rfl, hfz, hnd⟩ := hW
  have hA : DataW.TrodAll enc Try.prog W 0 (fun _ => true) true Try.f13.params.toList args.toList ds p := hA0
  rw [Try.params13] at hA hval
  obtain ⟨v0, vs0, d0, ds0, p0, q0, hargs, rfl, rfl, h0, r0⟩ := trodAll_cons hA
  obtain ⟨v1, vs1, d1, ds1, p1, q1, rfl, rfl, rfl, h1, r1⟩ := trodAll_cons r0
  obtain ⟨v2, vs2, d2, ds2, p2, q2, rfl, rfl, rfl, h2, r2⟩ := trodAll_cons r1
  obtain ⟨v3, vs3, d3, ds3, p3, q3, rfl, rfl, rfl, h3, r3⟩ := trodAll_cons r2
  obtain ⟨v4, vs4, d4, ds4, p4, q4, rfl, rfl, rfl, h4, r4⟩ := trodAll_cons r3
  obtain ⟨rfl, rfl, rfl⟩ := trodAll_nil r4
  obtain rfl : args = #[v0, v1, v2, v3, v4] := by cases args; simp_all
  obtain ⟨rfl, rfl⟩ := trodVars_none hV
  obtain ⟨a0, rfl, rfl, rfl, w0⟩ := open_int Try.underlying2 (hval 0 2 v0 rfl rfl) h0
  obtain ⟨a1, rfl, rfl, rfl, w1⟩ := open_int Try.underlying2 (hval 1 2 v1 rfl rfl) h1
  obtain ⟨a2, rfl, rfl, rfl, w2⟩ := open_int Try.underlying2 (hval 2 2 v2 rfl rfl) h2
  obtain ⟨a3, rfl, rfl, rfl, w3⟩ := open_int Try.underlying2 (hval 3 2 v3 rfl rfl) h3
  obtain ⟨a4, rfl, rfl, rfl, w4⟩ := open_int Try.underlying2 (hval 4 2 v4 rfl rfl) h4
  clear hA0 hval0
  refine (walk a0 a1 a2 a3 a4 W (i64_of_wf w0) (i64_of_wf w1) (i64_of_wf w2) (i64_of_wf w3) (i64_of_wf w4)).mono fun e W' ⟨he, bel⟩ => ?_
  subst he
  exact ⟨_, rfl, _, _, _, [], _, [], hW', trodAll_mk1 (shut_bool Try.underlying4 _), (trodAll_cons_mk (shut_int Try.underlying2 w0) (trodAll_cons_mk (shut_int Try.underlying2 w1) (trodAll_cons_mk (shut_int Try.underlying2 w2) (trodAll_cons_mk (shut_int Try.underlying2 w3) (trodAll_cons_mk (shut_int Try.underlying2 w4) trodAll_mk0))))), rfl, bel.frame _, fun h => by cases h⟩

theorem proved : Rows.FnMonotoneSaid :=
  OpenClaim.holds_of_wide 13 Try.f13 rfl rfl rfl rfl rfl rfl rfl ⟨rfl, rfl, rfl, rfl, rfl⟩ rfl rfl rfl rfl rfl (by kernel_rfl) Try.func13 (by kernel_rfl)
    (of_decide_eq_true (by kernel_rfl)) (by unfold Func.isWrapper; first | (rw [if_pos (by decide +kernel)]; kernel_rfl) | (rw [if_neg (by decide +kernel)]; exact ⟨rfl, rfl⟩))
    (fun os started H enc _ => lifted os started H enc)
#print axioms proved
end Go.Proofs.Ytllhfhgjhchlbaa.fnMonotone
