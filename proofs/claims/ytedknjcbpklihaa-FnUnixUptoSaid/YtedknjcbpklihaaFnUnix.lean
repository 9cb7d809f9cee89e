/-
  For all arguments of 64 bits UnixNano is the number of nanoseconds since the beginning of the year 1970, where this is one of 64 bits: the law FnUnix returns true and changes nothing. The bound: what is read is of bulk at most 1048576 (the statement's second form).
-/
import Derived.Test.YtedknjcbpklihaaRows
import Derived.Test.YtedknjcbpklihaaLaw
import Derived.Test.YtedknjcbpklihaaRow
import Derived.Test.YtedknjcbpklihaaUnix
import Derived.WalkKit
import Derived.ProofKit
import Derived.OpenShut
import Derived.ShutString
import Derived.ChangeOld
import Derived.Below
import Derived.JoinedCond
namespace Go.Proofs.Ytedknjcbpklihaa.fnUnix
open Go.ChangeShapes Go.WideShapes Go.ChangeAt Go.RowKit
set_option linter.unusedVariables false

theorem own : ownKnob Try.prog.godebug = none := by kernel_rfl
theorem laidOut : laidOutB Try.prog = true := by kernel_rfl

set_option maxHeartbeats 4000000 in
theorem walk (s0 : Option Addr) (len0 cap0 : Nat) (z0 : List Int) (w : World) (h0 : IsRow .i64 w s0 len0 cap0 z0) (k0 : cap0 ≤ 1048576) :
    Calls Try.prog 3 #[.slice s0 len0 cap0] w fun e w' => e = .returned (.bool true) ∧ Below w.heap.size w w' := by
  obtain ⟨xs, rfl, hh, hI, hc⟩ := row_held h0
  have hl : xs.length ≤ 4194304 := by omega
  obtain ⟨d, D⟩ : ∃ d, Hid (d = Plain.cl (Plain.tot xs - 62135596800000000000)) := ⟨_, Lib.hid rfl⟩
  have HI := Lib.hid hI
  clear hI h0
  by_cases c : 62135596800000000000 + d = Plain.tot xs
  · have OK := Lib.hid (show true = decide (62135596800000000000 + d = Plain.tot xs) by simpa using c)
    have U := Lib.hid (show d = Plain.un (Plain.tot xs) by
      have i := Plain.I64_of_cl D.out
      rw [Plain.un_in (by rw [← c]; unfold Plain.I64 at *; omega)]; omega)
    clear c
    have hB0 : Below w.heap.size w w := Below.refl _ w
    go_enter Try.func3, Try.ntmps3
    go_wp2_with fail
    refine (Sp.unix_any xs s0 cap0 d true _ hh hl HI.out D.out OK.out).mono ?_
    rintro e w1 ⟨rfl, hb1⟩
    have hB1 : Below w.heap.size w w1 := hB0.trans (hb1.mono hB0.size)
    clear hb1 hB0
    go_wp2_with fail
    refine (unixOf_any xs s0 cap0 d _ (hh.kept hB1) hl HI.out U.out).mono ?_
    rintro e w2 ⟨rfl, hb2⟩
    have hB2 : Below w.heap.size w w2 := hB1.trans (hb2.mono hB1.size)
    clear hb2 hB1
    go_wp2
    go_ret
    exact ⟨rfl, hB2⟩
  · have OK := Lib.hid (show false = decide (62135596800000000000 + d = Plain.tot xs) by simpa using c)
    clear c
    have hB0 : Below w.heap.size w w := Below.refl _ w
    go_enter Try.func3, Try.ntmps3
    go_wp2_with fail
    refine (Sp.unix_any xs s0 cap0 d false _ hh hl HI.out D.out OK.out).mono ?_
    rintro e w1 ⟨rfl, hb1⟩
    have hB1 : Below w.heap.size w w1 := hB0.trans (hb1.mono hB0.size)
    clear hb1 hB0
    go_wp2
    go_ret
    exact ⟨rfl, hB1⟩

theorem contract (H : Type) (enc : TypeId × Value → H) (W : World) (base : Nat) (args : Array Value) (ds gs : List (DataW H)) (before : List MemPlace)
    (hval : ∀ (j : Nat) t v, Try.f3.params[j]? = some t → args[j]? = some v → Value.okWide Try.prog W .any base t v)
    (hW : DataW.Whole enc Try.prog Try.f3.params.toList Rows.fnUnixSpec.vars false W args.toList ds gs before) (hk : Rows.uptoSmall H (ds ++ gs) = true) :
    Calls Try.prog 3 args W fun e W' => ∃ v, e = .returned v ∧ Rows.fnUnixSpec.post enc Try.prog Try.f3 false true false false W args v W' := by
  have hW' := hW
  obtain ⟨p, q, hA0, hV, rfl, hfz, hnd⟩ := hW
  have hA : DataW.TrodAll enc Try.prog W 0 (fun _ => true) true Try.f3.params.toList args.toList ds p := hA0
  rw [Try.params3] at hA hval
  obtain ⟨v0, vs0, d0, ds0, p0, q0, hargs, rfl, rfl, h0, r0⟩ := trodAll_cons hA
  obtain ⟨rfl, rfl, rfl⟩ := trodAll_nil r0
  obtain rfl : args = #[v0] := by cases args; simp_all
  obtain ⟨rfl, rfl⟩ := trodVars_none hV
  obtain ⟨s0, len0, cap0, rfl⟩ := okWide_slice Try.underlying22 (hval 0 22 v0 rfl rfl)
  have t0 := h0
  have lt0 : ∀ x ∈ p0, x.block < W.heap.size := by obtain ⟨m, hm⟩ := t0; exact DataW.trod_lt m _ _ _ hm
  obtain ⟨z0, w0, k0⟩ : ∃ zs, IsRow .i64 W s0 len0 cap0 zs ∧ cap0 ≤ Rows.uptoBulk d0 := by
    obtain ⟨fuel, hf⟩ := h0
    rcases open_ints Try.underlying22 Try.underlying2 (by kernel_rfl) hf with ⟨hcs, hx⟩ | ⟨x, l, c, zs, hcs, _, hl, hm, hz, hx, hcell, hwz⟩
    · simp [Value.cells] at hcs
      obtain ⟨rfl, rfl, rfl⟩ := hcs
      exact ⟨[], .inl ⟨rfl, rfl, rfl, rfl⟩, Nat.zero_le _⟩
    · simp [Value.cells] at hcs
      obtain ⟨rfl, rfl, rfl⟩ := hcs
      simp only [Prod.mk.injEq] at hx
      obtain ⟨rfl, _⟩ := hx
      have hz' : zs.length = cap0 := by simpa using hz
      refine ⟨zs, .inr ⟨_, rfl, hl, hm, hz', hcell, hwz⟩, ?_⟩
      have hb := bulks.slice_le (H := H) (lits .i64 (zs.take len0)) (lits .i64 (zs.drop len0))
      simp only [lits, List.length_map, List.length_take, List.length_drop] at hb
      simp only [lits]
      omega
  clear hA0
  refine (walk s0 len0 cap0 z0 W w0 (by have hb := bulks.bound hk; simp only [List.append_nil, Rows.uptoBulkAll] at hb; omega)).mono fun e W' ⟨he, bel⟩ => ?_
  subst he
  exact ⟨_, rfl, _, _, _, [], _, [], hW', trodAll_mk1 (shut_bool Try.underlying4 _), (trodAll_cons_mk (Below.trod laidOut (by kernel_rfl) (of_decide_eq_true (by kernel_rfl)) t0 bel lt0) trodAll_mk0), rfl, bel.frame _, fun h => by cases h⟩

set_option maxRecDepth 100000 in
theorem lifted (os : Os) (started : os.Started) (H : Type) (enc : TypeId × Value → H) (F : Stop.Interp) :
    ReturnsInHanded {} Try.checked os 3 .any ((Rows.OpenSpec.upto Rows.fnUnixSpec).pre6 enc Try.prog Try.f3 Rows.fnUnixUptoRow.domain false) (((Rows.OpenSpec.upto Rows.fnUnixSpec).at F).post enc Try.prog Try.f3 false true false false) := by
  refine returnsInHanded_of_cond (C := Try.checked) (s := Rows.OpenSpec.upto Rows.fnUnixSpec) (k := Rows.uptoSmall) rfl own started (by kernel_rfl) Try.func3
    (OpenSpec.witness (enc := enc) (C := Try.checked) (s := Rows.OpenSpec.upto Rows.fnUnixSpec) (k := Rows.uptoSmall) rfl false ⟨#[], #[.slice none 0 0], []⟩ 8 (by kernel_rfl) (by kernel_rfl) (by kernel_rfl)
      (x := ([.nil], [], [])) (by kernel_rfl) rfl (by kernel_rfl)) ?_
  intro W base args ds gs before hval hW _ hk _
  exact contract H enc W base args ds gs before hval hW hk

theorem proved : Rows.FnUnixUptoSaid :=
  OpenClaim.holds_of_cond 3 Try.f3 rfl rfl rfl rfl rfl rfl rfl ⟨rfl, rfl, rfl, rfl, rfl⟩ rfl rfl rfl rfl rfl (by kernel_rfl) Try.func3 (by kernel_rfl)
    (of_decide_eq_true (by kernel_rfl)) (by unfold Func.isWrapper; first | (rw [if_pos (by decide +kernel)]; kernel_rfl) | (rw [if_neg (by decide +kernel)]; exact ⟨rfl, rfl⟩))
    (fun os started H enc _ F => lifted os started H enc F)
#print axioms proved
end Go.Proofs.Ytedknjcbpklihaa.fnUnix
