/-
  For all arguments of 64 bits the order in which durations are added does not matter: the law FnAddAllTurned returns true and changes nothing. The bound: what is read is of bulk at most 1048576 (the statement's second form).
-/
import Derived.Test.YtgcbgoninaobjaaRows
import Derived.Test.YtgcbgoninaobjaaLaw
import Derived.Test.YtgcbgoninaobjaaRow
import Derived.Test.YtgcbgoninaobjaaListS
import Derived.Test.YtgcbgoninaobjaaListI
import Derived.Test.YtgcbgoninaobjaaCopy
import Derived.WalkKit
import Derived.ProofKit
import Derived.OpenShut
import Derived.ShutString
import Derived.ChangeOld
import Derived.Below
import Derived.JoinedCond
namespace Go.Proofs.Ytgcbgoninaobjaa.fnAddAllTurned
open Go.ChangeShapes Go.WideShapes Go.ChangeAt Go.RowKit
set_option linter.unusedVariables false

theorem own : ownKnob Try.prog.godebug = none := by kernel_rfl
theorem laidOut : laidOutB Try.prog = true := by kernel_rfl

set_option maxHeartbeats 4000000 in
theorem rev_getD (xs : List Int) (k : Nat) (h : k < xs.length) : xs.reverse.getD (xs.length - 1 - k) 0 = xs.getD k 0 := by
  have e : xs.length - 1 - (xs.length - 1 - k) = k := by omega
  have h2 : xs.length - 1 - k < xs.length := by omega
  simp [List.getD, h2, e, h]

set_option maxHeartbeats 4000000 in
theorem turned (xs : List Int) (a : Option Addr) (cap : Nat) (w : World) (hh : Held w a xs) (hl : xs.length ≤ 4194304) (hI : ∀ x ∈ xs, Plain.I64 x) (h0 : xs ≠ [] → ∃ b o : Nat, a = some ⟨b, o, none⟩) :
    Calls Try.prog 10 #[.slice a xs.length cap] w fun e w' => e = .returned (.bool true) ∧ Below w.heap.size w w' := by
  obtain ⟨i0, hi, hz0, hz1, hz2⟩ := info_parts info64
  have HI := Lib.hid hI
  clear hI
  obtain ⟨f, F⟩ : ∃ f, Hid (f = Plain.cl (Plain.tot xs)) := ⟨_, Lib.hid rfl⟩
  obtain ⟨r, R⟩ : ∃ r, Hid (r = Plain.p2 (Plain.tot xs)) := ⟨_, Lib.hid rfl⟩
  have hr1 : xs.reverse.length ≤ 4194304 := by rw [List.length_reverse]; exact hl
  have HR := Lib.hid (show ∀ x ∈ xs.reverse, Plain.I64 x from fun x hx => HI.out x (List.mem_reverse.1 hx))
  have F2 := Lib.hid (show f = Plain.cl (Plain.tot xs.reverse) by rw [Plain.tot_reverse]; exact F.out)
  have R2 := Lib.hid (show r = Plain.p2 (Plain.tot xs.reverse) by rw [Plain.tot_reverse]; exact R.out)
  have LR := Lib.hid (show xs.reverse.length = xs.length from List.length_reverse)
  have hbig : i0.bytes * xs.length ≤ 281474976710656 := by rw [hz2]; omega
  have hml : xs.length ≤ maxLen := by unfold maxLen; omega
  by_cases hne : xs = []
  · subst hne
    go_enter Try.func10, Try.ntmps10
    go_wp2_with (at_make; refine wpList_make_full _ rfl _ _ 27 rfl w.heap.size 2 i0 (.int .i64 0) 1 Try.underlying27 hi hz0 hz1 .i64 .i64 _ _ 0 rfl rfl rfl rfl (by simp) (Nat.zero_le _) (Nat.le_refl _) ?_; intro w1 hown hgrow)
    refine wp_loop_rounds 1 ?_
    rw [rounds_succ]
    have hB1 : Below w.heap.size w w1 := (Below.refl _ _).grown hgrow (Nat.le_refl _) (fun k hk => by cases hk)
    go_wp2_with fail
    refine (addAll_any [] (some ⟨w.heap.size, 0, none⟩) 0 f r _ (.inl rfl) hl (by simp) F.out R.out).mono ?_
    rintro e w2 ⟨rfl, hb2⟩
    have hB2 : Below w.heap.size w w2 := hB1.trans (hb2.mono hB1.size)
    go_wp2_with fail
    refine (Sp.addAll_any [] a cap f r _ (.inl rfl) hl (by simp) F.out R.out).mono ?_
    rintro e w3 ⟨rfl, hb3⟩
    have hB3 : Below w.heap.size w w3 := hB2.trans (hb3.mono hB2.size)
    clear hB1 hB2 hb2 hb3 hown hgrow
    go_wp2
    go_ret
    exact ⟨rfl, hB3⟩
  obtain ⟨b, o, rfl⟩ := h0 hne
  obtain ⟨hw, C⟩ : b < w.heap.size ∧ Hid (∀ i, i < xs.length → w.cell? ⟨b, o + i, none⟩ = some (.int .i64 (xs.getD i 0))) := by
    rcases hh with h | ⟨b', o', e, hw, hc⟩
    · exact absurd h hne
    · simp only [Option.some.injEq, Addr.mk.injEq, and_true] at e
      obtain ⟨rfl, rfl⟩ := e
      exact ⟨hw, Lib.hid hc⟩
  clear h0
  go_enter Try.func10, Try.ntmps10
  go_wp2_with (at_make; refine wpList_make_full _ rfl _ _ 27 rfl w.heap.size 2 i0 (.int .i64 0) 1 Try.underlying27 hi hz0 hz1 .i64 .i64 _ _ xs.length rfl rfl rfl rfl hbig hml (Nat.le_refl _) ?_; intro w1 hown hgrow)
  go_loopw [14] (fun i wr => ∃ (k : Nat) (ys : List Value), k ≤ xs.length ∧ i = .int .i64 k ∧ ys.length = xs.length ∧ (∀ j, xs.length - k ≤ j → j < xs.length → ys[j]? = some (.int .i64 (xs.reverse.getD j 0))) ∧ wr.ownsRow w.heap.size 2 1 (.slice (some ⟨w.heap.size, 0, none⟩) xs.length xs.length) xs.length ys ∧ Below w.heap.size w wr)
    (fun i _ => xs.length - (intOf i).toNat)
  case atStart => exact ⟨0, _, Nat.zero_le _, rfl, by simp [size_madeCells], fun j hj hj2 => absurd hj (by omega), hown, (Below.refl _ _).grown hgrow (Nat.le_refl _) (fun k hk => by cases hk)⟩
  case round =>
    obtain ⟨k, ys, hk, rfl, hyl, hys, hown', hB⟩ := hrel
    have Y := Lib.hid hys
    have YL := Lib.hid hyl
    have O := Lib.hid hown'
    clear hys hyl hown' hown hgrow
    by_cases hlen : k < xs.length
    · obtain ⟨x, hxk⟩ : ∃ x, x = xs.getD k 0 := ⟨_, rfl⟩
      have hcell : wr.cell? ⟨b, o + k, none⟩ = some (.int .i64 x) := hxk ▸ (hB.cell (p := ⟨b, o + k, none⟩) hw).trans (C.out k hlen)
      obtain ⟨old, hold⟩ : ∃ old, wr.cell? ⟨w.heap.size, xs.length - 1 - k, none⟩ = some old := ⟨_, (O.out.cellAt (xs.length - 1 - k) (by omega)).trans (List.getElem?_eq_getElem (by rw [YL.out]; omega))⟩
      have hfz : wr.frozen? ⟨w.heap.size, xs.length - 1 - k, none⟩ = false := O.out.frozenAt _
      have XK := Lib.hid hxk
      clear hxk
      go_wp2
      go_roundw
      case rel =>
        refine ⟨k + 1, ys.set (xs.length - 1 - k) (.int .i64 x), by omega, by go_num, by rw [List.length_set]; exact YL.out, fun j hj hj2 => ?_, (O.out.stored _ _).1, hB.setCell (Nat.le_refl _) _⟩
        by_cases hjk : j = xs.length - 1 - k
        · subst hjk; rw [List.getElem?_set_self (by rw [YL.out]; omega), XK.out, rev_getD xs k hlen]
        · rw [List.getElem?_set_ne (fun e => hjk e.symm)]; exact Y.out j (by omega) hj2
      case measure => simp [intOf]; omega
    · obtain rfl : k = xs.length := by omega
      have hd : Held wr (some ⟨w.heap.size, 0, none⟩) xs.reverse := held_of_own O.out LR.out (fun j hj => Y.out j (by omega) hj)
      have hs := hh.kept hB
      have hc1 := addAll_any xs.reverse (some ⟨w.heap.size, 0, none⟩) xs.length f r wr hd hr1 HR.out F2.out R2.out
      rw [LR.out] at hc1
      have HC := Lib.hid hc1
      clear hc1 Y YL O hd
      go_wp2_with fail
      refine HC.out.mono ?_
      rintro e w2 ⟨rfl, hb2⟩
      have hB2 : Below w.heap.size w w2 := hB.trans (hb2.mono hB.size)
      have hs2 := hh.kept hB2
      go_wp2_with fail
      refine (Sp.addAll_any xs (some ⟨b, o, none⟩) cap f r _ hs2 hl HI.out F.out R.out).mono ?_
      rintro e w3 ⟨rfl, hb3⟩
      have hB3 : Below w.heap.size w w3 := hB2.trans (hb3.mono hB2.size)
      clear hB2 hb2 hb3 hB hs hs2 HC
      go_wp2
      go_ret
      exact ⟨rfl, hB3⟩

theorem walk (s0 : Option Addr) (len0 cap0 : Nat) (z0 : List Int) (w : World) (h0 : IsRow .i64 w s0 len0 cap0 z0) (k0 : cap0 ≤ 1048576) :
    Calls Try.prog 10 #[.slice s0 len0 cap0] w fun e w' => e = .returned (.bool true) ∧ Below w.heap.size w w' := by
  obtain ⟨xs, rfl, hh, hI, hc⟩ := row_held h0
  have hn : xs ≠ [] → ∃ b o : Nat, s0 = some ⟨b, o, none⟩ := by
    intro hne
    rcases hh with h | ⟨b, o, e, _, _⟩
    · exact absurd h hne
    · exact ⟨b, o, e⟩
  exact turned xs s0 cap0 w hh (by omega) hI hn

theorem contract (H : Type) (enc : TypeId × Value → H) (W : World) (base : Nat) (args : Array Value) (ds gs : List (DataW H)) (before : List MemPlace)
    (hval : ∀ (j : Nat) t v, Try.f10.params[j]? = some t → args[j]? = some v → Value.okWide Try.prog W .any base t v)
    (hW : DataW.Whole enc Try.prog Try.f10.params.toList Rows.fnAddAllTurnedSpec.vars false W args.toList ds gs before) (hk : Rows.uptoSmall H (ds ++ gs) = true) :
    Calls Try.prog 10 args W fun e W' => ∃ v, e = .returned v ∧ Rows.fnAddAllTurnedSpec.post enc Try.prog Try.f10 false true false false W args v W' := by
  have hW' := hW
  obtain ⟨p, q, hA0, hV, rfl, hfz, hnd⟩ := hW
  have hA : DataW.TrodAll enc Try.prog W 0 (fun _ => true) true Try.f10.params.toList args.toList ds p := hA0
  rw [Try.params10] at hA hval
  obtain ⟨v0, vs0, d0, ds0, p0, q0, hargs, rfl, rfl, h0, r0⟩ := trodAll_cons hA
  obtain ⟨rfl, rfl, rfl⟩ := trodAll_nil r0
  obtain rfl : args = #[v0] := by cases args; simp_all
  obtain ⟨rfl, rfl⟩ := trodVars_none hV
  obtain ⟨s0, len0, cap0, rfl⟩ := okWide_slice Try.underlying27 (hval 0 27 v0 rfl rfl)
  have t0 := h0
  have lt0 : ∀ x ∈ p0, x.block < W.heap.size := by obtain ⟨m, hm⟩ := t0; exact DataW.trod_lt m _ _ _ hm
  obtain ⟨z0, w0, k0⟩ : ∃ zs, IsRow .i64 W s0 len0 cap0 zs ∧ cap0 ≤ Rows.uptoBulk d0 := by
    obtain ⟨fuel, hf⟩ := h0
    rcases open_ints Try.underlying27 Try.underlying2 (by kernel_rfl) hf with ⟨hcs, hx⟩ | ⟨x, l, c, zs, hcs, _, hl, hm, hz, hx, hcell, hwz⟩
    · simp [Value.cells] at hcs
      obtain ⟨rfl, rfl, rfl⟩ := hcs
      exact ⟨[], .inl ⟨rfl, rfl, rfl, rfl⟩, Nat.zero_le _⟩
    · simp [Value.cells] at hcs
      obtain ⟨rfl, rfl, rfl⟩ := hcs
      simp only [Prod.mk.injEq] at hx
      obtain ⟨rfl, _⟩ := hx
      have hz' : zs.length = cap0 := by simpa using hz
      refine ⟨zs, .inr ⟨_, rfl, hl, hm, hz', hcell, hwz⟩, ?_⟩
      have hb := bulks.slice_le (H := H) (lits .i64 (zs.take len0)) (lits .i64 (zs.drop len0))
      simp only [lits, List.length_map, List.length_take, List.length_drop] at hb
      simp only [lits]
      omega
  clear hA0
  refine (walk s0 len0 cap0 z0 W w0 (by have hb := bulks.bound hk; simp only [List.append_nil, Rows.uptoBulkAll] at hb; omega)).mono fun e W' ⟨he, bel⟩ => ?_
  subst he
  exact ⟨_, rfl, _, _, _, [], _, [], hW', trodAll_mk1 (shut_bool Try.underlying4 _), (trodAll_cons_mk (Below.trod laidOut (by kernel_rfl) (of_decide_eq_true (by kernel_rfl)) t0 bel lt0) trodAll_mk0), rfl, bel.frame _, fun h => by cases h⟩

set_option maxRecDepth 100000 in
theorem lifted (os : Os) (started : os.Started) (H : Type) (enc : TypeId × Value → H) (F : Stop.Interp) :
    ReturnsInHanded {} Try.checked os 10 .any ((Rows.OpenSpec.upto Rows.fnAddAllTurnedSpec).pre6 enc Try.prog Try.f10 Rows.fnAddAllTurnedUptoRow.domain false) (((Rows.OpenSpec.upto Rows.fnAddAllTurnedSpec).at F).post enc Try.prog Try.f10 false true false false) := by
  refine returnsInHanded_of_cond (C := Try.checked) (s := Rows.OpenSpec.upto Rows.fnAddAllTurnedSpec) (k := Rows.uptoSmall) rfl own started (by kernel_rfl) Try.func10
    (OpenSpec.witness (enc := enc) (C := Try.checked) (s := Rows.OpenSpec.upto Rows.fnAddAllTurnedSpec) (k := Rows.uptoSmall) rfl false ⟨#[], #[.slice none 0 0], []⟩ 8 (by kernel_rfl) (by kernel_rfl) (by kernel_rfl)
      (x := ([.nil], [], [])) (by kernel_rfl) rfl (by kernel_rfl)) ?_
  intro W base args ds gs before hval hW _ hk _
  exact contract H enc W base args ds gs before hval hW hk

theorem proved : Rows.FnAddAllTurnedUptoSaid :=
  OpenClaim.holds_of_cond 10 Try.f10 rfl rfl rfl rfl rfl rfl rfl ⟨rfl, rfl, rfl, rfl, rfl⟩ rfl rfl rfl rfl rfl (by kernel_rfl) Try.func10 (by kernel_rfl)
    (of_decide_eq_true (by kernel_rfl)) (by unfold Func.isWrapper; first | (rw [if_pos (by decide +kernel)]; kernel_rfl) | (rw [if_neg (by decide +kernel)]; exact ⟨rfl, rfl⟩))
    (fun os started H enc _ F => lifted os started H enc F)
#print axioms proved
end Go.Proofs.Ytgcbgoninaobjaa.fnAddAllTurned
