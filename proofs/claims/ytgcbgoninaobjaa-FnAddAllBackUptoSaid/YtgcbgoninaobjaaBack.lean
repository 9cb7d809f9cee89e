/-
  The walk of the law FnAddAllBack, at lists of at most 1048576 durations.
-/
import Derived.Test.YtgcbgoninaobjaaListI
import Derived.Test.YtgcbgoninaobjaaOwn
import Derived.Deep.DeepCutAuto
namespace Go.Proofs.Ytgcbgoninaobjaa
open Go.RowKit
set_option linter.unusedVariables false

namespace Plain
/-- The durations that have a negative one. -/
def kept (l : List Int) : List Int := l.filter fun x => x != -9223372036854775808
/-- The negative ones of a list, from the last to the one with number j. -/
def back (l : List Int) (j : Nat) : List Int := (l.drop j).reverse.map fun x => -x
theorem kept_hit (l : List Int) (k : Nat) (h : k < l.length) (hk : l.getD k 0 ≠ -9223372036854775808) : kept (l.take (k + 1)) = kept (l.take k) ++ [l.getD k 0] := by
  have e : l.getD k 0 = l[k] := by simp [List.getD, h]
  rw [e] at hk ⊢
  unfold kept
  rw [List.take_succ_eq_append_getElem h, List.filter_append]
  simp [hk]
theorem kept_miss (l : List Int) (k : Nat) (h : k < l.length) (hk : l.getD k 0 = -9223372036854775808) : kept (l.take (k + 1)) = kept (l.take k) := by
  have e : l.getD k 0 = l[k] := by simp [List.getD, h]
  rw [e] at hk
  unfold kept
  rw [List.take_succ_eq_append_getElem h, List.filter_append]
  simp [hk]
theorem kept_le (l : List Int) : (kept l).length ≤ l.length := List.length_filter_le _ _
theorem kept_take_le (l : List Int) (k : Nat) : (kept (l.take k)).length ≤ l.length := by
  have h1 := kept_le (l.take k)
  have h2 := List.length_take_le' k l
  omega
theorem kept_mem {l : List Int} {x : Int} (h : x ∈ kept l) : x ∈ l ∧ x ≠ -9223372036854775808 := by
  unfold kept at h
  have := List.mem_filter.1 h
  exact ⟨this.1, by simpa using this.2⟩
theorem back_len (l : List Int) (j : Nat) : (back l j).length = l.length - j := by unfold back; simp
theorem back_all (l : List Int) : back l l.length = [] := by unfold back; simp
theorem back_step (l : List Int) (j : Nat) (h : j < l.length) : back l j = back l (j + 1) ++ [-(l.getD j 0)] := by
  have e : l.getD j 0 = l[j] := by simp [List.getD, h]
  unfold back
  rw [List.drop_eq_getElem_cons h, List.reverse_cons, List.map_append, e]
  rfl
theorem tot_back (l : List Int) : tot (back l 0) = -tot l := by
  have h : ∀ r : List Int, tot (r.map fun x => -x) = -tot r := by
    intro r
    induction r with
    | nil => rfl
    | cons x r ih => simp only [List.map_cons, tot, ih]; omega
  unfold back
  rw [List.drop_zero, h, tot_reverse]
theorem back_mem {l : List Int} {j : Nat} {y : Int} (h : y ∈ back l j) : ∃ x ∈ l, y = -x := by
  unfold back at h
  obtain ⟨x, hx, rfl⟩ := List.mem_map.1 h
  exact ⟨x, List.mem_of_mem_drop (List.mem_reverse.1 hx), rfl⟩
end Plain

set_option maxHeartbeats 2000000 in
theorem back_row (xs : List Int) (b o cap0 : Nat) (a1 : Int) (w : World) (hw : b < w.heap.size) (hc : ∀ i, i < xs.length → w.cell? ⟨b, o + i, none⟩ = some (.int .i64 (xs.getD i 0))) (hl : xs.length ≤ 1048576) (hI : ∀ x ∈ xs, Plain.I64 x) (h1 : Plain.I64 a1) :
    Calls Try.prog 9 #[.slice (some ⟨b, o, none⟩) xs.length cap0, .int .i64 a1] w fun e w' => e = .returned (.bool true) ∧ Below w.heap.size w w' := by
  obtain ⟨i0, hi, hz0, hz1, hz2⟩ := info_parts info64'
  have C := Lib.hid hc
  have HI := Lib.hid hI
  clear hc hI
  go_enter Try.func9, Try.ntmps9
  go_wp2
  go_loopw [5, 14] (fun v i wr => ∃ k : Nat, k ≤ xs.length ∧ i = .int .i64 k ∧ wr.ownsRow w.heap.size 2 1 v (Plain.kept (xs.take k)).length ((Plain.kept (xs.take k)).map (Value.int .i64)) ∧ Below w.heap.size w wr)
    (fun _ i _ => xs.length - (intOf i).toNat)
  case atStart => exact ⟨0, Nat.zero_le _, rfl, World.ownsRow_nil _ _ _ _, Below.refl _ _⟩
  case round =>
    obtain ⟨k, hk, rfl, hown, hB⟩ := hrel
    by_cases hlen : k < xs.length
    · obtain ⟨x, hxk⟩ : ∃ x, x = xs.getD k 0 := ⟨_, rfl⟩
      have hcell : wr.cell? ⟨b, o + k, none⟩ = some (.int .i64 x) := hxk ▸ (hB.cell (p := ⟨b, o + k, none⟩) hw).trans (C.out k hlen)
      by_cases hx : x = -9223372036854775808
      · have t : (x != -9223372036854775808) = false := by simpa using hx
        have E := Lib.hid (Plain.kept_miss xs k hlen (hxk ▸ hx))
        have O := Lib.hid hown
        clear hx hxk hown
        go_wp2
        go_roundw
        case rel => exact ⟨k + 1, by omega, by go_num, by rw [E.out]; exact O.out, hB⟩
        case measure => simp [intOf]; omega
      · have t : (x != -9223372036854775808) = true := by simpa using hx
        have E := Lib.hid (show Plain.kept (xs.take (k + 1)) = Plain.kept (xs.take k) ++ [x] by rw [hxk]; exact Plain.kept_hit xs k hlen (hxk ▸ hx))
        have kl := Plain.kept_take_le xs k
        obtain ⟨L, hL⟩ : ∃ L, L = Plain.kept (xs.take k) := ⟨_, rfl⟩
        rw [← hL] at hown kl
        have E2 := Lib.hid (show Plain.kept (xs.take (k + 1)) = L ++ [x] by rw [hL]; exact E.out)
        have y1 : L.length + 1 ≤ maxLen := by unfold maxLen; omega
        have y2 : (L.length + 1) * 8 ≤ 140737488355328 := by omega
        have y3 : w.heap.size ≤ (wr.alloc (.cells #[.int .i64 x] 2)).heap.size := Nat.le_trans hB.size (by simp)
        clear hx hxk hL E
        go_wp2_with (at_builtin; refine wpList_append_own _ rfl (.tmp 20) (.tmp 22) 27 rfl w.heap.size 2 i0 (.int .i64 0) 1 8 Try.underlying27 hi hz0 hz1 hz2 rfl (by decide) _ L.length (L.map (Value.int .i64)) rfl (hown.alloc _) ⟨wr.heap.size, 0, none⟩ 1 1 ([x].map (Value.int .i64)) rfl rfl (news_one _ _ _) (one_cells _) y1 y2 y3 ?_; intro v1 w1 hown1 hgrow1 _)
        have hB1 : Below w.heap.size w w1 := (hB.alloc hB.size _).grown hgrow1 y3 (fun k hk => ((hown.lt k hk).1))
        have O := Lib.hid (show w1.ownsRow w.heap.size 2 1 v1 (Plain.kept (xs.take (k + 1))).length ((Plain.kept (xs.take (k + 1))).map (Value.int .i64)) by rw [E2.out, List.map_append, List.length_append]; exact hown1)
        clear hown hown1 hgrow1 hB
        go_wp2
        go_roundw
        case rel => exact ⟨k + 1, by omega, by go_num, O.out, hB1⟩
        case measure => simp [intOf]; omega
    · obtain rfl : k = xs.length := by omega
      rw [List.take_length] at hown
      obtain ⟨L, hL⟩ : ∃ L, L = Plain.kept xs := ⟨_, rfl⟩
      have kl := Plain.kept_le xs
      rw [← hL] at hown kl
      have LI := Lib.hid (show ∀ x ∈ L, Plain.I64 x ∧ x ≠ -9223372036854775808 from fun x hx => (by rw [hL] at hx; exact ⟨HI.out x (Plain.kept_mem hx).1, (Plain.kept_mem hx).2⟩))
      clear hL
      have y1 : L.length + 1 ≤ maxLen := by unfold maxLen; omega
      have y2 : (L.length + 1) * 8 ≤ 140737488355328 := by omega
      have y3 : w.heap.size ≤ (wr.alloc (.cells #[.int .i64 a1] 2)).heap.size := Nat.le_trans hB.size (by simp)
      have FORM := Lib.hid (own_form hown)
      go_upto_region 8 with fail
      go_cut [5, 8] (fun v n wx => v = u5 ∧ n = .int .i64 L.length ∧ wx = wr)
      case first =>
        rcases FORM.out.2 with ⟨hv, he⟩ | ⟨g, cp, hv, _⟩
        · rw [hv]
          go_wp2_with fail
          go_meet
          exact ⟨by first | rfl | exact hv.symm, by rw [he]; rfl, rfl⟩
        · rw [hv]
          go_wp2_with fail
          go_meet
          exact ⟨by first | rfl | exact hv.symm, rfl, rfl⟩
      case rest =>
        obtain ⟨rfl, rfl, rfl⟩ := hcut
        go_wp2_with (at_builtin; refine wpList_append_own _ rfl (.tmp 27) (.tmp 29) 27 rfl w.heap.size 2 i0 (.int .i64 0) 1 8 Try.underlying27 hi hz0 hz1 hz2 rfl (by decide) _ L.length (L.map (Value.int .i64)) rfl (hown.alloc _) ⟨wc.heap.size, 0, none⟩ 1 1 ([a1].map (Value.int .i64)) rfl rfl (news_one _ _ _) (one_cells _) y1 y2 y3 ?_; intro v1 w1 hown1 hgrow1 _)
        have hB1 : Below w.heap.size w w1 := (hB.alloc hB.size _).grown hgrow1 y3 (fun k hk => ((hown.lt k hk).1))
        have O1 := Lib.hid (show w1.ownsRow w.heap.size 2 1 v1 (L ++ [a1] ++ Plain.back L L.length).length ((L ++ [a1] ++ Plain.back L L.length).map (Value.int .i64)) by rw [Plain.back_all, List.append_nil, List.map_append, List.length_append]; exact hown1)
        clear hown hown1 hgrow1 hB FORM y1 y2 y3
        go_loopw [5, 9] (fun v i wr => ∃ j : Nat, j ≤ L.length ∧ i = .int .i64 ((j : Int) - 1) ∧ wr.ownsRow w.heap.size 2 1 v (L ++ [a1] ++ Plain.back L j).length ((L ++ [a1] ++ Plain.back L j).map (Value.int .i64)) ∧ Below w.heap.size w wr)
          (fun _ i _ => (intOf i + 1).toNat)
        case atStart => exact ⟨L.length, Nat.le_refl _, rfl, O1.out, hB1⟩
        case round =>
          clear O1 hB1
          obtain ⟨j, hj, rfl, hown, hB⟩ := hrel
          by_cases hj0 : 1 ≤ j
          · obtain ⟨p, rfl⟩ : ∃ p, j = p + 1 := ⟨j - 1, by omega⟩
            obtain ⟨M, hM⟩ : ∃ M, M = L ++ [a1] ++ Plain.back L (p + 1) := ⟨_, rfl⟩
            rw [← hM] at hown
            have ml : M.length = L.length + 1 + (L.length - (p + 1)) := by rw [hM]; simp only [List.length_append, List.length_cons, List.length_nil, Plain.back_len]
            have ml1 : M.length ≤ 2097153 := by omega
            have pM : p < M.length := by omega
            obtain ⟨x, hx⟩ : ∃ x, x = L.getD p 0 := ⟨_, rfl⟩
            have xM : M.getD p 0 = x := by
              rw [hM, hx, List.append_assoc]
              simp [List.getD, List.getElem?_append_left (show p < L.length by omega)]
            have xi : Plain.I64 x ∧ x ≠ -9223372036854775808 := by
              have e : x = L[p]'(by omega) := by rw [hx]; simp [List.getD, show p < L.length by omega]
              rw [e]; exact LI.out _ (List.getElem_mem _)
            obtain ⟨x1, x2⟩ : -9223372036854775807 ≤ x ∧ x ≤ 9223372036854775807 := by have := xi.1; unfold Plain.I64 at this; omega
            obtain ⟨g, cp, hv, hg, hgl, hheld⟩ : ∃ g cp : Nat, u5 = .slice (some ⟨g, 0, none⟩) M.length cp ∧ w.heap.size ≤ g ∧ g < wr.heap.size ∧ Held wr (some ⟨g, 0, none⟩) M := by
              rcases (own_form hown).2 with ⟨_, h⟩ | h
              · rw [h] at pM; simp at pM
              · exact h
            have hcell : wr.cell? ⟨g, p, none⟩ = some (.int .i64 x) := by
              rcases hheld with h | ⟨b', o', e, _, hc⟩
              · rw [h] at pM; simp at pM
              · simp only [Option.some.injEq, Addr.mk.injEq, and_true] at e
                obtain ⟨rfl, rfl⟩ := e
                have := hc p pM
                rw [xM, Nat.zero_add] at this
                exact this
            have E := Lib.hid (show L ++ [a1] ++ Plain.back L p = M ++ [-x] by rw [Plain.back_step L p (by omega), hM, hx, List.append_assoc (L ++ [a1])])
            have y1 : M.length + 1 ≤ maxLen := by unfold maxLen; omega
            have y2 : (M.length + 1) * 8 ≤ 140737488355328 := by omega
            have y3 : w.heap.size ≤ (wr.alloc (.cells #[.int .i64 (-x)] 2)).heap.size := Nat.le_trans hB.size (by simp)
            have pi : (p : Int) < (M.length : Int) := by omega
            clear hM ml hx xM xi hheld
            rw [hv]
            rw [hv] at hown
            go_wp2_with (at_builtin; refine wpList_append_own _ rfl (.tmp 37) (.tmp 43) 27 rfl w.heap.size 2 i0 (.int .i64 0) 1 8 Try.underlying27 hi hz0 hz1 hz2 rfl (by decide) _ M.length (M.map (Value.int .i64)) rfl (hown.alloc _) ⟨wr.heap.size, 0, none⟩ 1 1 ([-x].map (Value.int .i64)) rfl rfl (news_one _ _ _) (one_cells _) y1 y2 y3 ?_; intro v2 w2 hown2 hgrow2 _)
            have hB2 : Below w.heap.size w w2 := (hB.alloc hB.size _).grown hgrow2 y3 (fun k hk => ((hown.lt k hk).1))
            have O := Lib.hid (show w2.ownsRow w.heap.size 2 1 v2 (L ++ [a1] ++ Plain.back L p).length ((L ++ [a1] ++ Plain.back L p).map (Value.int .i64)) by rw [E.out, List.map_append, List.length_append]; exact hown2)
            clear hown hown2 hgrow2 hB hcell hv
            go_wp2
            go_roundw
            case rel => exact ⟨p, by omega, by go_num, O.out, hB2⟩
            case measure => simp [intOf]
          · obtain rfl : j = 0 := by omega
            obtain ⟨M, hM⟩ : ∃ M, M = L ++ [a1] ++ Plain.back L 0 := ⟨_, rfl⟩
            rw [← hM] at hown
            have ml : M.length = L.length + 1 + L.length := by rw [hM]; simp only [List.length_append, List.length_cons, List.length_nil, Plain.back_len, Nat.sub_zero]
            have mt : Plain.tot M = a1 := by rw [hM, Plain.tot_append, Plain.tot_append, Plain.tot_back]; simp only [Plain.tot]; omega
            have MI := Lib.hid (show ∀ y ∈ M, Plain.I64 y from fun y hy => (by
              rw [hM] at hy
              rcases List.mem_append.1 hy with h | h
              · rcases List.mem_append.1 h with h | h
                · exact (LI.out y h).1
                · simp at h; rw [h]; exact h1
              · obtain ⟨x, hx, rfl⟩ := Plain.back_mem h
                have := LI.out x hx
                have t := this.1
                unfold Plain.I64 at t ⊢
                omega))
            obtain ⟨g, cp, hv, hg, hgl, hheld⟩ : ∃ g cp : Nat, u5 = .slice (some ⟨g, 0, none⟩) M.length cp ∧ w.heap.size ≤ g ∧ g < wr.heap.size ∧ Held wr (some ⟨g, 0, none⟩) M := by
              rcases (own_form hown).2 with ⟨_, h⟩ | h
              · rw [h] at ml; simp only [List.length_nil] at ml; omega
              · exact h
            have hml : M.length ≤ 4194304 := by omega
            have F := Lib.hid (show a1 = Plain.cl (Plain.tot M) by rw [mt]; exact (Plain.cl_in h1.1 h1.2).symm)
            have R := Lib.hid (show 0 = Plain.p2 (Plain.tot M) by rw [mt]; exact (Plain.p2_zero h1.1 h1.2).symm)
            clear hM ml mt hown
            rw [hv]
            clear hv
            go_wp2_with fail
            refine (addAll_any M (some ⟨g, 0, none⟩) cp a1 0 _ hheld hml MI.out F.out R.out).mono ?_
            rintro e w2 ⟨rfl, hb2⟩
            have hB2 : Below w.heap.size w w2 := hB.trans (hb2.mono hB.size)
            clear hb2 hB hheld
            go_wp2
            go_ret
            exact ⟨rfl, hB2⟩

set_option maxHeartbeats 2000000 in
theorem back_nil (a : Option Addr) (cap0 : Nat) (a1 : Int) (w : World) (h1 : Plain.I64 a1) :
    Calls Try.prog 9 #[.slice a 0 cap0, .int .i64 a1] w fun e w' => e = .returned (.bool true) ∧ Below w.heap.size w w' := by
  obtain ⟨i0, hi, hz0, hz1, hz2⟩ := info_parts info64'
  have y1 : 0 + 1 ≤ maxLen := by unfold maxLen; omega
  have y2 : (0 + 1) * 8 ≤ 140737488355328 := by omega
  have y3 : w.heap.size ≤ (w.alloc (.cells #[.int .i64 a1] 2)).heap.size := by simp
  have hown : w.ownsRow w.heap.size 2 1 (.slice none 0 0) 0 (([] : List Int).map (Value.int .i64)) := World.ownsRow_nil _ _ _ _
  have mt : Plain.tot [a1] = a1 := by simp [Plain.tot]
  have F := Lib.hid (show a1 = Plain.cl (Plain.tot [a1]) by rw [mt]; exact (Plain.cl_in h1.1 h1.2).symm)
  have R := Lib.hid (show 0 = Plain.p2 (Plain.tot [a1]) by rw [mt]; exact (Plain.p2_zero h1.1 h1.2).symm)
  have MI := Lib.hid (show ∀ y ∈ [a1], Plain.I64 y from fun y hy => (by simp at hy; rw [hy]; exact h1))
  clear mt
  go_enter Try.func9, Try.ntmps9
  go_wp2
  refine wp_loop_rounds 1 ?_
  rw [rounds_succ]
  go_wp2_with (at_builtin; refine wpList_append_own _ rfl (.tmp 27) (.tmp 29) 27 rfl w.heap.size 2 i0 (.int .i64 0) 1 8 Try.underlying27 hi hz0 hz1 hz2 rfl (by decide) _ 0 (([] : List Int).map (Value.int .i64)) rfl (hown.alloc _) ⟨w.heap.size, 0, none⟩ 1 1 ([a1].map (Value.int .i64)) rfl rfl (news_one _ _ _) (one_cells _) y1 y2 y3 ?_; intro v1 w1 hown1 hgrow1 _)
  have hB1 : Below w.heap.size w w1 := ((Below.refl _ w).alloc (Nat.le_refl _) _).grown hgrow1 y3 (fun k hk => (by cases hk))
  obtain ⟨g, cp, hv, hg, hgl, hheld⟩ : ∃ g cp : Nat, v1 = .slice (some ⟨g, 0, none⟩) (0 + 1) cp ∧ w.heap.size ≤ g ∧ g < w1.heap.size ∧ Held w1 (some ⟨g, 0, none⟩) [a1] := by
    rcases (own_form (xs := [a1]) hown1).2 with ⟨_, h⟩ | h
    · exact absurd h (by simp)
    · exact h
  clear hown hown1 hgrow1
  rw [hv]
  clear hv
  refine wp_loop_rounds 1 ?_
  rw [rounds_succ]
  go_wp2_with fail
  refine (addAll_any [a1] (some ⟨g, 0, none⟩) cp a1 0 _ hheld (by simp) MI.out F.out R.out).mono ?_
  rintro e w2 ⟨rfl, hb2⟩
  have hB2 : Below w.heap.size w w2 := hB1.trans (hb2.mono hB1.size)
  clear hb2 hB1 hheld
  go_wp2
  go_ret
  exact ⟨rfl, hB2⟩

theorem back_any (xs : List Int) (a : Option Addr) (cap0 : Nat) (a1 : Int) (w : World) (h : Held w a xs) (hl : xs.length ≤ 1048576) (hI : ∀ x ∈ xs, Plain.I64 x) (h1 : Plain.I64 a1) :
    Calls Try.prog 9 #[.slice a xs.length cap0, .int .i64 a1] w fun e w' => e = .returned (.bool true) ∧ Below w.heap.size w w' := by
  rcases h with rfl | ⟨b, o, rfl, hw, hc⟩
  · exact back_nil a cap0 a1 w h1
  · exact back_row xs b o cap0 a1 w hw hc hl hI h1

end Go.Proofs.Ytgcbgoninaobjaa
