/-
  The walk of the law FnUnixStep, at lists of at most 1048576 durations.
-/
import Derived.Test.YtedknjcbpklihaaUnix
import Derived.Test.YtedknjcbpklihaaOwn
namespace Go.Proofs.Ytedknjcbpklihaa
open Go.RowKit
set_option linter.unusedVariables false

theorem unixN (xs : List Int) (n : Nat) (hn : xs.length = n) (a : Option Addr) (cap : Nat) (d : Int) (ok : Bool) (w : World) (h : Held w a xs)
    (hl : xs.length ≤ 4194304) (hx : ∀ x ∈ xs, Plain.I64 x) (hd : d = Plain.cl (Plain.tot xs - 62135596800000000000)) (hok : ok = decide (62135596800000000000 + d = Plain.tot xs)) :
    Calls Try.prog 15 #[.slice a n cap] w fun e w' => e = .returned (.tuple #[.int .i64 d, .bool ok]) ∧ Below w.heap.size w w' := by
  subst hn; exact Sp.unix_any xs a cap d ok w h hl hx hd hok
theorem unixOfN (xs : List Int) (n : Nat) (hn : xs.length = n) (a : Option Addr) (cap : Nat) (u : Int) (w : World) (h : Held w a xs)
    (hl : xs.length ≤ 4194304) (hx : ∀ x ∈ xs, Plain.I64 x) (hu : u = Plain.un (Plain.tot xs)) :
    Calls Try.prog 16 #[.slice a n cap] w fun e w' => e = .returned (.int .i64 u) ∧ Below w.heap.size w w' := by
  subst hn; exact unixOf_any xs a cap u w h hl hx hu

set_option maxHeartbeats 2000000 in
theorem step_row (xs : List Int) (ad : Addr) (cap0 : Nat) (a1 : Int) (w : World) (hh : Held w (some ad) xs) (hc : ∀ j u, (xs.map (Value.int .i64))[j]? = some u → w.cell? (ad.add j) = some u) (hl : xs.length ≤ 1048576) (hI : ∀ x ∈ xs, Plain.I64 x) (h1 : Plain.I64 a1) :
    Calls Try.prog 4 #[.slice (some ad) xs.length cap0, .int .i64 a1] w fun e w' => e = .returned (.bool true) ∧ Below w.heap.size w w' := by
  obtain ⟨i0, hi, hz0, hz1, hz2⟩ := info_parts info64'
  have NW := Lib.hid hc
  have hlm : (xs.map (Value.int .i64)).length = xs.length * 1 := by simp
  have LM := Lib.hid hlm
  have y1 : 0 + xs.length ≤ maxLen := by unfold maxLen; omega
  have y2 : (0 + xs.length) * 8 ≤ 140737488355328 := by omega
  have y4 : xs.length + 1 ≤ maxLen := by unfold maxLen; omega
  have y5 : (xs.length + 1) * 8 ≤ 140737488355328 := by omega
  have hl4 : xs.length ≤ 4194304 := by omega
  have HI := Lib.hid hI
  clear hc hI hlm
  go_enter Try.func4, Try.ntmps4
  go_wp2_with (first | (at_builtin; refine wpList_append_own _ rfl (.const (.slice none 0 0)) (.tmp 10) 22 rfl w.heap.size 2 i0 (.int .i64 0) 1 8 Try.underlying22 hi hz0 hz1 hz2 rfl (by decide) _ 0 [] rfl (World.ownsRow_nil _ _ _ _) ad xs.length cap0 (xs.map (Value.int .i64)) rfl LM.out NW.out (one_cells _) y1 y2 (Nat.le_refl _) ?_; intro v1 w1 hown1 hgrow1 _; simp only [Nat.zero_add, List.nil_append] at hown1; have hB1 : Below w.heap.size w w1 := (Below.refl _ _).grown hgrow1 (Nat.le_refl _) (fun k hk => (by cases hk)); have y3 : w.heap.size ≤ (w1.alloc (.cells #[.int .i64 a1] 2)).heap.size := Nat.le_trans hB1.size (by simp)) | (at_builtin; refine wpList_append_own _ rfl (.tmp 11) (.tmp 13) 22 rfl w.heap.size 2 i0 (.int .i64 0) 1 8 Try.underlying22 hi hz0 hz1 hz2 rfl (by decide) v1 xs.length (xs.map (Value.int .i64)) rfl (hown1.alloc _) ⟨w1.heap.size, 0, none⟩ 1 1 ([a1].map (Value.int .i64)) rfl rfl (news_one _ _ _) (one_cells _) y4 y5 y3 ?_; intro v2 w2 hown2 hgrow2 _))
  have hB2 : Below w.heap.size w w2 := (hB1.alloc hB1.size _).grown hgrow2 y3 (fun k hk => ((hown1.lt k hk).1))
  obtain ⟨hmn, hform⟩ := own_form (xs := xs ++ [a1]) (by rw [List.map_append]; exact hown2)
  obtain ⟨g, cp, hv, _, _, hm2⟩ : ∃ g cp : Nat, v2 = .slice (some ⟨g, 0, none⟩) (xs.length + 1) cp ∧ w.heap.size ≤ g ∧ g < w2.heap.size ∧ Held w2 (some ⟨g, 0, none⟩) (xs ++ [a1]) := by
    rcases hform with ⟨_, h⟩ | h
    · exact absurd h (by simp)
    · exact h
  rw [hv]
  clear hv hform hown1 hown2 hgrow1 hgrow2 hB1
  obtain ⟨d1, D1⟩ : ∃ d, Hid (d = Plain.cl (Plain.tot xs - 62135596800000000000)) := ⟨_, Lib.hid rfl⟩
  obtain ⟨d2, D2⟩ : ∃ d, Hid (d = Plain.cl (Plain.tot (xs ++ [a1]) - 62135596800000000000)) := ⟨_, Lib.hid rfl⟩
  have hml : (xs ++ [a1]).length ≤ 4194304 := by rw [hmn]; omega
  have HM := Lib.hid (show ∀ x ∈ xs ++ [a1], Plain.I64 x from fun x hx => (by rcases List.mem_append.1 hx with h | h; exact HI.out x h; simp at h; rw [h]; exact h1))
  have HN := Lib.hid hmn
  have TT := Lib.hid (show Plain.tot (xs ++ [a1]) = Plain.tot xs + a1 by rw [Plain.tot_append]; simp [Plain.tot])
  clear hmn
  have hmn := HN.out
  by_cases c1 : 62135596800000000000 + d1 = Plain.tot xs
  · have O1 := Lib.hid (show true = decide (62135596800000000000 + d1 = Plain.tot xs) by simpa using c1)
    by_cases c2 : 62135596800000000000 + d2 = Plain.tot (xs ++ [a1])
    · have O2 := Lib.hid (show true = decide (62135596800000000000 + d2 = Plain.tot (xs ++ [a1])) by simpa using c2)
      have j1 := Plain.I64_of_cl D1.out
      have j2 := Plain.I64_of_cl D2.out
      have U1 := Lib.hid (show d1 = Plain.un (Plain.tot xs) by rw [Plain.un_in (by rw [← c1]; unfold Plain.I64 at *; omega)]; omega)
      have U2 := Lib.hid (show d2 = Plain.un (Plain.tot (xs ++ [a1])) by rw [Plain.un_in (by rw [← c2]; unfold Plain.I64 at *; omega)]; omega)
      have e2 : d2 = d1 + a1 := by have := TT.out; omega
      obtain ⟨l1, u1⟩ : -9223372036854775808 ≤ a1 ∧ a1 ≤ 9223372036854775807 := ⟨h1.1, h1.2⟩
      obtain ⟨l2, u2⟩ : -9223372036854775808 ≤ d2 - d1 ∧ d2 - d1 ≤ 9223372036854775807 := by omega
      have k : (d2 - d1 == a1) = true := by simp; omega
      clear c1 c2 e2 j1 j2
      go_wp2_with fail
      refine (unixN xs xs.length rfl (some ad) cap0 d1 true _ (hh.kept hB2) hl4 HI.out D1.out O1.out).mono ?_
      rintro e w3 ⟨rfl, hb3⟩
      have hB3 : Below w.heap.size w w3 := hB2.trans (hb3.mono hB2.size)
      have hm3 := hm2.kept hb3
      clear hb3 hB2 hm2
      go_wp2_with fail
      refine (unixN (xs ++ [a1]) (xs.length + 1) hmn (some ⟨g, 0, none⟩) cp d2 true _ hm3 hml HM.out D2.out O2.out).mono ?_
      rintro e w4 ⟨rfl, hb4⟩
      have hB4 : Below w.heap.size w w4 := hB3.trans (hb4.mono hB3.size)
      have hm4 := hm3.kept hb4
      clear hb4 hB3 hm3
      go_wp2_with fail
      refine (unixOfN (xs ++ [a1]) (xs.length + 1) hmn (some ⟨g, 0, none⟩) cp d2 _ hm4 hml HM.out U2.out).mono ?_
      rintro e w5 ⟨rfl, hb5⟩
      have hB5 : Below w.heap.size w w5 := hB4.trans (hb5.mono hB4.size)
      have hm5 := hm4.kept hb5
      clear hb5 hB4 hm4
      go_wp2_with fail
      refine (unixOfN (xs ++ [a1]) (xs.length + 1) hmn (some ⟨g, 0, none⟩) cp d2 _ hm5 hml HM.out U2.out).mono ?_
      rintro e w6 ⟨rfl, hb6⟩
      have hB6 : Below w.heap.size w w6 := hB5.trans (hb6.mono hB5.size)
      clear hb6 hB5 hm5
      go_wp2_with fail
      refine (unixOfN xs xs.length rfl (some ad) cap0 d1 _ (hh.kept hB6) hl4 HI.out U1.out).mono ?_
      rintro e w7 ⟨rfl, hb7⟩
      have hB7 : Below w.heap.size w w7 := hB6.trans (hb7.mono hB6.size)
      clear hb7 hB6
      go_wp2
      go_ret
      exact ⟨rfl, hB7⟩
    · have O2 := Lib.hid (show false = decide (62135596800000000000 + d2 = Plain.tot (xs ++ [a1])) by simpa using c2)
      clear c1 c2
      go_wp2_with fail
      refine (unixN xs xs.length rfl (some ad) cap0 d1 true _ (hh.kept hB2) hl4 HI.out D1.out O1.out).mono ?_
      rintro e w3 ⟨rfl, hb3⟩
      have hB3 : Below w.heap.size w w3 := hB2.trans (hb3.mono hB2.size)
      have hm3 := hm2.kept hb3
      clear hb3 hB2 hm2
      go_wp2_with fail
      refine (unixN (xs ++ [a1]) (xs.length + 1) hmn (some ⟨g, 0, none⟩) cp d2 false _ hm3 hml HM.out D2.out O2.out).mono ?_
      rintro e w4 ⟨rfl, hb4⟩
      have hB4 : Below w.heap.size w w4 := hB3.trans (hb4.mono hB3.size)
      have hm4 := hm3.kept hb4
      clear hb4 hB3 hm3
      go_wp2
      go_ret
      exact ⟨rfl, hB4⟩
  · have O1 := Lib.hid (show false = decide (62135596800000000000 + d1 = Plain.tot xs) by simpa using c1)
    obtain ⟨is, O2⟩ : ∃ b : Bool, Hid (b = decide (62135596800000000000 + d2 = Plain.tot (xs ++ [a1]))) := ⟨_, Lib.hid rfl⟩
    clear c1
    go_wp2_with fail
    refine (unixN xs xs.length rfl (some ad) cap0 d1 false _ (hh.kept hB2) hl4 HI.out D1.out O1.out).mono ?_
    rintro e w3 ⟨rfl, hb3⟩
    have hB3 : Below w.heap.size w w3 := hB2.trans (hb3.mono hB2.size)
    have hm3 := hm2.kept hb3
    clear hb3 hB2 hm2
    go_wp2_with fail
    refine (unixN (xs ++ [a1]) (xs.length + 1) hmn (some ⟨g, 0, none⟩) cp d2 is _ hm3 hml HM.out D2.out O2.out).mono ?_
    rintro e w4 ⟨rfl, hb4⟩
    have hB4 : Below w.heap.size w w4 := hB3.trans (hb4.mono hB3.size)
    have hm4 := hm3.kept hb4
    clear hb4 hB3 hm3
    go_wp2
    go_ret
    exact ⟨rfl, hB4⟩

set_option maxHeartbeats 2000000 in
theorem step_nil (a1 : Int) (w : World) (h1 : Plain.I64 a1) :
    Calls Try.prog 4 #[.slice none 0 0, .int .i64 a1] w fun e w' => e = .returned (.bool true) ∧ Below w.heap.size w w' := by
  obtain ⟨i0, hi, hz0, hz1, hz2⟩ := info_parts info64'
  have y4 : 0 + 1 ≤ maxLen := by unfold maxLen; omega
  have y5 : (0 + 1) * 8 ≤ 140737488355328 := by omega
  have y3 : w.heap.size ≤ (w.alloc (.cells #[.int .i64 a1] 2)).heap.size := by simp
  have hl4 : ([] : List Int).length ≤ 4194304 := by simp
  have hh : Held w none [] := .inl rfl
  have HI := Lib.hid (show ∀ x ∈ ([] : List Int), Plain.I64 x by simp)
  have hown1 : w.ownsRow w.heap.size 2 1 (.slice none 0 0) 0 (([] : List Int).map (Value.int .i64)) := World.ownsRow_nil _ _ _ _
  have hB1 : Below w.heap.size w w := Below.refl _ _
  have hgrow1 := hB1
  go_enter Try.func4, Try.ntmps4
  go_wp2_with (first | (at_builtin; refine wpList_append_own_none rfl (.const (.slice none 0 0)) (.tmp 10) 22 rfl w.heap.size 2 i0 1 Try.underlying22 hi (.slice none 0 0) 0 (([] : List Int).map (Value.int .i64)) rfl hown1 rfl ?_) | (at_builtin; refine wpList_append_own _ rfl (.tmp 11) (.tmp 13) 22 rfl w.heap.size 2 i0 (.int .i64 0) 1 8 Try.underlying22 hi hz0 hz1 hz2 rfl (by decide) (.slice none 0 0) 0 (([] : List Int).map (Value.int .i64)) rfl (hown1.alloc _) ⟨w.heap.size, 0, none⟩ 1 1 ([a1].map (Value.int .i64)) rfl rfl (news_one _ _ _) (one_cells _) y4 y5 y3 ?_; intro v2 w2 hown2 hgrow2 _))
  have hB2 : Below w.heap.size w w2 := (hB1.alloc hB1.size _).grown hgrow2 y3 (fun k hk => (by cases hk))
  obtain ⟨hmn, hform⟩ := own_form (xs := ([] : List Int) ++ [a1]) (by rw [List.map_append]; exact hown2)
  obtain ⟨g, cp, hv, _, _, hm2⟩ : ∃ g cp : Nat, v2 = .slice (some ⟨g, 0, none⟩) (0 + 1) cp ∧ w.heap.size ≤ g ∧ g < w2.heap.size ∧ Held w2 (some ⟨g, 0, none⟩) (([] : List Int) ++ [a1]) := by
    rcases hform with ⟨_, h⟩ | h
    · exact absurd h (by simp)
    · exact h
  rw [hv]
  clear hv hform hown1 hown2 hgrow1 hgrow2 hB1
  obtain ⟨d1, D1⟩ : ∃ d, Hid (d = Plain.cl (Plain.tot ([] : List Int) - 62135596800000000000)) := ⟨_, Lib.hid rfl⟩
  obtain ⟨d2, D2⟩ : ∃ d, Hid (d = Plain.cl (Plain.tot (([] : List Int) ++ [a1]) - 62135596800000000000)) := ⟨_, Lib.hid rfl⟩
  have hml : (([] : List Int) ++ [a1]).length ≤ 4194304 := by rw [hmn]; omega
  have HM := Lib.hid (show ∀ x ∈ ([] : List Int) ++ [a1], Plain.I64 x from fun x hx => (by rcases List.mem_append.1 hx with h | h; exact HI.out x h; simp at h; rw [h]; exact h1))
  have HN := Lib.hid hmn
  have TT := Lib.hid (show Plain.tot (([] : List Int) ++ [a1]) = Plain.tot ([] : List Int) + a1 by rw [Plain.tot_append]; simp [Plain.tot])
  clear hmn
  have hmn := HN.out
  by_cases c1 : 62135596800000000000 + d1 = Plain.tot ([] : List Int)
  · have O1 := Lib.hid (show true = decide (62135596800000000000 + d1 = Plain.tot ([] : List Int)) by simpa using c1)
    by_cases c2 : 62135596800000000000 + d2 = Plain.tot (([] : List Int) ++ [a1])
    · have O2 := Lib.hid (show true = decide (62135596800000000000 + d2 = Plain.tot (([] : List Int) ++ [a1])) by simpa using c2)
      have j1 := Plain.I64_of_cl D1.out
      have j2 := Plain.I64_of_cl D2.out
      have U1 := Lib.hid (show d1 = Plain.un (Plain.tot ([] : List Int)) by rw [Plain.un_in (by rw [← c1]; unfold Plain.I64 at *; omega)]; omega)
      have U2 := Lib.hid (show d2 = Plain.un (Plain.tot (([] : List Int) ++ [a1])) by rw [Plain.un_in (by rw [← c2]; unfold Plain.I64 at *; omega)]; omega)
      have e2 : d2 = d1 + a1 := by have := TT.out; omega
      obtain ⟨l1, u1⟩ : -9223372036854775808 ≤ a1 ∧ a1 ≤ 9223372036854775807 := ⟨h1.1, h1.2⟩
      obtain ⟨l2, u2⟩ : -9223372036854775808 ≤ d2 - d1 ∧ d2 - d1 ≤ 9223372036854775807 := by omega
      have k : (d2 - d1 == a1) = true := by simp; omega
      clear c1 c2 e2 j1 j2
      go_wp2_with fail
      refine (unixN ([] : List Int) 0 rfl none 0 d1 true _ (hh.kept hB2) hl4 HI.out D1.out O1.out).mono ?_
      rintro e w3 ⟨rfl, hb3⟩
      have hB3 : Below w.heap.size w w3 := hB2.trans (hb3.mono hB2.size)
      have hm3 := hm2.kept hb3
      clear hb3 hB2 hm2
      go_wp2_with fail
      refine (unixN (([] : List Int) ++ [a1]) (0 + 1) hmn (some ⟨g, 0, none⟩) cp d2 true _ hm3 hml HM.out D2.out O2.out).mono ?_
      rintro e w4 ⟨rfl, hb4⟩
      have hB4 : Below w.heap.size w w4 := hB3.trans (hb4.mono hB3.size)
      have hm4 := hm3.kept hb4
      clear hb4 hB3 hm3
      go_wp2_with fail
      refine (unixOfN (([] : List Int) ++ [a1]) (0 + 1) hmn (some ⟨g, 0, none⟩) cp d2 _ hm4 hml HM.out U2.out).mono ?_
      rintro e w5 ⟨rfl, hb5⟩
      have hB5 : Below w.heap.size w w5 := hB4.trans (hb5.mono hB4.size)
      have hm5 := hm4.kept hb5
      clear hb5 hB4 hm4
      go_wp2_with fail
      refine (unixOfN (([] : List Int) ++ [a1]) (0 + 1) hmn (some ⟨g, 0, none⟩) cp d2 _ hm5 hml HM.out U2.out).mono ?_
      rintro e w6 ⟨rfl, hb6⟩
      have hB6 : Below w.heap.size w w6 := hB5.trans (hb6.mono hB5.size)
      clear hb6 hB5 hm5
      go_wp2_with fail
      refine (unixOfN ([] : List Int) 0 rfl none 0 d1 _ (hh.kept hB6) hl4 HI.out U1.out).mono ?_
      rintro e w7 ⟨rfl, hb7⟩
      have hB7 : Below w.heap.size w w7 := hB6.trans (hb7.mono hB6.size)
      clear hb7 hB6
      go_wp2
      go_ret
      exact ⟨rfl, hB7⟩
    · have O2 := Lib.hid (show false = decide (62135596800000000000 + d2 = Plain.tot (([] : List Int) ++ [a1])) by simpa using c2)
      clear c1 c2
      go_wp2_with fail
      refine (unixN ([] : List Int) 0 rfl none 0 d1 true _ (hh.kept hB2) hl4 HI.out D1.out O1.out).mono ?_
      rintro e w3 ⟨rfl, hb3⟩
      have hB3 : Below w.heap.size w w3 := hB2.trans (hb3.mono hB2.size)
      have hm3 := hm2.kept hb3
      clear hb3 hB2 hm2
      go_wp2_with fail
      refine (unixN (([] : List Int) ++ [a1]) (0 + 1) hmn (some ⟨g, 0, none⟩) cp d2 false _ hm3 hml HM.out D2.out O2.out).mono ?_
      rintro e w4 ⟨rfl, hb4⟩
      have hB4 : Below w.heap.size w w4 := hB3.trans (hb4.mono hB3.size)
      have hm4 := hm3.kept hb4
      clear hb4 hB3 hm3
      go_wp2
      go_ret
      exact ⟨rfl, hB4⟩
  · have O1 := Lib.hid (show false = decide (62135596800000000000 + d1 = Plain.tot ([] : List Int)) by simpa using c1)
    obtain ⟨is, O2⟩ : ∃ b : Bool, Hid (b = decide (62135596800000000000 + d2 = Plain.tot (([] : List Int) ++ [a1]))) := ⟨_, Lib.hid rfl⟩
    clear c1
    go_wp2_with fail
    refine (unixN ([] : List Int) 0 rfl none 0 d1 false _ (hh.kept hB2) hl4 HI.out D1.out O1.out).mono ?_
    rintro e w3 ⟨rfl, hb3⟩
    have hB3 : Below w.heap.size w w3 := hB2.trans (hb3.mono hB2.size)
    have hm3 := hm2.kept hb3
    clear hb3 hB2 hm2
    go_wp2_with fail
    refine (unixN (([] : List Int) ++ [a1]) (0 + 1) hmn (some ⟨g, 0, none⟩) cp d2 is _ hm3 hml HM.out D2.out O2.out).mono ?_
    rintro e w4 ⟨rfl, hb4⟩
    have hB4 : Below w.heap.size w w4 := hB3.trans (hb4.mono hB3.size)
    have hm4 := hm3.kept hb4
    clear hb4 hB3 hm3
    go_wp2
    go_ret
    exact ⟨rfl, hB4⟩

end Go.Proofs.Ytedknjcbpklihaa
