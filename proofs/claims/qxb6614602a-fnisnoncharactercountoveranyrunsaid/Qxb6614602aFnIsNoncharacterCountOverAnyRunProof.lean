/-
  A proof of the given statement by the guide's shell: the frame as the tool wrote it, the walk filled in by hand.
-/
import Derived.Test.Qxb6614602aRows
import Derived.WalkKit
import Derived.ProofKit
import Derived.OpenShut
import Derived.ShutString
import Derived.Test.Qxb6614602aNonch
namespace Go.Proofs.Qxb6614602a.fnIsNoncharacterCountOverAnyRun
open Go.ChangeShapes Go.WideShapes Go.ChangeAt Go.RowKit
open Go.ChangeMaps (open_string shut_string)
set_option linter.unusedVariables false      -- a walk need not use every 'w<i>' (that an integer argument fits its kind)

theorem own : ownKnob Try.prog.godebug = none := by kernel_rfl

/-! ### STEP 1: THE WALK: the Go text returns true. 'Grown w w'': the world has at most new blocks (Derived/RowKit3.lean). Part the cases AHEAD of 'go_enter' where a test parts the walk; take each callee by a contract of your own. -/
set_option maxHeartbeats 1000000 in
theorem walk (a0 : Int) (a1 : Int) (w0 : (Lit.int .i32 a0).wf = true) (w1 : (Lit.int .i64 a1).wf = true) (w : World) :
    Calls Try.prog 3 #[.int .i32 a0, .int .i64 a1] w fun e w' => e = .returned (.bool true) ∧ Grown w w' := by
  by_cases g1 : a0 < 0
  · go_enter Try.func3, Try.ntmps3
    go_wp2
    go_ret
    exact ⟨rfl, Grown.refl _⟩
  by_cases g2 : 1114111 < a0
  · go_enter Try.func3, Try.ntmps3
    go_wp2
    go_ret
    exact ⟨rfl, Grown.refl _⟩
  by_cases g3 : a1 < 0
  · go_enter Try.func3, Try.ntmps3
    go_wp2
    go_ret
    exact ⟨rfl, Grown.refl _⟩
  by_cases g4 : 65536 < a1
  · go_enter Try.func3, Try.ntmps3
    go_wp2
    go_ret
    exact ⟨rfl, Grown.refl _⟩
  have c0 : 0 ≤ a0 := by omega
  have c1 : a0 ≤ 1114111 := by omega
  have c2 : 0 ≤ a1 := by omega
  have c3 : a1 ≤ 65536 := by omega
  clear g1 g2 g3 g4 w0 w1
  by_cases g : 1114112 < a0 + a1
  · go_enter Try.func3, Try.ntmps3
    go_wp2
    go_loop [7, 8] (fun t i => ∃ v : Int, a0 ≤ v ∧ v ≤ 1114112 ∧ i = .int .i64 v ∧ t = .int .i64 (Nonch.below v - Nonch.below a0)) (fun _ i => (1114112 - intOf i).toNat)
    case atStart => exact ⟨a0, by omega, by omega, rfl, by simp⟩
    case round =>
      obtain ⟨v, hv1, hv2, rfl, rfl⟩ := hrel
      have b1 := Nonch.below_bounds v (by omega) hv2
      have b2 := Nonch.below_bounds a0 c0 (by omega)
      by_cases hlt : v < 1114112
      · have hs := Nonch.below_succ v (by omega)
        have HS : Hid (Nonch.below (v + 1) = Nonch.below v + if Nonch.nonch v then 1 else 0) := hs
        clear hs
        by_cases hn : Nonch.nonch v = true
        · go_wp2_with (go_at_call 6; refine (Nonch.zz_any _ _ (by omega) (by omega)).mono ?_; rintro e w' ⟨rfl, rfl⟩)
          go_round
          case rel => exact ⟨v + 1, by omega, by omega, rfl, by rw [HS.out, if_pos hn]; go_num⟩
          case measure => simp [intOf]; omega
        · have hn' : Nonch.nonch v = false := by simpa using hn
          clear hn
          go_wp2_with (go_at_call 6; refine (Nonch.zz_any _ _ (by omega) (by omega)).mono ?_; rintro e w' ⟨rfl, rfl⟩)
          go_round
          case rel => exact ⟨v + 1, by omega, by omega, rfl, by rw [HS.out, hn']; simp⟩
          case measure => simp [intOf]; omega
      · obtain rfl : v = 1114112 := by omega
        go_wp2_with (go_at_call 7; refine (Nonch.below_any _ _ (by omega) (by omega)).mono ?_; rintro e w' ⟨rfl, rfl⟩)
        go_ret
        exact ⟨Nonch.ret_bool (by simp), Grown.refl _⟩
  · go_enter Try.func3, Try.ntmps3
    go_wp2
    go_loop [7, 8] (fun t i => ∃ v : Int, a0 ≤ v ∧ v ≤ a0 + a1 ∧ i = .int .i64 v ∧ t = .int .i64 (Nonch.below v - Nonch.below a0)) (fun _ i => (a0 + a1 - intOf i).toNat)
    case atStart => exact ⟨a0, by omega, by omega, rfl, by simp⟩
    case round =>
      obtain ⟨v, hv1, hv2, rfl, rfl⟩ := hrel
      have b1 := Nonch.below_bounds v (by omega) (by omega)
      have b2 := Nonch.below_bounds a0 c0 (by omega)
      by_cases hlt : v < a0 + a1
      · have hs := Nonch.below_succ v (by omega)
        have HS : Hid (Nonch.below (v + 1) = Nonch.below v + if Nonch.nonch v then 1 else 0) := hs
        clear hs
        by_cases hn : Nonch.nonch v = true
        · go_wp2_with (go_at_call 6; refine (Nonch.zz_any _ _ (by omega) (by omega)).mono ?_; rintro e w' ⟨rfl, rfl⟩)
          go_round
          case rel => exact ⟨v + 1, by omega, by omega, rfl, by rw [HS.out, if_pos hn]; go_num⟩
          case measure => simp [intOf]; omega
        · have hn' : Nonch.nonch v = false := by simpa using hn
          clear hn
          go_wp2_with (go_at_call 6; refine (Nonch.zz_any _ _ (by omega) (by omega)).mono ?_; rintro e w' ⟨rfl, rfl⟩)
          go_round
          case rel => exact ⟨v + 1, by omega, by omega, rfl, by rw [HS.out, hn']; simp⟩
          case measure => simp [intOf]; omega
      · obtain rfl : v = a0 + a1 := by omega
        go_wp2_with (go_at_call 7; refine (Nonch.below_any _ _ (by omega) (by omega)).mono ?_; rintro e w' ⟨rfl, rfl⟩)
        go_ret
        exact ⟨Nonch.ret_bool (by simp), Grown.refl _⟩

/-! ### THE ROW's STEP: WRITTEN OUT: LEAVE IT -/
set_option maxRecDepth 100000 in
theorem lifted (os : Os) (started : os.Started) (H : Type) (enc : TypeId × Value → H) :
    ReturnsInHanded {} Try.checked os 3 .any (Rows.fnIsNoncharacterCountOverAnyRunSpec.pre6 enc Try.prog Try.f3 Rows.fnIsNoncharacterCountOverAnyRunRow.domain false) (Rows.fnIsNoncharacterCountOverAnyRunSpec.post enc Try.prog Try.f3 false true false false) := by
  refine returnsInHanded_of_change (C := Try.checked) own started (by kernel_rfl) Try.func3
    (ChangeSpec.witness6 (enc := enc) (C := Try.checked) false ⟨#[], #[.int .i32 0, .int .i64 0], []⟩ 8 (by kernel_rfl) (by kernel_rfl) (by kernel_rfl) (by kernel_rfl)) ?_
  intro W base args ds gs before hval0 hW hcnd _
  have hval : ∀ (j : Nat) t v, Try.f3.params[j]? = some t → args[j]? = some v → Value.okWide Try.prog W .any base t v := hval0
  have hW' := hW
  obtain ⟨p, q, hA0, hV, rfl, hfz, hnd⟩ := hW
  have hA : DataW.TrodAll enc Try.prog W 0 (fun _ => true) true Try.f3.params.toList args.toList ds p := hA0
  rw [Try.params3] at hA hval
  obtain ⟨v0, vs0, d0, ds0, p0, q0, hargs, rfl, rfl, h0, r0⟩ := trodAll_cons hA
  obtain ⟨v1, vs1, d1, ds1, p1, q1, rfl, rfl, rfl, h1, r1⟩ := trodAll_cons r0
  obtain ⟨rfl, rfl, rfl⟩ := trodAll_nil r1
  obtain rfl : args = #[v0, v1] := by cases args; simp_all
  obtain ⟨rfl, rfl⟩ := trodVars_none hV
  obtain ⟨a0, rfl, rfl, rfl, w0⟩ := open_int Try.underlying21 (hval 0 21 v0 rfl rfl) h0
  obtain ⟨a1, rfl, rfl, rfl, w1⟩ := open_int Try.underlying3 (hval 1 3 v1 rfl rfl) h1
  clear hA0 hval0
  simp only [List.append_nil] at hW'
  refine (walk a0 a1 w0 w1 W).mono fun e W' ⟨he, hg⟩ => ?_
  subst he
  exact ⟨_, rfl, post_of_same (pa := []) (pv := []) hW' (fun _ _ _ => (trodAll_cons_mk (shut_bool Try.underlying4 _) trodAll_mk0)) (fun sp _ => (trodAll_cons_mk (shut_int Try.underlying21 w0) (trodAll_cons_mk (shut_int Try.underlying3 w1) trodAll_mk0))) (fun _ _ => rfl) rfl
    (hg.frame _) hg.2.1 (ok_one (by kernel_rfl) rfl (okWide_bool_mk Try.underlying4 _))⟩

theorem over : Rows.fnIsNoncharacterCountOverAnyRunRow.holds Try.pinned (OpenSpec.ofChange Rows.fnIsNoncharacterCountOverAnyRunSpec) :=
  OpenClaim.holds_of_wide 3 Try.f3 rfl rfl rfl rfl rfl rfl rfl ⟨rfl, rfl, rfl, rfl, rfl⟩ rfl rfl rfl rfl rfl (by kernel_rfl) Try.func3 (by kernel_rfl)
    (of_decide_eq_true (by kernel_rfl)) (by unfold Func.isWrapper; first | (rw [if_pos (by decide +kernel)]; kernel_rfl) | (rw [if_neg (by decide +kernel)]; exact ⟨rfl, rfl⟩))
    (fun os started H enc _ => lifted os started H enc)

/-- ████ THE STATEMENT ████ -/
theorem proved : Rows.FnIsNoncharacterCountOverAnyRunSaid :=
  over
end Go.Proofs.Qxb6614602a.fnIsNoncharacterCountOverAnyRun
