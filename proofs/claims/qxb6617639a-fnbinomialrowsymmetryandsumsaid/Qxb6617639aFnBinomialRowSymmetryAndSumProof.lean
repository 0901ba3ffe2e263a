/-
  The proof of 'Rows.FnBinomialRowSymmetryAndSumSaid': the guide's frame, the walk filled.
-/
import Derived.Test.Qxb6617639aRows
import Derived.WalkKit
import Derived.ProofKit
import Derived.OpenShut
import Derived.ShutString
import Derived.Test.Qxb6617639aBin
namespace Go.Proofs.Qxb6617639a.fnBinomialRowSymmetryAndSum
open Go.ChangeShapes Go.WideShapes Go.ChangeAt Go.RowKit
open Go.ChangeMaps (open_string shut_string)
open Plain
set_option linter.unusedVariables false      -- a walk need not use every 'w<i>' (that an integer argument fits its kind)

theorem own : ownKnob Try.prog.godebug = none := by kernel_rfl

theorem pow61 (n : Nat) (h : n ≤ 61) : (2 : Int) ^ n ≤ 2305843009213693952 := by
  have : 2 ^ n ≤ 2 ^ 61 := Nat.pow_le_pow_right (by omega) h
  have e : (2 : Nat) ^ 61 = 2305843009213693952 := by decide +kernel
  rw [e] at this
  have c : ((2 ^ n : Nat) : Int) = (2 : Int) ^ n := by rw [Int.natCast_pow]; rfl
  omega

set_option maxHeartbeats 1000000 in
theorem main (n k : Nat) (hn : (n : Int) ≤ 61) (hk : (k : Int) ≤ (n : Int)) (w : World) :
    Calls Try.prog 4 #[.int .i64 (n : Int), .int .i64 (k : Int)] w fun e w' => e = .returned (.bool true) ∧ Grown w w' := by
  have hfit : ∀ j, Fits n j := fun j => fits61 n j (by omega)
  have hsy : Hid (ch n (n - k) = ch n k) := (ch_symm n k (by omega)).symm
  have hc2 : ∀ w, Calls Try.prog 7 #[.int .i64 (n : Int), .int .i64 ((n : Int) - (k : Int))] w fun e w' => e = .returned (.int .i64 (ch n k : Int)) ∧ w' = w := by
    intro w
    have := zzbinomial_any (n : Int) ((n : Int) - (k : Int)) n (n - k) rfl (by omega) (by omega) (by omega) (hfit _) w
    rw [hsy.out] at this
    exact this
  have HC2 : Hid (∀ w, Calls Try.prog 7 #[.int .i64 (n : Int), .int .i64 ((n : Int) - (k : Int))] w fun e w' => e = .returned (.int .i64 (ch n k : Int)) ∧ w' = w) := hc2
  clear hc2
  have hp := pow61 n (by omega)
  go_enter Try.func4, Try.ntmps4
  go_wp2_with (go_at_call 5; refine (maxRow_any _).mono ?_; rintro e w' ⟨rfl, rfl⟩)
  refine (zzbinomial_any _ _ n k rfl rfl (by omega) (by omega) (hfit k) _).mono ?_
  rintro e w' ⟨rfl, rfl⟩
  go_wp2_with fail
  refine (HC2.out _).mono ?_
  rintro e w' ⟨rfl, rfl⟩
  go_wp2
  go_loop [5, 6, 7] (fun s a i => ∃ j : Nat, j ≤ n + 1 ∧ i = .int .i64 (j : Int) ∧ s = .int .i64 (sm n j) ∧ a = .int .i64 (al n j)) (fun _ _ i => n + 1 - (intOf i).toNat)
  case atStart => exact ⟨0, Nat.zero_le _, rfl, rfl, rfl⟩
  case round =>
    obtain ⟨j, hj, rfl, rfl, rfl⟩ := hrel
    by_cases hlt : j ≤ n
    · have s0 := sm_bd n j (by omega)
      have s1 := sm_bd n (j + 1) (by omega)
      have s2 : sm n (j + 1) = sm n j + (ch n j : Int) := rfl
      rw [s2] at s1
      have l0 := al_bd n j
      clear s2
      by_cases hpar : (j : Int) % 2 ≤ 0
      · go_wp2_with (go_at_call 7; refine (zzbinomial_any _ _ n j rfl rfl (by omega) (by omega) (hfit j) _).mono ?_; rintro e w' ⟨rfl, rfl⟩)
        go_round
        case rel => exact ⟨j + 1, by omega, by go_num, rfl, val_int (by show _ = al n j + _; rw [if_pos (by omega)])⟩
        case measure => simp [intOf]; omega
      · go_wp2_with (go_at_call 7; refine (zzbinomial_any _ _ n j rfl rfl (by omega) (by omega) (hfit j) _).mono ?_; rintro e w' ⟨rfl, rfl⟩)
        go_round
        case rel => exact ⟨j + 1, by omega, by go_num, rfl, val_int (by show _ = al n j + _; rw [if_neg (by omega)]; omega)⟩
        case measure => simp [intOf]; omega
    · have hjn : j = n + 1 := by omega
      have hs : (sm n j != wrap64 (2 ^ n)) = false := by
        have h0 := sm_bd n (n + 1) (by omega)
        rw [hjn, sm_row, IntWalk.wrap64_in _ (by rw [sm_row] at h0; omega)]; simp
      by_cases hz : 0 < n
      · have ha : (al n j != 0) = false := by rw [hjn, al_row n hz]; rfl
        clear hjn
        go_wp2
        go_ret
        exact ⟨rfl, Grown.refl _⟩
      · clear hjn
        go_wp2
        go_ret
        exact ⟨rfl, Grown.refl _⟩

/-! ### STEP 1: THE WALK: the Go text returns true. 'Grown w w'': the world has at most new blocks (Derived/RowKit3.lean). Part the cases AHEAD of 'go_enter' where a test parts the walk; take each callee by a contract of your own. -/
theorem walk (a0 : Int) (a1 : Int) (w0 : (Lit.int .i64 a0).wf = true) (w1 : (Lit.int .i64 a1).wf = true) (w : World) :
    Calls Try.prog 4 #[.int .i64 a0, .int .i64 a1] w fun e w' => e = .returned (.bool true) ∧ Grown w w' := by
  have b0 := bounds_i64 w0
  have b1 := bounds_i64 w1
  by_cases c0 : a0 < 0
  · go_enter Try.func4, Try.ntmps4
    go_wp2
    go_ret
    exact ⟨rfl, by repeat (first | exact Grown.refl _ | apply Grown.drew | apply Grown.alloc)⟩
  · by_cases c1 : 61 < a0
    · go_enter Try.func4, Try.ntmps4
      go_wp2_with (go_at_call 5; refine (maxRow_any _).mono ?_; rintro e w' ⟨rfl, rfl⟩)
      go_ret
      exact ⟨rfl, by repeat (first | exact Grown.refl _ | apply Grown.drew | apply Grown.alloc)⟩
    · by_cases c2 : a1 < 0
      · go_enter Try.func4, Try.ntmps4
        go_wp2_with (go_at_call 5; refine (maxRow_any _).mono ?_; rintro e w' ⟨rfl, rfl⟩)
        go_ret
        exact ⟨rfl, by repeat (first | exact Grown.refl _ | apply Grown.drew | apply Grown.alloc)⟩
      · by_cases c3 : a0 < a1
        · go_enter Try.func4, Try.ntmps4
          go_wp2_with (go_at_call 5; refine (maxRow_any _).mono ?_; rintro e w' ⟨rfl, rfl⟩)
          go_ret
          exact ⟨rfl, by repeat (first | exact Grown.refl _ | apply Grown.drew | apply Grown.alloc)⟩
        · obtain ⟨n, rfl⟩ : ∃ n : Nat, a0 = (n : Int) := ⟨a0.toNat, by omega⟩
          obtain ⟨k, rfl⟩ : ∃ k : Nat, a1 = (k : Int) := ⟨a1.toNat, by omega⟩
          clear w0 w1 c0 c2
          exact main n k (by omega) (by omega) w

/-! ### THE ROW's STEP: WRITTEN OUT: LEAVE IT -/
set_option maxRecDepth 100000 in
theorem lifted (os : Os) (started : os.Started) (H : Type) (enc : TypeId × Value → H) :
    ReturnsInHanded {} Try.checked os 4 .any (Rows.fnBinomialRowSymmetryAndSumSpec.pre6 enc Try.prog Try.f4 Rows.fnBinomialRowSymmetryAndSumRow.domain false) (Rows.fnBinomialRowSymmetryAndSumSpec.post enc Try.prog Try.f4 false true false false) := by
  refine returnsInHanded_of_change (C := Try.checked) own started (by kernel_rfl) Try.func4
    (ChangeSpec.witness6 (enc := enc) (C := Try.checked) false ⟨#[], #[.int .i64 0, .int .i64 0], []⟩ 8 (by kernel_rfl) (by kernel_rfl) (by kernel_rfl) (by kernel_rfl)) ?_
  intro W base args ds gs before hval0 hW hcnd _
  have hval : ∀ (j : Nat) t v, Try.f4.params[j]? = some t → args[j]? = some v → Value.okWide Try.prog W .any base t v := hval0
  have hW' := hW
  obtain ⟨p, q, hA0, hV, rfl, hfz, hnd⟩ := hW
  have hA : DataW.TrodAll enc Try.prog W 0 (fun _ => true) true Try.f4.params.toList args.toList ds p := hA0
  rw [Try.params4] at hA hval
  obtain ⟨v0, vs0, d0, ds0, p0, q0, hargs, rfl, rfl, h0, r0⟩ := trodAll_cons hA
  obtain ⟨v1, vs1, d1, ds1, p1, q1, rfl, rfl, rfl, h1, r1⟩ := trodAll_cons r0
  obtain ⟨rfl, rfl, rfl⟩ := trodAll_nil r1
  obtain rfl : args = #[v0, v1] := by cases args; simp_all
  obtain ⟨rfl, rfl⟩ := trodVars_none hV
  obtain ⟨a0, rfl, rfl, rfl, w0⟩ := open_int Try.underlying3 (hval 0 3 v0 rfl rfl) h0
  obtain ⟨a1, rfl, rfl, rfl, w1⟩ := open_int Try.underlying3 (hval 1 3 v1 rfl rfl) h1
  clear hA0 hval0
  simp only [List.append_nil] at hW'
  refine (walk a0 a1 w0 w1 W).mono fun e W' ⟨he, hg⟩ => ?_
  subst he
  exact ⟨_, rfl, post_of_same (pa := []) (pv := []) hW' (fun _ _ _ => (trodAll_cons_mk (shut_bool Try.underlying4 _) trodAll_mk0)) (fun sp _ => (trodAll_cons_mk (shut_int Try.underlying3 w0) (trodAll_cons_mk (shut_int Try.underlying3 w1) trodAll_mk0))) (fun _ _ => rfl) rfl
    (hg.frame _) hg.2.1 (ok_one (by kernel_rfl) rfl (okWide_bool_mk Try.underlying4 _))⟩

theorem over : Rows.fnBinomialRowSymmetryAndSumRow.holds Try.pinned (OpenSpec.ofChange Rows.fnBinomialRowSymmetryAndSumSpec) :=
  OpenClaim.holds_of_wide 4 Try.f4 rfl rfl rfl rfl rfl rfl rfl ⟨rfl, rfl, rfl, rfl, rfl⟩ rfl rfl rfl rfl rfl (by kernel_rfl) Try.func4 (by kernel_rfl)
    (of_decide_eq_true (by kernel_rfl)) (by unfold Func.isWrapper; first | (rw [if_pos (by decide +kernel)]; kernel_rfl) | (rw [if_neg (by decide +kernel)]; exact ⟨rfl, rfl⟩))
    (fun os started H enc _ => lifted os started H enc)

/-- ████ THE STATEMENT ████ -/
theorem proved : Rows.FnBinomialRowSymmetryAndSumSaid :=
  over
#print axioms proved
end Go.Proofs.Qxb6617639a.fnBinomialRowSymmetryAndSum
