/-
  The contract of lwScan.
-/
import Derived.Test.Qxb6617726aRows
import Derived.Test.Qxb6617726aTree
import Derived.WalkKit
import Derived.ProofKit
import Derived.BigQuiet
import Derived.Deep.QuietTactic
import Derived.Deep.Draws
import Derived.Deep.DeepCutAuto
namespace Go.Proofs.Qxb6617726a
open Go.ChangeShapes Go.WideShapes Go.ChangeAt Go.RowKit Go.Deep

/-- The tree that came in lies in w. -/
def InT (w : World) : BT Pay → Prop
  | .nil => True
  | .node b o a l r => w.cell? ⟨b, o, none⟩ = some (.int .i64 a.lc) ∧ w.cell? ⟨b, o + 1, none⟩ = some (.int .i64 a.lm) ∧ w.cell? ⟨b, o + 2, none⟩ = some (.int .i64 a.mc) ∧ w.cell? ⟨b, o + 3, none⟩ = some (.int .i64 a.mm) ∧
      w.cell? ⟨b, o + 4, none⟩ = some l.ptr ∧ w.cell? ⟨b, o + 5, none⟩ = some r.ptr ∧ InT w l ∧ InT w r

theorem InT.same {w w' : World} : ∀ {T : BT Pay}, (∀ a : Addr, a.block < w.heap.size → w'.cell? a = w.cell? a) → InT w T → InT w' T
  | .nil, _, _ => trivial
  | .node b o a l r, hh, ⟨h0, h1, h2, h3, h4, h5, hl, hr⟩ => by
    have hlt : b < w.heap.size := World.block_lt_of_cell? _ _ h0
    exact ⟨(hh _ hlt).trans h0, (hh _ hlt).trans h1, (hh _ hlt).trans h2, (hh _ hlt).trans h3, (hh _ hlt).trans h4, (hh _ hlt).trans h5, InT.same hh hl, InT.same hh hr⟩
theorem InT.drewN {w : World} {T : BT Pay} (h : InT w T) (n : Nat) : InT (w.drewN n) T := InT.same (fun a _ => by simp) h

def ScanSaid (T : BT Pay) (b : Int) (w : World) (e : Ending) (w' : World) : Prop :=
  ∃ v : Int, e = .returned (.int .i64 v) ∧ -2 ≤ v ∧ v ≤ b ∧ (0 ≤ v → v + sz T = b ∧ Good T) ∧ ∃ m, w' = w.drewN m

theorem two_draws (w : World) (a b : Nat) : ∃ m, (w.drewN a).drewN b = w.drewN m := ⟨a + b, by simp⟩
theorem one_draw (w : World) (a : Nat) : ∃ m, w.drewN a = w.drewN m := ⟨a, rfl⟩
theorem dec_false {p : Prop} [Decidable p] (h : ¬ p) : decide p = false := by simpa using h

set_option maxRecDepth 100000 in
set_option maxHeartbeats 2000000 in
theorem scan_any (T : BT Pay) : ∀ (w : World) (b : Int), 0 ≤ b → b ≤ 4096 → InT w T → Calls Try.prog 4 #[T.ptr, .int .i64 b] w (ScanSaid T b w) := by
  induction T with
  | nil =>
    intro w b hb0 hb1 _
    show Calls Try.prog 4 #[.pointer none, .int .i64 b] w _
    go_enter Try.func4, Try.ntmps4
    go_wp2
    go_ret
    exact ⟨b, rfl, by omega, by omega, fun _ => ⟨by simp [sz], trivial⟩, 0, rfl⟩
  | node bb o a l r ihl ihr =>
    intro w b hb0 hb1 hin
    obtain ⟨c0, c1, c2, c3, c4, c5, hl, hr⟩ := hin
    show Calls Try.prog 4 #[.pointer (some ⟨bb, o, none⟩), .int .i64 b] w _
    by_cases hz : b ≤ 0
    · go_enter Try.func4, Try.ntmps4
      go_wp2
      go_ret
      exact ⟨-1, rfl, by omega, by omega, fun h => by omega, 0, rfl⟩
    · obtain ⟨lc, lm, mc, mm⟩ := a
      dsimp only at c0 c1 c2 c3
      go_enter Try.func4, Try.ntmps4
      go_wp2_with fail
      by_cases h1 : mc < lc
      · go_quiet (fail)
        go_wp2_with fail
        go_ret
        exact ⟨-2, rfl, by omega, by omega, fun h => by omega, nq, rfl⟩
      · have h1' := dec_false h1
        by_cases h2 : mm < lm
        · go_quiet (fail)
          go_wp2_with fail
          go_ret
          exact ⟨-2, rfl, by omega, by omega, fun h => by omega, nq, rfl⟩
        · have h2' := dec_false h2
          go_quiet (fail)
          go_wp2_with fail
          go_cut [63] (fun v wc => ∃ bad : Bool, v = .bool bad ∧ (bad = false → under ⟨lc, lm, mc, mm⟩ l) ∧ ∃ m, wc = w.drewN m)
          case first =>
            cases l with
            | nil =>
              have k4 : w.cell? ⟨bb, o + 4, none⟩ = some (.pointer none) := c4
              clear c4
              go_quiet (fail)
              go_wp2_with fail
              go_meet
              case rel => exact ⟨false, rfl, fun _ => trivial, by first | exact one_draw _ _ | exact two_draws _ _ _⟩
            | node b1 o1 a1 l1 r1 =>
              obtain ⟨lc1, lm1, mc1, mm1⟩ := a1
              have k4 : w.cell? ⟨bb, o + 4, none⟩ = some (.pointer (some ⟨b1, o1, none⟩)) := c4
              have k2 : w.cell? ⟨b1, o1 + 2, none⟩ = some (.int .i64 mc1) := hl.2.2.1
              have k3 : w.cell? ⟨b1, o1 + 3, none⟩ = some (.int .i64 mm1) := hl.2.2.2.1
              clear c4
              by_cases h3 : mc < mc1
              · go_quiet (fail)
                go_wp2_with fail
                go_meet
                case rel => exact ⟨true, rfl, (fun h => by cases h), by first | exact one_draw _ _ | exact two_draws _ _ _⟩
              · have h3' := dec_false h3
                by_cases h4 : mm < mm1
                · go_quiet (fail)
                  go_wp2_with fail
                  go_meet
                  case rel => exact ⟨true, rfl, (fun h => by cases h), by first | exact one_draw _ _ | exact two_draws _ _ _⟩
                · have h4' := dec_false h4
                  go_quiet (fail)
                  go_wp2_with fail
                  go_meet
                  case rel => exact ⟨false, rfl, (fun _ => ⟨by dsimp only; omega, by dsimp only; omega⟩), by first | exact one_draw _ _ | exact two_draws _ _ _⟩
          case rest =>
            obtain ⟨bad, rfl, uL0, q7, rfl⟩ := hcut
            cases bad with
            | true =>
              go_wp2_with fail
              go_ret
              exact ⟨-2, rfl, by omega, by omega, fun h => by omega, _, rfl⟩
            | false =>
              have uL : Hid (under ⟨lc, lm, mc, mm⟩ l) := uL0 rfl
              clear uL0
              go_wp2_with fail
              go_cut [96] (fun v wc => ∃ bad : Bool, v = .bool bad ∧ (bad = false → under ⟨lc, lm, mc, mm⟩ r) ∧ ∃ m, wc = w.drewN m)
              case first =>
                cases r with
                | nil =>
                  have k4 : w.cell? ⟨bb, o + 5, none⟩ = some (.pointer none) := c5
                  clear c5
                  go_quiet (fail)
                  go_wp2_with fail
                  go_meet
                  case rel => exact ⟨false, rfl, fun _ => trivial, by first | exact one_draw _ _ | exact two_draws _ _ _⟩
                | node b1 o1 a1 l1 r1 =>
                  obtain ⟨lc1, lm1, mc1, mm1⟩ := a1
                  have k4 : w.cell? ⟨bb, o + 5, none⟩ = some (.pointer (some ⟨b1, o1, none⟩)) := c5
                  have k2 : w.cell? ⟨b1, o1 + 2, none⟩ = some (.int .i64 mc1) := hr.2.2.1
                  have k3 : w.cell? ⟨b1, o1 + 3, none⟩ = some (.int .i64 mm1) := hr.2.2.2.1
                  clear c5
                  by_cases h3 : mc < mc1
                  · go_quiet (fail)
                    go_wp2_with fail
                    go_meet
                    case rel => exact ⟨true, rfl, (fun h => by cases h), by first | exact one_draw _ _ | exact two_draws _ _ _⟩
                  · have h3' := dec_false h3
                    by_cases h4 : mm < mm1
                    · go_quiet (fail)
                      go_wp2_with fail
                      go_meet
                      case rel => exact ⟨true, rfl, (fun h => by cases h), by first | exact one_draw _ _ | exact two_draws _ _ _⟩
                    · have h4' := dec_false h4
                      go_quiet (fail)
                      go_wp2_with fail
                      go_meet
                      case rel => exact ⟨false, rfl, (fun _ => ⟨by dsimp only; omega, by dsimp only; omega⟩), by first | exact one_draw _ _ | exact two_draws _ _ _⟩
              case rest =>
                obtain ⟨bad, rfl, uR0, q9, rfl⟩ := hcut
                cases bad with
                | true =>
                  go_wp2_with fail
                  go_ret
                  exact ⟨-2, rfl, by omega, by omega, fun h => by omega, _, rfl⟩
                | false =>
                  have uR : Hid (under ⟨lc, lm, mc, mm⟩ r) := uR0 rfl
                  clear uR0
                  go_wp2_with fail
                  refine (ihl (w.drewN q9) (b - 1) (by omega) (by omega) (hl.drewN _)).mono ?_
                  intro e wx hs
                  obtain ⟨v, rfl, v1, v2, v3, q10, rfl⟩ := hs
                  by_cases hv : v < 0
                  · go_wp2_with fail
                    go_ret
                    exact ⟨v, rfl, by omega, by omega, fun h => by omega, _, rfl⟩
                  · go_wp2_with fail
                    refine (ihr _ v (by omega) (by omega) (hr.drewN (q9 + q10))).mono ?_
                    intro e wx hs
                    obtain ⟨u, rfl, u1, u2, u3, q11, rfl⟩ := hs
                    go_wp2_with fail
                    go_ret
                    refine ⟨u, rfl, by omega, by omega, fun h => ?_, _, rfl⟩
                    · obtain ⟨e1, g1⟩ := v3 (by omega)
                      obtain ⟨e2, g2⟩ := u3 h
                      exact ⟨by simp only [sz]; omega, by dsimp only; omega, by dsimp only; omega, uL.out, uR.out, g1, g2⟩
end Go.Proofs.Qxb6617726a
