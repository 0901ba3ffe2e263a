/-
  The proof of 'Rows.FnLowestIsFirstFitInOrderSaid': the tree that came in; the row's step.
-/
import Derived.Test.Qxb6617726aLaw
import Derived.OpenShut
import Derived.ChangeOld
namespace Go.Proofs.Qxb6617726a.fnLowest
open Go.ChangeShapes Go.WideShapes Go.ChangeAt Go.RowKit Go.Deep
set_option linter.unusedVariables false

theorem own : ownKnob Try.prog.godebug = none := by kernel_rfl
theorem laidOut : laidOutB Try.prog = true := by kernel_rfl
theorem cells34 : Try.prog.cellsOf 34 = 6 := by kernel_rfl
theorem cells2 : Try.prog.cellsOf 2 = 1 := by kernel_rfl
theorem cells22 : Try.prog.cellsOf 22 = 1 := by kernel_rfl

theorem open_tree {H : Type} {enc : TypeId × Value → H} {W : World} {base : Nat} {sp : Nat → Bool} {hd : Bool} : ∀ (fuel : Nat) (cs : List Value) (x : DataW H × List MemPlace), DataW.trod enc Try.prog W base sp hd fuel 22 cs = some x →
    ∃ T : BT Pay, cs = [T.ptr] ∧ InT W T := by
  intro fuel
  induction fuel using Nat.strongRecOn with
  | _ fuel ih =>
    intro cs x h
    rcases DataW.trod_pointer Try.underlying22 h with ⟨rfl, rfl⟩ | ⟨a, cs', y, n, rfl, rfl, rfl, hcells, hy⟩
    · exact ⟨.nil, rfl, trivial⟩
    · obtain ⟨_, _, hcell⟩ := World.cells?_some hcells
      rw [cells34] at hcell
      obtain ⟨xs, m, rfl, rfl, hl, hlen, hf⟩ := DataW.trod_struct Try.underlying34 hy
      rw [cells34] at hl
      match xs, hlen, cs', hl with
      | [y0, y1, y2, y3, y4, y5], _, [v0, v1, v2, v3, v4, v5], _ =>
        have g0 := hf 0 _ rfl
        have g1 := hf 1 _ rfl
        have g2 := hf 2 _ rfl
        have g3 := hf 3 _ rfl
        have g4 := hf 4 _ rfl
        have g5 := hf 5 _ rfl
        simp [cells2, cells22] at g0 g1 g2 g3 g4 g5
        obtain ⟨n0, h0, _⟩ := DataW.trod_int Try.underlying2 g0
        obtain ⟨n1, h1, _⟩ := DataW.trod_int Try.underlying2 g1
        obtain ⟨n2, h2, _⟩ := DataW.trod_int Try.underlying2 g2
        obtain ⟨n3, h3, _⟩ := DataW.trod_int Try.underlying2 g3
        obtain ⟨Tl, hTl, il⟩ := ih m (by omega) _ _ g4
        obtain ⟨Tr, hTr, ir⟩ := ih m (by omega) _ _ g5
        simp only [List.cons.injEq, and_true] at h0 h1 h2 h3 hTl hTr
        subst h0; subst h1; subst h2; subst h3; subst hTl; subst hTr
        obtain ⟨b, off, spot⟩ := a
        have e0 := hcell 0 (by omega)
        have hspot : spot = none := by simpa [Addr.add] using World.cell?_spot (e0.trans (by rfl : _ = some (Value.int .i64 n0)))
        subst hspot
        have add_p : ∀ i, (⟨b, off, none⟩ : Addr).add i = ⟨b, off + i, none⟩ := fun i => by unfold Addr.add; split <;> simp_all
        refine ⟨.node b off ⟨n0, n1, n2, n3⟩ Tl Tr, rfl, ?_, ?_, ?_, ?_, ?_, ?_, il, ir⟩
        · have := hcell 0 (by omega); rw [add_p] at this; exact this
        · have := hcell 1 (by omega); rw [add_p] at this; exact this
        · have := hcell 2 (by omega); rw [add_p] at this; exact this
        · have := hcell 3 (by omega); rw [add_p] at this; exact this
        · have := hcell 4 (by omega); rw [add_p] at this; exact this
        · have := hcell 5 (by omega); rw [add_p] at this; exact this

set_option maxRecDepth 100000 in
theorem lifted (os : Os) (started : os.Started) (H : Type) (enc : TypeId × Value → H) :
    ReturnsInHanded {} Try.checked os 3 .any (Rows.fnLowestIsFirstFitInOrderSpec.pre6 enc Try.prog Try.f3 Rows.fnLowestIsFirstFitInOrderRow.domain false) (Rows.fnLowestIsFirstFitInOrderSpec.post enc Try.prog Try.f3 false true false false) := by
  refine returnsInHanded_of_change (C := Try.checked) own started (by kernel_rfl) Try.func3
    (ChangeSpec.witness6 (enc := enc) (C := Try.checked) false ⟨#[], #[.pointer none, .int .i64 0, .int .i64 0], []⟩ 8 (by kernel_rfl) (by kernel_rfl) (by kernel_rfl) (by kernel_rfl)) ?_
  intro W base args ds gs before hval0 hW hcnd _
  have hval : ∀ (j : Nat) t v, Try.f3.params[j]? = some t → args[j]? = some v → Value.okWide Try.prog W .any base t v := hval0
  have hW' := hW
  obtain ⟨p, q, hA0, hV, rfl, hfz, hnd⟩ := hW
  have hA : DataW.TrodAll enc Try.prog W 0 (fun _ => true) true Try.f3.params.toList args.toList ds p := hA0
  rw [Try.params3] at hA hval
  obtain ⟨v0, vs0, d0, ds0, p0, q0, hargs, rfl, rfl, h0, r0⟩ := trodAll_cons hA
  obtain ⟨v1, vs1, d1, ds1, p1, q1, rfl, rfl, rfl, h1, r1⟩ := trodAll_cons r0
  obtain ⟨v2, vs2, d2, ds2, p2, q2, rfl, rfl, rfl, h2, r2⟩ := trodAll_cons r1
  obtain ⟨rfl, rfl, rfl⟩ := trodAll_nil r2
  obtain rfl : args = #[v0, v1, v2] := by cases args; simp_all
  obtain ⟨rfl, rfl⟩ := trodVars_none hV
  obtain ⟨a0, rfl⟩ := okWide_pointer Try.underlying22 (hval 0 22 v0 rfl rfl)
  have k0 := h0
  have lt0 : ∀ x ∈ p0, x.block < W.heap.size := by obtain ⟨m, hm⟩ := k0; exact DataW.trod_lt m _ _ _ hm
  obtain ⟨T, eT, hT⟩ : ∃ T : BT Pay, .pointer a0 = T.ptr ∧ InT W T := by
    obtain ⟨fuel, hf⟩ := h0
    obtain ⟨T, hc, hT⟩ := open_tree fuel _ _ hf
    simp [Value.cells] at hc
    exact ⟨T, hc, hT⟩
  obtain ⟨a1, rfl, rfl, rfl, w1⟩ := open_int Try.underlying2 (hval 1 2 v1 rfl rfl) h1
  obtain ⟨a2, rfl, rfl, rfl, w2⟩ := open_int Try.underlying2 (hval 2 2 v2 rfl rfl) h2
  clear hA0 hval0
  have wk := law_all W T a1 a2 hT
  rw [← eT] at wk
  refine wk.mono fun e W' ⟨he, bel⟩ => ?_
  subst he
  exact ⟨_, rfl, _, _, _, [], _, [], hW', trodAll_mk1 (shut_bool Try.underlying4 _), (trodAll_cons_mk (Below.trod laidOut (by kernel_rfl) (of_decide_eq_true (by kernel_rfl)) k0 bel lt0) (trodAll_cons_mk (shut_int Try.underlying2 w1) (trodAll_cons_mk (shut_int Try.underlying2 w2) trodAll_mk0))), rfl, bel.frame _, fun h => by cases h⟩

theorem over : Rows.fnLowestIsFirstFitInOrderRow.holds Try.pinned (OpenSpec.ofChange Rows.fnLowestIsFirstFitInOrderSpec) :=
  OpenClaim.holds_of_wide 3 Try.f3 rfl rfl rfl rfl rfl rfl rfl ⟨rfl, rfl, rfl, rfl, rfl⟩ rfl rfl rfl rfl rfl (by kernel_rfl) Try.func3 (by kernel_rfl)
    (of_decide_eq_true (by kernel_rfl)) (by unfold Func.isWrapper; first | (rw [if_pos (by decide +kernel)]; kernel_rfl) | (rw [if_neg (by decide +kernel)]; exact ⟨rfl, rfl⟩))
    (fun os started H enc _ => lifted os started H enc)

theorem proved : Rows.FnLowestIsFirstFitInOrderSaid :=
  over
#print axioms proved
end Go.Proofs.Qxb6617726a.fnLowest
