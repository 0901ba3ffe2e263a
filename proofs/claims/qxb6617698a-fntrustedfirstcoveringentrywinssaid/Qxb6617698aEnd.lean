/-
  The proof of 'Rows.FnTrustedFirstCoveringEntryWinsSaid'.
-/
import Derived.Test.Qxb6617698aZero
import Derived.OpenShut
import Derived.ChangeOld
import Derived.Deep.Slices
namespace Go.Proofs.Qxb6617698a.fnTrusted
open Go.ChangeShapes Go.WideShapes Go.ChangeAt Go.RowKit
set_option linter.unusedVariables false

theorem own : ownKnob Try.prog.godebug = none := by kernel_rfl
theorem laidOut : laidOutB Try.prog = true := by kernel_rfl

/-! ### The ways on which the law answers at once -/
set_option maxRecDepth 100000 in
theorem early1 (w : World) (p ld eT : Int) (t sf eS eU : Nat) (aS aU aT : Option Addr) (lS lU lT cS cU cT : Nat) (hS : lS ≤ 9223372036854775807) (hU : lU ≤ 9223372036854775807) (hT : lT ≤ 9223372036854775807) (h : 32768 < (lS : Int)) :
    Calls Try.prog 3 #[.int .i64 p, .float .f64 t, .float .f64 sf, .int .i64 ld, .slice aS lS cS, .slice aU lU cU, .slice aT lT cT, .float .f64 eS, .float .f64 eU, .int .i64 eT] w fun e w' => e = .returned (.bool true) ∧ Below w.heap.size w w' := by
  go_enter Try.func3, Try.ntmps3
  go_wp2_with fail
  refine (bytes_any _ _ _ _ _ _ _ _ _ _ _ lS lU lT _ _ _ hS hU hT).mono ?_
  intro e w' hb
  obtain ⟨b, rfl, rfl⟩ := hb
  cases b with
  | false =>
    go_wp2
    go_ret
    exact ⟨rfl, Below.refl _ _⟩
  | true =>
    go_wp2
    go_ret
    exact ⟨rfl, Below.refl _ _⟩
set_option maxRecDepth 100000 in
theorem early2 (w : World) (p ld eT : Int) (t sf eS eU : Nat) (aS aU aT : Option Addr) (lS lU lT cS cU cT : Nat) (hS : lS ≤ 9223372036854775807) (hU : lU ≤ 9223372036854775807) (hT : lT ≤ 9223372036854775807) (h1 : (lS : Int) ≤ 32768) (h : 32768 < (lU : Int)) :
    Calls Try.prog 3 #[.int .i64 p, .float .f64 t, .float .f64 sf, .int .i64 ld, .slice aS lS cS, .slice aU lU cU, .slice aT lT cT, .float .f64 eS, .float .f64 eU, .int .i64 eT] w fun e w' => e = .returned (.bool true) ∧ Below w.heap.size w w' := by
  go_enter Try.func3, Try.ntmps3
  go_wp2_with fail
  refine (bytes_any _ _ _ _ _ _ _ _ _ _ _ lS lU lT _ _ _ hS hU hT).mono ?_
  intro e w' hb
  obtain ⟨b, rfl, rfl⟩ := hb
  cases b with
  | false =>
    go_wp2
    go_ret
    exact ⟨rfl, Below.refl _ _⟩
  | true =>
    go_wp2
    go_ret
    exact ⟨rfl, Below.refl _ _⟩
set_option maxRecDepth 100000 in
theorem early3 (w : World) (p ld eT : Int) (t sf eS eU : Nat) (aS aU aT : Option Addr) (lS lU lT cS cU cT : Nat) (hS : lS ≤ 9223372036854775807) (hU : lU ≤ 9223372036854775807) (hT : lT ≤ 9223372036854775807) (h1 : (lS : Int) ≤ 32768) (h2 : (lU : Int) ≤ 32768) (h : 32768 < (lT : Int)) :
    Calls Try.prog 3 #[.int .i64 p, .float .f64 t, .float .f64 sf, .int .i64 ld, .slice aS lS cS, .slice aU lU cU, .slice aT lT cT, .float .f64 eS, .float .f64 eU, .int .i64 eT] w fun e w' => e = .returned (.bool true) ∧ Below w.heap.size w w' := by
  go_enter Try.func3, Try.ntmps3
  go_wp2_with fail
  refine (bytes_any _ _ _ _ _ _ _ _ _ _ _ lS lU lT _ _ _ hS hU hT).mono ?_
  intro e w' hb
  obtain ⟨b, rfl, rfl⟩ := hb
  cases b with
  | false =>
    go_wp2
    go_ret
    exact ⟨rfl, Below.refl _ _⟩
  | true =>
    go_wp2
    go_ret
    exact ⟨rfl, Below.refl _ _⟩
set_option maxRecDepth 100000 in
theorem early4 (w : World) (p ld eT : Int) (t sf eS eU : Nat) (aS aU aT : Option Addr) (lS lU lT cS cU cT : Nat) (hS : lS ≤ 9223372036854775807) (hU : lU ≤ 9223372036854775807) (hT : lT ≤ 9223372036854775807) (h1 : (lS : Int) ≤ 32768) (h2 : (lU : Int) ≤ 32768) (h3 : (lT : Int) ≤ 32768) (h : p < 1) :
    Calls Try.prog 3 #[.int .i64 p, .float .f64 t, .float .f64 sf, .int .i64 ld, .slice aS lS cS, .slice aU lU cU, .slice aT lT cT, .float .f64 eS, .float .f64 eU, .int .i64 eT] w fun e w' => e = .returned (.bool true) ∧ Below w.heap.size w w' := by
  go_enter Try.func3, Try.ntmps3
  go_wp2_with fail
  refine (bytes_any _ _ _ _ _ _ _ _ _ _ _ lS lU lT _ _ _ hS hU hT).mono ?_
  intro e w' hb
  obtain ⟨b, rfl, rfl⟩ := hb
  cases b with
  | false =>
    go_wp2
    go_ret
    exact ⟨rfl, Below.refl _ _⟩
  | true =>
    go_wp2
    go_ret
    exact ⟨rfl, Below.refl _ _⟩
set_option maxRecDepth 100000 in
theorem early5 (w : World) (p ld eT : Int) (t sf eS eU : Nat) (aS aU aT : Option Addr) (lS lU lT cS cU cT : Nat) (hS : lS ≤ 9223372036854775807) (hU : lU ≤ 9223372036854775807) (hT : lT ≤ 9223372036854775807) (h1 : (lS : Int) ≤ 32768) (h2 : (lU : Int) ≤ 32768) (h3 : (lT : Int) ≤ 32768) (h4 : 1 ≤ p) (h : 65536 < p) :
    Calls Try.prog 3 #[.int .i64 p, .float .f64 t, .float .f64 sf, .int .i64 ld, .slice aS lS cS, .slice aU lU cU, .slice aT lT cT, .float .f64 eS, .float .f64 eU, .int .i64 eT] w fun e w' => e = .returned (.bool true) ∧ Below w.heap.size w w' := by
  go_enter Try.func3, Try.ntmps3
  go_wp2_with fail
  refine (bytes_any _ _ _ _ _ _ _ _ _ _ _ lS lU lT _ _ _ hS hU hT).mono ?_
  intro e w' hb
  obtain ⟨b, rfl, rfl⟩ := hb
  cases b with
  | false =>
    go_wp2
    go_ret
    exact ⟨rfl, Below.refl _ _⟩
  | true =>
    go_wp2
    go_ret
    exact ⟨rfl, Below.refl _ _⟩
set_option maxRecDepth 100000 in
theorem early6 (w : World) (p ld eT : Int) (t sf eS eU : Nat) (aS aU aT : Option Addr) (lS lU lT cS cU cT : Nat) (hS : lS ≤ 9223372036854775807) (hU : lU ≤ 9223372036854775807) (hT : lT ≤ 9223372036854775807) (h1 : (lS : Int) ≤ 32768) (h2 : (lU : Int) ≤ 32768) (h3 : (lT : Int) ≤ 32768) (h4 : 1 ≤ p) (h5 : p ≤ 65536) (h : ((lU : Int) != (lS : Int)) = true) :
    Calls Try.prog 3 #[.int .i64 p, .float .f64 t, .float .f64 sf, .int .i64 ld, .slice aS lS cS, .slice aU lU cU, .slice aT lT cT, .float .f64 eS, .float .f64 eU, .int .i64 eT] w fun e w' => e = .returned (.bool true) ∧ Below w.heap.size w w' := by
  go_enter Try.func3, Try.ntmps3
  go_wp2_with fail
  refine (bytes_any _ _ _ _ _ _ _ _ _ _ _ lS lU lT _ _ _ hS hU hT).mono ?_
  intro e w' hb
  obtain ⟨b, rfl, rfl⟩ := hb
  cases b with
  | false =>
    go_wp2
    go_ret
    exact ⟨rfl, Below.refl _ _⟩
  | true =>
    go_wp2
    go_ret
    exact ⟨rfl, Below.refl _ _⟩
set_option maxRecDepth 100000 in
theorem early7 (w : World) (p ld eT : Int) (t sf eS eU : Nat) (aS aU aT : Option Addr) (lS lU lT cS cU cT : Nat) (hS : lS ≤ 9223372036854775807) (hU : lU ≤ 9223372036854775807) (hT : lT ≤ 9223372036854775807) (h1 : (lS : Int) ≤ 32768) (h2 : (lU : Int) ≤ 32768) (h3 : (lT : Int) ≤ 32768) (h4 : 1 ≤ p) (h5 : p ≤ 65536) (h6 : ((lU : Int) != (lS : Int)) = false) (h : ((lT : Int) != (lS : Int)) = true) :
    Calls Try.prog 3 #[.int .i64 p, .float .f64 t, .float .f64 sf, .int .i64 ld, .slice aS lS cS, .slice aU lU cU, .slice aT lT cT, .float .f64 eS, .float .f64 eU, .int .i64 eT] w fun e w' => e = .returned (.bool true) ∧ Below w.heap.size w w' := by
  go_enter Try.func3, Try.ntmps3
  go_wp2_with fail
  refine (bytes_any _ _ _ _ _ _ _ _ _ _ _ lS lU lT _ _ _ hS hU hT).mono ?_
  intro e w' hb
  obtain ⟨b, rfl, rfl⟩ := hb
  cases b with
  | false =>
    go_wp2
    go_ret
    exact ⟨rfl, Below.refl _ _⟩
  | true =>
    go_wp2
    go_ret
    exact ⟨rfl, Below.refl _ _⟩

theorem walk (w : World) (p ld eT : Int) (t sf eS eU : Nat) (aS aU aT : Option Addr) (lS lU lT cS cU cT : Nat) (S U : Nat → Nat) (T : Nat → Int)
    (vS : View w aS lS cS (fun i => .float .f64 (S i))) (vU : View w aU lU cU (fun i => .float .f64 (U i))) (vT : View w aT lT cT (fun i => .int .i64 (T i))) :
    Calls Try.prog 3 #[.int .i64 p, .float .f64 t, .float .f64 sf, .int .i64 ld, .slice aS lS cS, .slice aU lU cU, .slice aT lT cT, .float .f64 eS, .float .f64 eU, .int .i64 eT] w fun e w' => e = .returned (.bool true) ∧ Below w.heap.size w w' := by
  by_cases h1 : (lS : Int) ≤ 32768
  · by_cases h2 : (lU : Int) ≤ 32768
    · by_cases h3 : (lT : Int) ≤ 32768
      · by_cases h4 : 1 ≤ p
        · by_cases h5 : p ≤ 65536
          · by_cases h6 : lU = lS
            · by_cases h7 : lT = lS
              · subst h6; subst h7
                obtain ⟨q, rfl⟩ : ∃ q : Nat, p = (q : Int) := ⟨p.toNat, by omega⟩
                by_cases h0 : lT = 0
                · subst h0
                  exact main_zero w q t sf eS eU cS cU cT ld eT aS aU aT S U T (by omega) (by omega)
                · obtain ⟨xS, rfl, kS, gS⟩ := vS.pos (by omega)
                  obtain ⟨xU, rfl, kU, gU⟩ := vU.pos (by omega)
                  obtain ⟨xT, rfl, kT, gT⟩ := vT.pos (by omega)
                  exact main_pos w q t sf eS eU lT cS cU cT ld eT xS xU xT S U T (by omega) (by omega) (by omega) (by omega) kS gS kU gU kT gT
              · exact early7 w p ld eT t sf eS eU aS aU aT lS lU lT cS cU cT vS.le vU.le vT.le h1 h2 h3 h4 h5 (by subst h6; simp) (by simp; omega)
            · exact early6 w p ld eT t sf eS eU aS aU aT lS lU lT cS cU cT vS.le vU.le vT.le h1 h2 h3 h4 h5 (by simp; omega)
          · exact early5 w p ld eT t sf eS eU aS aU aT lS lU lT cS cU cT vS.le vU.le vT.le h1 h2 h3 h4 (by omega)
        · exact early4 w p ld eT t sf eS eU aS aU aT lS lU lT cS cU cT vS.le vU.le vT.le h1 h2 h3 (by omega)
      · exact early3 w p ld eT t sf eS eU aS aU aT lS lU lT cS cU cT vS.le vU.le vT.le h1 h2 (by omega)
    · exact early2 w p ld eT t sf eS eU aS aU aT lS lU lT cS cU cT vS.le vU.le vT.le h1 (by omega)
  · exact early1 w p ld eT t sf eS eU aS aU aT lS lU lT cS cU cT vS.le vU.le vT.le (by omega)

/-! ### What the arguments hold -/
section
variable {H : Type} {enc : TypeId × Value → H} {W : World}
theorem trod_float {fuel : Nat} {v : Value} {x : DataW H × List MemPlace} {b : Nat} {sp : Nat → Bool} {hd : Bool} (h : DataW.trod enc Try.prog W b sp hd fuel 22 [v] = some x) : ∃ n : Nat, v = .float .f64 n := by
  cases fuel with
  | zero => simp [DataW.trod] at h
  | succ m =>
    cases v <;> simp [DataW.trod, Try.underlying22] at h
    rename_i k n
    obtain ⟨⟨rfl, _⟩, _⟩ := h
    exact ⟨n, rfl⟩
theorem trod_i64 {fuel : Nat} {v : Value} {x : DataW H × List MemPlace} {b : Nat} {sp : Nat → Bool} {hd : Bool} (h : DataW.trod enc Try.prog W b sp hd fuel 3 [v] = some x) : ∃ n : Int, v = .int .i64 n := by
  cases fuel with
  | zero => simp [DataW.trod] at h
  | succ m =>
    cases v <;> simp [DataW.trod, Try.underlying3] at h
    rename_i k n
    obtain ⟨⟨rfl, _⟩, _⟩ := h
    exact ⟨n, rfl⟩
end

section
variable {H : Type} {enc : TypeId × Value → H} {W : World}
theorem view_floats {b : Nat} {sp : Nat → Bool} {hd : Bool} {a : Option Addr} {len cap : Nat} {d : DataW H} {ps : List MemPlace} (h : DataW.Trod enc Try.prog W b sp hd 23 (.slice a len cap) d ps) :
    ∃ S : Nat → Nat, View W a len cap (fun i => .float .f64 (S i)) := by
  obtain ⟨fuel, hf⟩ := h
  rcases Deep.open_slice1 Try.underlying23 (by kernel_rfl) hf with ⟨hcs, _⟩ | ⟨x, l, c, m, n, V, D, Pl, hcs, _, hl, hm, hmm, _, hcell⟩
  · simp [Value.cells] at hcs
    obtain ⟨rfl, rfl, rfl⟩ := hcs
    exact ⟨fun _ => 0, .inl ⟨rfl, rfl, rfl⟩⟩
  · simp [Value.cells] at hcs
    obtain ⟨rfl, rfl, rfl⟩ := hcs
    have hlm : len ≤ m := by rw [hmm]; split <;> omega
    obtain ⟨S, hS⟩ := Deep.choose_lt (n := len) (p := fun i (s : Nat) => V i = .float .f64 s) (fun i hi => trod_float (hcell i (by omega)).2)
    exact ⟨S, .inr ⟨x, rfl, by unfold maxLen at hm; omega, fun i hi => by rw [(hcell i (by omega)).1, hS i hi]⟩⟩
theorem view_ints {b : Nat} {sp : Nat → Bool} {hd : Bool} {a : Option Addr} {len cap : Nat} {d : DataW H} {ps : List MemPlace} (h : DataW.Trod enc Try.prog W b sp hd 24 (.slice a len cap) d ps) :
    ∃ S : Nat → Int, View W a len cap (fun i => .int .i64 (S i)) := by
  obtain ⟨fuel, hf⟩ := h
  rcases Deep.open_slice1 Try.underlying24 (by kernel_rfl) hf with ⟨hcs, _⟩ | ⟨x, l, c, m, n, V, D, Pl, hcs, _, hl, hm, hmm, _, hcell⟩
  · simp [Value.cells] at hcs
    obtain ⟨rfl, rfl, rfl⟩ := hcs
    exact ⟨fun _ => 0, .inl ⟨rfl, rfl, rfl⟩⟩
  · simp [Value.cells] at hcs
    obtain ⟨rfl, rfl, rfl⟩ := hcs
    have hlm : len ≤ m := by rw [hmm]; split <;> omega
    obtain ⟨S, hS⟩ := Deep.choose_lt (n := len) (p := fun i (s : Int) => V i = .int .i64 s) (fun i hi => trod_i64 (hcell i (by omega)).2)
    exact ⟨S, .inr ⟨x, rfl, by unfold maxLen at hm; omega, fun i hi => by rw [(hcell i (by omega)).1, hS i hi]⟩⟩
end
end Go.Proofs.Qxb6617698a.fnTrusted
