/-
  The contracts of ZZNewSubclass, lowest, ZZLowest.
-/
import Derived.Test.Qxb6617726aScan
namespace Go.Proofs.Qxb6617726a
open Go.ChangeShapes Go.WideShapes Go.ChangeAt Go.RowKit Go.Deep

/-- The sixteen cells of a subclass. -/
def subC (a : Pay) (l r : Value) : Array Value :=
  #[.pointer none, .int .i64 0, .int .i64 0, .int .i64 a.lc, .int .i64 a.lm, .slice none 0 0, .bool false, l, r, .int .u64 0, .int .i64 0, .int .i64 0, .int .i64 0, .int .i64 a.mc, .int .i64 0, .int .i64 a.mm]

theorem ptr_pointer {T : BT Pay} : ∃ u, T.ptr = .pointer u := by cases T <;> exact ⟨_, rfl⟩

theorem new_any (w : World) (a : Pay) (l r : Option Addr) :
    Calls Try.prog 8 #[.int .i64 a.lc, .int .i64 a.lm, .int .i64 a.mc, .int .i64 a.mm, .pointer l, .pointer r] w fun e w' =>
      e = .returned (.pointer (some ⟨w.heap.size, 0, none⟩)) ∧ w' = w.alloc (.cells (subC a (.pointer l) (.pointer r)) 47) := by
  go_enter Try.func8, Try.ntmps8
  go_wp2
  go_ret
  exact ⟨rfl, rfl⟩

/-- The tree of subclasses lies in w, each node a block of its own. -/
def InS (w : World) : BT Pay → Prop
  | .nil => True
  | .node b o a l r => o = 0 ∧ w.heap[b]? = some (.cells (subC a l.ptr r.ptr) 47 (0, 0)) ∧ InS w l ∧ InS w r

theorem InS.keep {w w' : World} : ∀ {T : BT Pay}, (∀ (b : Nat) (C : Array Value), w.heap[b]? = some (.cells C 47 (0, 0)) → w'.heap[b]? = w.heap[b]?) → InS w T → InS w' T
  | .nil, _, _ => trivial
  | .node b _ _ _ _, hh, ⟨h0, h1, hl, hr⟩ => ⟨h0, (hh b _ h1).trans h1, InS.keep hh hl, InS.keep hh hr⟩
theorem InS.below {w w' : World} {T : BT Pay} (h : InS w T) (hb : Below w.heap.size w w') : InS w' T :=
  InS.keep (fun b _ hC => hb.block b (Array.getElem?_eq_some_iff.1 hC).1) h

theorem cell_block {w : World} {b : Nat} {C : Array Value} {t : TypeId} (h : w.heap[b]? = some (.cells C t (0, 0))) (i : Nat) : w.cell? ⟨b, i, none⟩ = C[i]? := by
  simp [World.cell?, h]

theorem lowP_ptr (c m : Int) : ∀ T : BT Pay, ∃ p, lowP c m T = .pointer p
  | .nil => ⟨none, rfl⟩
  | .node b o a l r => by
    obtain ⟨p, hp⟩ := lowP_ptr c m l
    cases p with
    | some x => exact ⟨some x, by simp [lowP, hp]⟩
    | none =>
      by_cases hf : fits c m a = true
      · exact ⟨some ⟨b, o, none⟩, by simp [lowP, hp, hf]⟩
      · obtain ⟨q, hq⟩ := lowP_ptr c m r
        exact ⟨q, by simp [lowP, hp, hf, hq]⟩

theorem ret_val {a b : Value} (h : a = b) : Ending.returned a = .returned b := by rw [h]

set_option maxRecDepth 100000 in
set_option maxHeartbeats 1000000 in
theorem low_any (c m : Int) (T : BT Pay) : ∀ w : World, InS w T → Good T → Calls Try.prog 9 #[T.ptr, .int .i64 c, .int .i64 m] w fun e w' => e = .returned (lowP c m T) ∧ Below w.heap.size w w' := by
  induction T with
  | nil =>
    intro w _ _
    show Calls Try.prog 9 #[.pointer none, .int .i64 c, .int .i64 m] w _
    go_enter Try.func9, Try.ntmps9
    go_wp2
    go_ret
    exact ⟨rfl, Below.refl _ _⟩
  | node b o a l r ihl ihr =>
    intro w hin hg
    have hsh : a.mc < c ∨ a.mm < m → Hid (lowP c m (.node b o a l r) = .pointer none) := fun h => short_none c m b o a l r hg h
    obtain ⟨rfl, hb, hl, hr⟩ := hin
    obtain ⟨_, _, _, _, gl, gr⟩ := hg
    have hlt : b < w.heap.size := (Array.getElem?_eq_some_iff.1 hb).1
    obtain ⟨lp, elp⟩ := ptr_pointer (T := l)
    obtain ⟨rp, erp⟩ := ptr_pointer (T := r)
    have c3 : w.cell? ⟨b, 3, none⟩ = some (.int .i64 a.lc) := by rw [cell_block hb]; rfl
    have c4 : w.cell? ⟨b, 4, none⟩ = some (.int .i64 a.lm) := by rw [cell_block hb]; rfl
    have c7 : w.cell? ⟨b, 7, none⟩ = some (.pointer lp) := by rw [cell_block hb, ← elp]; rfl
    have c8 : w.cell? ⟨b, 8, none⟩ = some (.pointer rp) := by rw [cell_block hb, ← erp]; rfl
    have c13 : w.cell? ⟨b, 13, none⟩ = some (.int .i64 a.mc) := by rw [cell_block hb]; rfl
    have c15 : w.cell? ⟨b, 15, none⟩ = some (.int .i64 a.mm) := by rw [cell_block hb]; rfl
    have IL : Hid (∀ w : World, InS w l → Calls Try.prog 9 #[.pointer lp, .int .i64 c, .int .i64 m] w fun e w' => e = .returned (lowP c m l) ∧ Below w.heap.size w w') := by
      intro w h; have := ihl w h gl; rwa [elp] at this
    have IR : Hid (∀ w : World, InS w r → Calls Try.prog 9 #[.pointer rp, .int .i64 c, .int .i64 m] w fun e w' => e = .returned (lowP c m r) ∧ Below w.heap.size w w') := by
      intro w h; have := ihr w h gr; rwa [erp] at this
    clear ihl ihr elp erp hb
    show Calls Try.prog 9 #[.pointer (some ⟨b, 0, none⟩), .int .i64 c, .int .i64 m] w _
    by_cases t1 : a.mc < c
    · go_enter Try.func9, Try.ntmps9
      go_wp2
      go_ret
      exact ⟨ret_val (hsh (.inl t1)).out.symm, Below.refl _ _⟩
    · by_cases t2 : a.mm < m
      · go_enter Try.func9, Try.ntmps9
        go_wp2
        go_ret
        exact ⟨ret_val (hsh (.inr t2)).out.symm, Below.refl _ _⟩
      · clear hsh
        go_enter Try.func9, Try.ntmps9
        go_wp2_with fail
        refine (IL.out w hl).mono ?_
        rintro e w1 ⟨rfl, b1⟩
        obtain ⟨p, hp⟩ := lowP_ptr c m l
        rw [hp]
        cases p with
        | some x =>
          have hq : Hid (lowP c m (.node b 0 a l r) = .pointer (some x)) := (by simp [lowP, hp] : lowP c m (.node b 0 a l r) = .pointer (some x))
          clear hp
          go_wp2
          go_ret
          exact ⟨ret_val hq.out.symm, b1⟩
        | none =>
          have d3 : w1.cell? ⟨b, 3, none⟩ = some (.int .i64 a.lc) := (b1.cell (by exact hlt)).trans c3
          have d4 : w1.cell? ⟨b, 4, none⟩ = some (.int .i64 a.lm) := (b1.cell (by exact hlt)).trans c4
          have d8 : w1.cell? ⟨b, 8, none⟩ = some (.pointer rp) := (b1.cell (by exact hlt)).trans c8
          have hlt1 : b < w1.heap.size := by have := b1.size; omega
          by_cases f1 : c ≤ a.lc
          · by_cases f2 : m ≤ a.lm
            · have hq : Hid (lowP c m (.node b 0 a l r) = .pointer (some ⟨b, 0, none⟩)) := (by simp [lowP, hp, fits, f1, f2] : lowP c m (.node b 0 a l r) = .pointer (some ⟨b, 0, none⟩))
              clear hp
              go_wp2
              go_ret
              exact ⟨ret_val hq.out.symm, b1.alloc b1.size _⟩
            · have hq : Hid (lowP c m (.node b 0 a l r) = lowP c m r) := (by simp [lowP, hp, fits, f2] : lowP c m (.node b 0 a l r) = lowP c m r)
              clear hp
              go_wp2_with fail
              refine (IR.out _ ((hr.below b1).below ((Below.refl _ _).alloc (Nat.le_refl _) _))).mono ?_
              rintro e w2 ⟨rfl, b2⟩
              go_wp2
              go_ret
              exact ⟨ret_val hq.out.symm, (b1.alloc b1.size _).trans (b2.mono (by simp; have := b1.size; omega))⟩
          · have hq : Hid (lowP c m (.node b 0 a l r) = lowP c m r) := (by simp [lowP, hp, fits, f1] : lowP c m (.node b 0 a l r) = lowP c m r)
            clear hp
            go_wp2_with fail
            refine (IR.out _ ((hr.below b1).below ((Below.refl _ _).alloc (Nat.le_refl _) _))).mono ?_
            rintro e w2 ⟨rfl, b2⟩
            go_wp2
            go_ret
            exact ⟨ret_val hq.out.symm, (b1.alloc b1.size _).trans (b2.mono (by simp; have := b1.size; omega))⟩

theorem zzlow_any (c m : Int) (T : BT Pay) (p : Option Addr) (hp : T.ptr = .pointer p) (w : World) (h : InS w T) (g : Good T) : Calls Try.prog 7 #[.pointer p, .int .i64 c, .int .i64 m] w fun e w' => e = .returned (lowP c m T) ∧ Below w.heap.size w w' := by
  have H : Hid (Calls Try.prog 9 #[.pointer p, .int .i64 c, .int .i64 m] w fun e w' => e = .returned (lowP c m T) ∧ Below w.heap.size w w') := by
    have := low_any c m T w h g
    rwa [hp] at this
  clear hp h g
  go_enter Try.func7, Try.ntmps7
  go_wp2_with fail
  refine H.out.mono ?_
  rintro e w' ⟨rfl, hb⟩
  go_wp2
  go_ret
  exact ⟨rfl, hb⟩
end Go.Proofs.Qxb6617726a
