/-
  Plain facts on the trees: sizes, bounds, the order; the first that fits. No walk.
-/
import Derived.Deep.Trees
namespace Go.Proofs.Qxb6617726a
open Go.Deep

/-- What a node holds. -/
structure Pay where
  lc : Int
  lm : Int
  mc : Int
  mm : Int

def sz : BT Pay → Nat
  | .nil => 0
  | .node _ _ _ l r => sz l + 1 + sz r

/-- The bounds of the root. -/
def under (a : Pay) : BT Pay → Prop
  | .nil => True
  | .node _ _ b _ _ => b.mc ≤ a.mc ∧ b.mm ≤ a.mm

def Good : BT Pay → Prop
  | .nil => True
  | .node _ _ a l r => a.lc ≤ a.mc ∧ a.lm ≤ a.mm ∧ under a l ∧ under a r ∧ Good l ∧ Good r

/-- The payloads, the pointers, in the tree's order. -/
def pays : BT Pay → List Pay
  | .nil => []
  | .node _ _ a l r => pays l ++ a :: pays r
def ptrs : BT Pay → List Value
  | .nil => []
  | .node b o _ l r => ptrs l ++ .pointer (some ⟨b, o, none⟩) :: ptrs r

/-- Two trees of one shape and one payload. -/
def Sim : BT Pay → BT Pay → Prop
  | .nil, .nil => True
  | .node _ _ a l r, .node _ _ a' l' r' => a = a' ∧ Sim l l' ∧ Sim r r'
  | _, _ => False

theorem len_pays : ∀ T : BT Pay, (pays T).length = sz T
  | .nil => rfl
  | .node _ _ _ l r => by simp [pays, sz, len_pays l, len_pays r]; omega
theorem len_ptrs : ∀ T : BT Pay, (ptrs T).length = sz T
  | .nil => rfl
  | .node _ _ _ l r => by simp [ptrs, sz, len_ptrs l, len_ptrs r]; omega
theorem Sim.pays_eq : ∀ {T U : BT Pay}, Sim T U → pays T = pays U
  | .nil, .nil, _ => rfl
  | .node _ _ a l r, .node _ _ a' l' r', h => by
    obtain ⟨rfl, hl, hr⟩ := h
    simp [pays, hl.pays_eq, hr.pays_eq]
  | .nil, .node _ _ _ _ _, h => h.elim
  | .node _ _ _ _ _, .nil, h => h.elim
theorem Sim.sz_eq {T U : BT Pay} (h : Sim T U) : sz T = sz U := by rw [← len_pays, ← len_pays, h.pays_eq]
theorem Sim.under {a : Pay} : ∀ {T U : BT Pay}, Sim T U → under a T → Qxb6617726a.under a U
  | .nil, .nil, _, _ => trivial
  | .node _ _ b l r, .node _ _ b' l' r', h, k => by obtain ⟨rfl, _, _⟩ := h; exact k
  | .nil, .node _ _ _ _ _, h, _ => h.elim
  | .node _ _ _ _ _, .nil, h, _ => h.elim
theorem Sim.good : ∀ {T U : BT Pay}, Sim T U → Good T → Good U
  | .nil, .nil, _, _ => trivial
  | .node _ _ a l r, .node _ _ a' l' r', h, k => by
    obtain ⟨rfl, hl, hr⟩ := h
    exact ⟨k.1, k.2.1, hl.under k.2.2.1, hr.under k.2.2.2.1, hl.good k.2.2.2.2.1, hr.good k.2.2.2.2.2⟩
  | .nil, .node _ _ _ _ _, h, _ => h.elim
  | .node _ _ _ _ _, .nil, h, _ => h.elim

/-- Does the payload give what is asked? -/
def fits (c m : Int) (a : Pay) : Bool := decide (c ≤ a.lc) && decide (m ≤ a.lm)

/-- In a good tree every payload lies under the root's bounds. -/
theorem all_under : ∀ (T : BT Pay) (a : Pay), under a T → Good T → ∀ b ∈ pays T, b.lc ≤ a.mc ∧ b.lm ≤ a.mm
  | .nil, _, _, _ => fun b hb => by simp [pays] at hb
  | .node _ _ x l r, a, hu, hg => by
    intro b hb
    obtain ⟨g1, g2, ul, ur, gl, gr⟩ := hg
    obtain ⟨u1, u2⟩ := hu
    simp only [pays, List.mem_append, List.mem_cons] at hb
    rcases hb with hb | rfl | hb
    · have := all_under l x ul gl b hb
      exact ⟨by omega, by omega⟩
    · exact ⟨by omega, by omega⟩
    · have := all_under r x ur gr b hb
      exact ⟨by omega, by omega⟩

/-- What 'lowest' answers: the first in order that fits, or nil. -/
def lowP (c m : Int) : BT Pay → Value
  | .nil => .pointer none
  | .node b o a l r =>
    match lowP c m l with
    | .pointer (some x) => .pointer (some x)
    | _ => if fits c m a = true then .pointer (some ⟨b, o, none⟩) else lowP c m r

/-- The index of the first that fits. -/
def idx (c m : Int) (L : List Pay) : Nat := L.findIdx (fits c m)

theorem lowP_none (c m : Int) : ∀ T : BT Pay, (∀ b ∈ pays T, fits c m b = false) → lowP c m T = .pointer none
  | .nil, _ => rfl
  | .node b o a l r, h => by
    have hl := lowP_none c m l (fun b hb => h b (by simp [pays, hb]))
    have hr := lowP_none c m r (fun b hb => h b (by simp [pays, hb]))
    have ha := h a (by simp [pays])
    simp [lowP, hl, hr, ha]

/-- The pointer at the first index that fits. -/
theorem lowP_idx (c m : Int) : ∀ T : BT Pay, (∀ b ∈ pays T, fits c m b = false) ∨ ((ptrs T)[idx c m (pays T)]? = some (lowP c m T) ∧ ∃ x, lowP c m T = .pointer (some x))
  | .nil => .inl (fun b hb => by simp [pays] at hb)
  | .node b o a l r => by
    rcases lowP_idx c m l with hl | ⟨hl, x, hx⟩
    · have hn := lowP_none c m l hl
      have il : (pays l).findIdx (fits c m) = (pays l).length := List.findIdx_eq_length.2 (fun b hb => by simpa using hl b hb)
      by_cases ha : fits c m a = true
      · right
        have e : lowP c m (.node b o a l r) = .pointer (some ⟨b, o, none⟩) := by simp [lowP, hn, ha]
        refine ⟨?_, _, e⟩
        have ix : idx c m (pays (.node b o a l r)) = (ptrs l).length := by
          unfold idx
          rw [pays, List.findIdx_append, il, if_neg (by omega), List.findIdx_cons]
          simp [ha, len_pays, len_ptrs]
        rw [e, ix, ptrs]
        simp
      · rw [Bool.not_eq_true] at ha
        have e : lowP c m (.node b o a l r) = lowP c m r := by simp [lowP, hn, ha]
        have ix : idx c m (pays (.node b o a l r)) = (ptrs l).length + 1 + idx c m (pays r) := by
          unfold idx
          rw [pays, List.findIdx_append, il, if_neg (by omega), List.findIdx_cons]
          simp [ha, len_pays, len_ptrs]
          omega
        rcases lowP_idx c m r with hr | ⟨hr, x, hx⟩
        · left
          intro b hb
          simp only [pays, List.mem_append, List.mem_cons] at hb
          rcases hb with hb | rfl | hb
          · exact hl b hb
          · exact ha
          · exact hr b hb
        · right
          refine ⟨?_, x, by rw [e, hx]⟩
          rw [e, ix, ptrs, List.getElem?_append_right (by omega)]
          rw [show (ptrs l).length + 1 + idx c m (pays r) - (ptrs l).length = idx c m (pays r) + 1 from by omega, List.getElem?_cons_succ]
          exact hr
    · right
      have e : lowP c m (.node b o a l r) = .pointer (some x) := by simp [lowP, hx]
      have hlt : idx c m (pays l) < (ptrs l).length := by
        obtain ⟨h, _⟩ := List.getElem?_eq_some_iff.1 hl
        exact h
      have ix : idx c m (pays (.node b o a l r)) = idx c m (pays l) := by
        unfold idx at hlt ⊢
        rw [pays, List.findIdx_append, if_pos (by rw [len_pays]; rw [len_ptrs] at hlt; exact hlt)]
      refine ⟨?_, x, e⟩
      rw [e, ix, ptrs, List.getElem?_append_left hlt, hl, hx]

/-- A tree whose bounds fall short holds none that fits. -/
theorem short_none (c m : Int) (b o : Nat) (a : Pay) (l r : BT Pay) (hg : Good (.node b o a l r)) (h : a.mc < c ∨ a.mm < m) : lowP c m (.node b o a l r) = .pointer none := by
  apply lowP_none
  intro y hy
  have hu := all_under (.node b o a l r) a ⟨Int.le_refl _, Int.le_refl _⟩ hg y hy
  unfold fits
  rcases h with h | h
  · simp; intro h'; omega
  · simp; intro _; omega
end Go.Proofs.Qxb6617726a
