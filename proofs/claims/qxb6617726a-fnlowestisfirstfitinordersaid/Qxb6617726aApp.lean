/-
  append of one element: the row is the old one or a new block; frames.
-/
import Derived.Test.Qxb6617726aLow
namespace Go.Proofs.Qxb6617726a
open Go.ChangeShapes Go.WideShapes Go.ChangeAt Go.RowKit Go.Deep

/-- Block k is the slice's own. -/
def rowAt (a : Option Addr) (k : Nat) : Prop := ∃ x : Addr, a = some x ∧ x.block = k
theorem rowAt_none {k : Nat} (h : rowAt none k) : False := by obtain ⟨x, h, _⟩ := h; cases h

/-- Nothing that was there has turned but the blocks X. -/
structure Fr (w w' : World) (X : Nat → Prop) : Prop where
  os : w'.os = w.os
  tape : w'.tape = w.tape
  output : w'.output = w.output
  size : w.heap.size ≤ w'.heap.size
  block : ∀ k, k < w.heap.size → ¬ X k → w'.heap[k]? = w.heap[k]?

theorem Fr.refl (w : World) (X : Nat → Prop) : Fr w w X := ⟨rfl, rfl, rfl, Nat.le_refl _, fun _ _ _ => rfl⟩
theorem Fr.trans {w w1 w2 : World} {X Y : Nat → Prop} (h : Fr w w1 X) (k : Fr w1 w2 Y) (hy : ∀ j, j < w.heap.size → Y j → X j) : Fr w w2 X :=
  ⟨k.os.trans h.os, k.tape.trans h.tape, k.output.trans h.output, Nat.le_trans h.size k.size, fun j hj hx => (k.block j (Nat.lt_of_lt_of_le hj h.size) (fun y => hx (hy j hj y))).trans (h.block j hj hx)⟩
theorem Fr.alloc {w w1 : World} {X : Nat → Prop} (h : Fr w w1 X) (o : Obj) : Fr w (w1.alloc o) X :=
  h.trans (Y := fun _ => False) ⟨rfl, rfl, rfl, by simp, fun k hk _ => Below.heap_alloc _ _ _ hk⟩ (fun _ _ y => y.elim)
theorem Fr.drewN {w w1 : World} {X : Nat → Prop} (h : Fr w w1 X) (n : Nat) : Fr w (w1.drewN n) X := ⟨h.os, h.tape, h.output, h.size, h.block⟩
theorem Fr.drew {w w1 : World} {X : Nat → Prop} (h : Fr w w1 X) : Fr w w1.drew X := ⟨h.os, h.tape, h.output, h.size, h.block⟩
theorem Fr.below {w w' : World} {X : Nat → Prop} {B : Nat} (h : Fr w w' X) (hB : B ≤ w.heap.size) (hx : ∀ k, X k → B ≤ k) : Below B w w' :=
  ⟨h.os, h.tape, h.output, h.size, fun k hk => h.block k (by omega) (fun x => by have := hx k x; omega)⟩
theorem Fr.mono {w w' : World} {X Y : Nat → Prop} (h : Fr w w' X) (hy : ∀ j, j < w.heap.size → X j → Y j) : Fr w w' Y :=
  ⟨h.os, h.tape, h.output, h.size, fun k hk y => h.block k hk (fun x => y (hy k hk x))⟩

/-- The slice owns a row of its own from block B on: its elements are xs. -/
def Own (w : World) (B : Nat) (E : TypeId) (a : Option Addr) (n c : Nat) (xs : List Value) : Prop := w.ownsRow B E 1 (.slice a n c) n xs

theorem Own.nil (w : World) (B : Nat) (E : TypeId) : Own w B E none 0 0 [] := World.ownsRow_nil w B E 1
theorem Own.len {w : World} {B : Nat} {E : TypeId} {a : Option Addr} {n c : Nat} {xs : List Value} (h : Own w B E a n c xs) : xs.length = n := by simpa using h.1
theorem Own.row {w : World} {B : Nat} {E : TypeId} {a : Option Addr} {n c : Nat} {xs : List Value} (h : Own w B E a n c xs) {k : Nat} (hk : rowAt a k) :
    B ≤ k ∧ k < w.heap.size ∧ ∃ C, w.heap[k]? = some (.cells C E (0, 0)) := by
  obtain ⟨x, rfl, rfl⟩ := hk
  rcases h.2 with ⟨h', _⟩ | ⟨g, cap, cur, h', hb, hg, _⟩
  · simp at h'
  · simp only [Value.slice.injEq, Option.some.injEq] at h'
    obtain ⟨rfl, _, _⟩ := h'
    exact ⟨hb, (Array.getElem?_eq_some_iff.1 hg).1, cur, hg⟩
theorem Own.pos {w : World} {B : Nat} {E : TypeId} {a : Option Addr} {n c : Nat} {xs : List Value} (h : Own w B E a n c xs) (hn : 0 < n) : ∃ g : Nat, a = some ⟨g, 0, none⟩ := by
  rcases h.2 with ⟨_, h'⟩ | ⟨g, cap, cur, h', _⟩
  · omega
  · simp only [Value.slice.injEq] at h'
    exact ⟨g, h'.1⟩
theorem Own.kept {w w' : World} {X : Nat → Prop} {B : Nat} {E : TypeId} {a : Option Addr} {n c : Nat} {xs : List Value} (h : Own w B E a n c xs) (f : Fr w w' X) (hx : ∀ k, rowAt a k → ¬ X k) : Own w' B E a n c xs := by
  refine ⟨h.1, ?_⟩
  rcases h.2 with h' | ⟨g, cap, cur, h', hb, hg, r⟩
  · exact .inl h'
  · refine .inr ⟨g, cap, cur, h', hb, ?_, r⟩
    simp only [Value.slice.injEq] at h'
    rw [f.block g (Array.getElem?_eq_some_iff.1 hg).1 (hx g ⟨_, h'.1, rfl⟩)]
    exact hg

theorem InS.fr {w w' : World} {X : Nat → Prop} {T : BT Pay} (h : InS w T) (f : Fr w w' X) (hx : ∀ k, X k → ∃ C E, w.heap[k]? = some (.cells C E (0, 0)) ∧ E ≠ 47) : InS w' T := by
  refine InS.keep (fun b C hC => f.block b (Array.getElem?_eq_some_iff.1 hC).1 (fun x => ?_)) h
  obtain ⟨C', E, hE, hne⟩ := hx b x
  rw [hC] at hE
  simp only [Option.some.injEq, Obj.cells.injEq] at hE
  exact hne hE.2.1.symm

theorem InT.below {w w' : World} {B : Nat} : ∀ {T : BT Pay}, InT w T → (∀ a : Addr, a.block < B → w'.cell? a = w.cell? a) → w.heap.size ≤ B → InT w' T := by
  intro T h hh hB
  exact InT.same (fun a ha => hh a (by omega)) h

section
variable {P : Program}
theorem run_app (w : World) (base : Nat) (t ty e : TypeId) (i : TypeInfo) (z : Value) (bytes : Nat) (ht : P.underlying t = some (.slice e)) (hi : P.info? e = some i) (hz : i.zero = some z)
    (hsize : i.size = 1) (hby : i.bytes = bytes) (hzs : z.cells.size = 1) (a : Option Addr) (n c : Nat) (xs : List Value) (hown : Own w base e a n c xs) (ad : Addr) (cc : Nat) (u : Value) (hu : w.cell? ad = some u) (h1 : u.oneCell' = true)
    (h63 : n + 1 ≤ maxLen) (hbytes : (n + 1) * bytes ≤ 140737488355328) (hbase : base ≤ w.heap.size) :
    ∃ a' c' w', (Builtin.append_ #[t, t] ty #[.slice a n c, .slice (some ad) 1 cc]).run P w = .ok (.slice a' (n + 1) c') w' ∧ Own w' base e a' (n + 1) c' (xs ++ [u]) ∧ Fr w w' (rowAt a) ∧ ∀ k, rowAt a' k → rowAt a k ∨ w.heap.size ≤ k := by
  have hnews : ∀ j v, [u][j]? = some v → w.cell? (ad.add j) = some v := by
    intro j v hj
    match j, hj with
    | 0, hj =>
      simp at hj
      subst hj
      have e0 : ad.add 0 = ad := by simp [Addr.add]
      rw [e0]; exact hu
  have h1' : ∀ v ∈ [u], v.oneCell' = true := by
    intro v hv; simp at hv; subst hv; exact h1
  obtain ⟨v', w', hr, ho, hg, _⟩ := run_append_own (P := P) w base t ty e i z 1 bytes ht hi hz hsize hby hzs (by omega) (.slice a n c) n xs hown ad 1 cc [u] (by simp) hnews h1' h63 hbytes hbase
  have hfr : Fr w w' (rowAt a) := ⟨hg.os, hg.tape, hg.output, hg.size, fun k hk hx => hg.block k hk (fun he => hx (by
    cases a with
    | none => simp [Value.ownBlock] at he
    | some x => simp [Value.ownBlock] at he; exact ⟨x, rfl, he.symm⟩))⟩
  have key : ∃ a' c', v' = .slice a' (n + 1) c' ∧ ∀ k, rowAt a' k → rowAt a k ∨ w.heap.size ≤ k := by
    have hsm : (n : Int) + 1 ≤ 9223372036854775807 := by unfold maxLen at h63; omega
    rcases hown.2 with ⟨h', rfl⟩ | ⟨g, cap, cur, h', hb, hgg, hnc, hcm, hcs, htake⟩
    · simp only [Value.slice.injEq] at h'
      obtain ⟨rfl, _, rfl⟩ := h'
      have hr2 := run_append_nil (P := P) w t ty e i z ht hi hz ad 1 cc [u] (by simp [hsize]) hnews (by omega) (by omega) (by rw [hby]; omega)
      rw [hr2] at hr
      simp only [Result.ok.injEq] at hr
      exact ⟨_, _, hr.1.symm, fun k hk => .inr (by obtain ⟨x, hx, rfl⟩ := hk; simp only [Option.some.injEq] at hx; rw [← hx]; exact Nat.le_refl _)⟩
    · simp only [Value.slice.injEq] at h'
      obtain ⟨rfl, _, rfl⟩ := h'
      by_cases hroom : n + 1 ≤ c
      · have hr2 := run_append_room (P := P) w t ty e i ht hi g n c cur hgg ad 1 cc [u] (by simp [hsize]) hnews h1' hroom (by simp [hsize]; omega)
        rw [hr2] at hr
        simp only [Result.ok.injEq] at hr
        exact ⟨_, _, hr.1.symm, fun k hk => .inl hk⟩
      · have holds : ∀ j u, xs[j]? = some u → w.cell? ((⟨g, 0, none⟩ : Addr).add j) = some u := World.ownsRow.cells hown (g := g) rfl
        have hr2 := run_append_grow (P := P) w t ty e i z ht hi hz ⟨g, 0, none⟩ n c xs (by simpa [hsize] using hown.1) holds ad 1 cc [u] (by simp [hsize]) hnews (by omega) (by omega) (by rw [hby]; exact growslice_fits (by omega) hbytes)
        rw [hr2] at hr
        simp only [Result.ok.injEq] at hr
        exact ⟨_, _, hr.1.symm, fun k hk => .inr (by obtain ⟨x, hx, rfl⟩ := hk; simp only [Option.some.injEq] at hx; rw [← hx]; exact Nat.le_refl _)⟩
  obtain ⟨a', c', rfl, hk⟩ := key
  exact ⟨a', c', w', hr, ho, hfr, hk⟩

theorem wpList_app {w : World} {ops : Array Oper} {rest : List Oper} {o : Oper} {A : Act} {Q : Exit → Act → World → Prop} (hgd : o.guard = none) (s x : Operand) (t : TypeId)
    (ho : o.op = .call { callee := .builtin .append, args := #[s, x], argTypes := #[t, t] })
    (base : Nat) (e : TypeId) (i : TypeInfo) (z : Value) (bytes : Nat) (ht : P.underlying t = some (.slice e)) (hi : P.info? e = some i) (hz : i.zero = some z)
    (hsize : i.size = 1) (hby : i.bytes = bytes) (hzs : z.cells.size = 1) (a : Option Addr) (n c : Nat) (xs : List Value) (hs : A.eval s = .slice a n c) (hown : Own w base e a n c xs) (ad : Addr) (cc : Nat) (u : Value)
    (hx : A.eval x = .slice (some ad) 1 cc) (hu : w.cell? ad = some u) (h1 : u.oneCell' = true) (h63 : n + 1 ≤ maxLen) (hbytes : (n + 1) * bytes ≤ 140737488355328) (hbase : base ≤ w.heap.size)
    (h : ∀ a' c' w', Own w' base e a' (n + 1) c' (xs ++ [u]) → Fr w w' (rowAt a) → (∀ k, rowAt a' k → rowAt a k ∨ w.heap.size ≤ k) → wpList P ops Q rest (A.put o.dst (.slice a' (n + 1) c')) w') : wpList P ops Q (o :: rest) A w := by
  refine wpList_plain hgd fun K hK => ?_
  obtain ⟨a', c', w', hr, h2, h3, h4⟩ := run_app (P := P) w base t o.type e i z bytes ht hi hz hsize hby hzs a n c xs hown ad cc u hu h1 h63 hbytes hbase
  unfold Oper.wp execOp
  simp only [ho, resolve, invoke, builtin, Sem.run_bind, Sem.run_pure, Result.andThen_ok, List.map_toArray, List.map_cons, List.map_nil, hs, hx, hr]
  exact hK _ _ (h a' c' w' h2 h3 h4)
end

theorem cell_new (w : World) (u : Value) (E : TypeId) : (w.alloc (.cells #[u] E)).cell? ⟨w.heap.size, 0, none⟩ = some u := by simp
end Go.Proofs.Qxb6617726a
