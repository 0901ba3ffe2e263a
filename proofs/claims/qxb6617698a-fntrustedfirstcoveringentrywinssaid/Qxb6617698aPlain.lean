/-
  The plain law: the first covering entry wins.
-/
import Derived.Test.Qxb6617698aRel
namespace Go.Proofs.Qxb6617698a

theorem cov_cons (t eS eU : Nat) (S U : Nat → Nat) (i : Nat) : cov t (consN eS S i) (consN eU U i) = if i = 0 then cov t eS eU else cov t (S (i - 1)) (U (i - 1)) := by
  unfold consN; by_cases h : i = 0 <;> simp [h]
theorem cov_snoc (t n eS eU : Nat) (S U : Nat → Nat) (i : Nat) : cov t (snocN n eS S i) (snocN n eU U i) = if i = n then cov t eS eU else cov t (S i) (U i) := by
  unfold snocN; by_cases h : i = n <;> simp [h]

/-- The first of n that fits decides; else d. -/
def First (c : Nat → Bool) (n : Nat) (T : Nat → Int) (d r : Int) : Prop :=
  (∃ i, i < n ∧ c i = true ∧ (∀ j, j < i → c j = false) ∧ r = T i) ∨ ((∀ j, j < n → c j = false) ∧ r = d)

theorem First.unique {c : Nat → Bool} {n : Nat} {T : Nat → Int} {d r s : Int} (h : First c n T d r) (k : First c n T d s) : r = s := by
  rcases h with ⟨i, hi, h1, h2, rfl⟩ | ⟨h1, rfl⟩ <;> rcases k with ⟨j, hj, k1, k2, rfl⟩ | ⟨k1, rfl⟩
  · rcases Nat.lt_trichotomy i j with e | e | e
    · have := k2 i e; rw [h1] at this; cases this
    · rw [e]
    · have := h2 j e; rw [k1] at this; cases this
  · have := k1 i hi; rw [h1] at this; cases this
  · have := h1 j hj; rw [k1] at this; cases this
  · rfl
theorem First.zero {c : Nat → Bool} {T : Nat → Int} {d r : Int} (h : First c 0 T d r) : r = d := by
  rcases h with ⟨i, hi, _⟩ | ⟨_, h⟩
  · omega
  · exact h
theorem First.cons {c : Nat → Bool} {n : Nat} {T : Nat → Int} {d r rx : Int} {b : Bool} {e : Int} (h : First (fun i => if i = 0 then b else c (i - 1)) (n + 1) (consN e T) d r) (hx : First c n T d rx) :
    r = if b = true then e else rx := by
  refine First.unique h ?_
  cases b with
  | true => exact .inl ⟨0, by omega, by simp, fun j hj => by omega, by simp [consN]⟩
  | false =>
    rcases hx with ⟨i, hi, h1, h2, rfl⟩ | ⟨h1, rfl⟩
    · refine .inl ⟨i + 1, by omega, by simp [h1], fun j hj => ?_, by simp [consN]⟩
      by_cases e : j = 0
      · simp [e]
      · simp [e, h2 (j - 1) (by omega)]
    · refine .inr ⟨fun j hj => ?_, by simp⟩
      by_cases e : j = 0
      · simp [e]
      · simp [e, h1 (j - 1) (by omega)]
theorem First.snoc {c : Nat → Bool} {n : Nat} {T : Nat → Int} {d r rx : Int} {b : Bool} {e : Int} (h : First (fun i => if i = n then b else c i) (n + 1) (snocN n e T) d r) (hx : First c n T d rx) :
    r = rx ∨ (b = true ∧ rx = d ∧ r = e) := by
  rcases hx with ⟨i, hi, h1, h2, rfl⟩ | ⟨h1, rfl⟩
  · left
    refine First.unique h (.inl ⟨i, by omega, by simp [show i ≠ n by omega, h1], fun j hj => by simp [show j ≠ n by omega, h2 j hj], ?_⟩)
    simp [snocN, show i ≠ n by omega]
  · cases b with
    | true =>
      right
      exact ⟨rfl, rfl, First.unique h (.inl ⟨n, by omega, by simp, fun j hj => by simp [show j ≠ n by omega, h1 j hj], by simp [snocN]⟩)⟩
    | false =>
      left
      refine First.unique h (.inr ⟨fun j hj => ?_, rfl⟩)
      by_cases e : j = n
      · simp [e]
      · simp [e, h1 j (by omega)]

theorem TrustIs.yes {t sf : Nat} {ld p : Int} {n : Nat} {S U : Nat → Nat} {T : Nat → Int} {r : Int} (h : TrustIs t sf ld p n S U T r) (g : fge t sf = true) : r = ld := by
  rcases h with ⟨_, h⟩ | ⟨h, _⟩
  · exact h
  · rw [g] at h; cases h
theorem TrustIs.no {t sf : Nat} {ld p : Int} {n : Nat} {S U : Nat → Nat} {T : Nat → Int} {r : Int} (h : TrustIs t sf ld p n S U T r) (g : fge t sf = false) : First (fun i => cov t (S i) (U i)) n T p r := by
  rcases h with ⟨h, _⟩ | ⟨_, h⟩
  · rw [g] at h; cases h
  · exact h

theorem law_plain {t sf eS eU n : Nat} {ld p eT r0 rx ry rz : Int} {S U : Nat → Nat} {T : Nat → Int} (g : fge t sf = false)
    (h0 : TrustIs t sf ld p 0 S U T r0) (hx : TrustIs t sf ld p n S U T rx) (hy : TrustIs t sf ld p (n + 1) (consN eS S) (consN eU U) (consN eT T) ry)
    (hz : TrustIs t sf ld p (n + 1) (snocN n eS S) (snocN n eU U) (snocN n eT T) rz) :
    r0 = p ∧ (cov t eS eU = true → ry = eT ∧ (rz = rx ∨ (rx = p ∧ rz = eT))) ∧ (cov t eS eU = false → ry = rx ∧ rz = rx) := by
  have f0 := (h0.no g).zero
  have fx := hx.no g
  have fy := hy.no g
  have fz := hz.no g
  simp only [cov_cons] at fy
  simp only [cov_snoc] at fz
  have ey := First.cons (c := fun i => cov t (S i) (U i)) fy fx
  have ez := First.snoc (c := fun i => cov t (S i) (U i)) fz fx
  refine ⟨f0, fun hc => ?_, fun hc => ?_⟩
  · rw [if_pos hc] at ey
    refine ⟨ey, ?_⟩
    rcases ez with h | h
    · exact .inl h
    · exact .inr h.2
  · rw [if_neg (by rw [hc]; simp)] at ey
    refine ⟨ey, ?_⟩
    rcases ez with h | ⟨h, _⟩
    · exact h
    · rw [hc] at h; cases h

/-! ### ZZAdversaryTrust once more, its blocks under names of their own -/
open Go.RowKit in
def AdvSaid (w : World) (p sf : Nat) (ld : Int) (n : Nat) (S U : Nat → Nat) (T : Nat → Int) (e : Ending) (w' : World) : Prop :=
  ∃ A D O E : Nat, e = .returned (.pointer (some ⟨A, 0, none⟩)) ∧ Adv w' A D O E p sf ld n S U T ∧ Below w.heap.size w w'
theorem adv_rows (w : World) (p sf n bS bU bT : Nat) (ld : Int) (S U : Nat → Nat) (T : Nat → Int) (hp : 1 ≤ p) (hp2 : p ≤ 65536) (hn : n ≤ 40000) (hn0 : 1 ≤ n)
    (hS : w.rowIs bS 22 n (fun i => .float .f64 (S i))) (hU : w.rowIs bU 22 n (fun i => .float .f64 (U i))) (hT : w.rowIs bT 3 n (fun i => .int .i64 (T i))) :
    Calls Try.prog 5 #[.int .i64 p, .float .f64 sf, .int .i64 ld, .slice (some ⟨bS, 0, none⟩) n n, .slice (some ⟨bU, 0, none⟩) n n, .slice (some ⟨bT, 0, none⟩) n n] w (AdvSaid w p sf ld n S U T) := by
  refine (adv_any w p sf n bS bU bT ld S U T hp hp2 hn hn0 (fun i hi => hS.cell hi) (fun i hi => hU.cell hi) (fun i hi => hT.cell hi) hS.lt hU.lt hT.lt).mono ?_
  rintro e w' ⟨h1, h2, h3⟩
  exact ⟨_, _, _, _, h1, h2, h3⟩
theorem adv_none (w : World) (p sf : Nat) (aS aU aT : Option Addr) (cS cU cT : Nat) (ld : Int) (S U : Nat → Nat) (T : Nat → Int) (hp : 1 ≤ p) (hp2 : p ≤ 65536) :
    Calls Try.prog 5 #[.int .i64 p, .float .f64 sf, .int .i64 ld, .slice aS 0 cS, .slice aU 0 cU, .slice aT 0 cT] w (AdvSaid w p sf ld 0 S U T) := by
  refine (adv_zero w p sf aS aU aT cS cU cT ld S U T hp hp2).mono ?_
  rintro e w' ⟨h1, h2, h3⟩
  exact ⟨_, _, _, _, h1, h2, h3⟩
end Go.Proofs.Qxb6617698a
