import PyProof.Rows.All
import Wide.All
import OpenK.AllK
import Wide.FinOn
import PySem.Challenge.RW_xp0002_01
set_option Elab.async false
set_option compiler.extract_closed false
section -- Hd0
open PySem PySem.W PyProof.Rows
namespace Mine
namespace Look
/-- a look at the head: it lays the written objects, and hands the row back unproved -/
theorem PySem.W.holds_open {r : OpenRow} {q : Program} {loose : List Str} {Xt : Shared → Bool} {XP : (Str → Option Value) → Heap → Prop} {α : Type} {Yf : Shared → α} {Ya : World → α} {YP : World → Heap → Prop} {d : DefRec} {kwd : List (Str × PySem.Expr)} {N : Nat}
    (_left : ∀ _ : World, (true && (Nat.ble 0 N)) = true) (_hY : ∀ w s, Yf s = Ya w → YP w s.heap) (_hYk : ∀ w h h', YP w h → (∀ b o, h.get? b = some o → h'.get? b = some o) → YP w h')
    (_hX : ∀ s, Xt s = true → XP (s.heap.nsMap mainGlobals) s.heap) (_hXk : ∀ mg h h', XP mg h → (∀ b o, h.get? b = some o → h'.get? b = some o) → XP mg h')
    (_hdef : defOf q r.name = some (d, kwd)) (_hp : r.prog.theDef r.name = some (d.params, d.body, d.scope)) (_hk : kwWritten? d.params.kwonlyargs d.params.kw_defaults = some kwd) (_hRf : ∀ s, Xt s = true → RecFacts r.records s.heap) (_hwr : (!r.writes || r.records.isEmpty) = true)
    (_k1 : r.wellSaid = true) (_ok : (chainsOk q && opensWell r.prog && (frees r.toRowW && r.within.isEmpty)) = true) (_hb : r.prog.bare) (_hw : r.toRowW.promised)
    (call : r.Holds) : r.Holds := call
set_option maxRecDepth 100000 in
set_option maxHeartbeats 8000000 in
open_top hd for PySem.Challenge.rw_xp0002_01
end Look
end Mine
end
section -- P1
/-! the plain law of the boxes, the balls and the carrier: no program in sight -/
namespace Mine
namespace Pl
def stepS (k : Nat) (st : List Nat) (o : Nat) : List Nat × Nat × Nat :=
  if o < 64 then (match st with | [] => ([], 32, 0) | l :: r => (r, l, 0)) else if st.length < k then (o :: st, 32, 1) else (st, o, 0)
/-- the walk of a carrier: last stack and what is laid down -/
def go (k : Nat) : List Nat → List Nat → List Nat × List Nat
  | st, [] => (st, [])
  | st, o :: l => ((go k (stepS k st o).1 l).1, (stepS k st o).2.1 :: (go k (stepS k st o).1 l).2)
theorem go_append (k : Nat) : ∀ (a b st : List Nat), go k st (a ++ b) = ((go k (go k st a).1 b).1, (go k st a).2 ++ (go k (go k st a).1 b).2)
  | [], b, st => rfl
  | o :: a, b, st => by
    show go k st (o :: (a ++ b)) = _
    simp only [go, go_append k a b]
    rfl
def Ok (o : Nat) : Prop := o = 32 ∨ (64 ≤ o)
def Letters (l : List Nat) : Prop := ∀ o ∈ l, 64 ≤ o
theorem step_len {k : Nat} {st : List Nat} {o : Nat} (h : st.length ≤ k) : (stepS k st o).1.length ≤ k := by
  unfold stepS
  split
  · cases st with
    | nil => exact Nat.zero_le _
    | cons a r => simp at h ⊢; omega
  · split
    · simp; omega
    · exact h
theorem step_letters {k : Nat} {st : List Nat} {o : Nat} (h : Letters st) (ho : Ok o) : Letters (stepS k st o).1 := by
  unfold stepS
  split
  · cases st with
    | nil => exact h
    | cons a r => exact fun x hx => h x (.tail _ hx)
  · split
    · intro x hx
      rcases List.mem_cons.mp hx with rfl | hx
      · omega
      · exact h x hx
    · exact h
theorem step_ok {k : Nat} {st : List Nat} {o : Nat} (h : Letters st) (ho : Ok o) : Ok (stepS k st o).2.1 := by
  unfold stepS
  split
  · cases st with
    | nil => exact .inl rfl
    | cons a r => exact .inr (h a (.head _))
  · split
    · exact .inl rfl
    · exact ho
/-- a step turned round undoes itself -/
theorem step_back {k : Nat} {st : List Nat} {o : Nat} (hl : Letters st) (hk : st.length ≤ k) (ho : Ok o) : stepS k (stepS k st o).1 (stepS k st o).2.1 = (st, o, (stepS k (stepS k st o).1 (stepS k st o).2.1).2.2) := by
  by_cases h : o < 64
  · have ho32 : o = 32 := by rcases ho with h | h <;> omega
    subst ho32
    cases st with
    | nil => rfl
    | cons a r =>
      have ha := hl a (.head _)
      have e : stepS k (a :: r) 32 = (r, a, 0) := by simp [stepS]
      rw [e]
      dsimp only
      unfold stepS
      rw [if_neg (by omega), if_pos (by simp at hk; omega)]
  · by_cases h2 : st.length < k
    · have e : stepS k st o = (o :: st, 32, 1) := by unfold stepS; rw [if_neg h, if_pos h2]
      rw [e]
      simp [stepS]
    · have e : stepS k st o = (st, o, 0) := by unfold stepS; rw [if_neg h, if_neg h2]
      rw [e]
      dsimp only
      rw [e]
theorem go_back (k : Nat) : ∀ (l st : List Nat), Letters st → st.length ≤ k → (∀ o ∈ l, Ok o) → go k (go k st l).1 (go k st l).2.reverse = (st, l.reverse)
  | [], st, _, _, _ => rfl
  | o :: l, st, h1, h2, h3 => by
    have ho := h3 o (.head _)
    have ih := go_back k l (stepS k st o).1 (step_letters h1 ho) (step_len h2) fun x hx => h3 x (.tail _ hx)
    simp only [go, List.reverse_cons]
    rw [go_append, ih]
    have e := step_back (k := k) h1 h2 ho
    simp only [go]
    rw [e]
theorem go_ok (k : Nat) : ∀ (l st : List Nat), Letters st → (∀ o ∈ l, Ok o) → (∀ o ∈ (go k st l).2, Ok o) ∧ Letters (go k st l).1
  | [], st, h1, _ => ⟨fun _ h => (nomatch h), h1⟩
  | o :: l, st, h1, h3 => by
    have ho := h3 o (.head _)
    have ih := go_ok k l (stepS k st o).1 (step_letters h1 ho) fun x hx => h3 x (.tail _ hx)
    refine ⟨fun x hx => ?_, ih.2⟩
    rcases List.mem_cons.mp hx with rfl | hx
    · exact step_ok h1 ho
    · exact ih.1 x hx
end Pl
end Mine
end
section -- P2
/-! carriers over bits: what is taken, and that two carriers commute -/
set_option maxHeartbeats 4000000
namespace Mine
namespace Pl
/-- the next load, what is laid down, what is taken -/
def cstep (k c : Nat) (b : Bool) : Nat × Bool × Nat :=
  match b with
  | true => if c < k then (c + 1, false, 1) else (c, true, 0)
  | false => if 0 < c then (c - 1, true, 0) else (0, false, 0)
def crun (k : Nat) : Nat → List Bool → Nat × List Bool × Nat
  | c, [] => (c, [], 0)
  | c, b :: w => ((crun k (cstep k c b).1 w).1, (cstep k c b).2.1 :: (crun k (cstep k c b).1 w).2.1, (cstep k c b).2.2 + (crun k (cstep k c b).1 w).2.2)
theorem cs_take {k c : Nat} (h : c < k) : cstep k c true = (c + 1, false, 1) := if_pos h
theorem cs_pass {k c : Nat} (h : k ≤ c) : cstep k c true = (c, true, 0) := if_neg (Nat.not_lt.mpr h)
theorem cs_give {k c d : Nat} (h : c = d + 1) : cstep k c false = (d, true, 0) := by subst h; rfl
theorem cs_none {k c : Nat} (h : c = 0) : cstep k c false = (0, false, 0) := by subst h; rfl
/-- two carriers, one behind the other, and the same in the other order: a = u + x + v + p and j = v + y + u + q, the first's load u + x (in the other order v + x), the second's v + y (in the other order u + y) -/
theorem step_swap {a j : Nat} (b : Bool) (u v x q y p : Nat) (hx : x = 0 ∨ q = 0) (hy : y = 0 ∨ p = 0) (ha : a = u + x + v + p) (hj : j = v + y + u + q) :
    ∃ u2 v2 x2 q2 y2 p2, (x2 = 0 ∨ q2 = 0) ∧ (y2 = 0 ∨ p2 = 0) ∧ a = u2 + x2 + v2 + p2 ∧ j = v2 + y2 + u2 + q2 ∧
      (cstep a (u + x) b).1 = u2 + x2 ∧ (cstep j (v + y) (cstep a (u + x) b).2.1).1 = v2 + y2 ∧ (cstep j (u + y) b).1 = u2 + y2 ∧ (cstep a (v + x) (cstep j (u + y) b).2.1).1 = v2 + x2 ∧
      (cstep j (v + y) (cstep a (u + x) b).2.1).2.1 = (cstep a (v + x) (cstep j (u + y) b).2.1).2.1 ∧ (cstep j (u + y) b).2.2 + u = (cstep j (v + y) (cstep a (u + x) b).2.1).2.2 + u2 := by
  cases b with
  | true =>
    cases v with
    | succ v =>
      have e1 : cstep a (u + x) true = (u + x + 1, false, 1) := cs_take (by clear hx hy; omega)
      have e2 : cstep j ((v + 1) + y) false = (v + y, true, 0) := cs_give (by clear hx hy; omega)
      have e3 : cstep j (u + y) true = (u + y + 1, false, 1) := cs_take (by clear hx hy; omega)
      have e4 : cstep a ((v + 1) + x) false = (v + x, true, 0) := cs_give (by clear hx hy; omega)
      refine ⟨u + 1, v, x, q, y, p, hx, hy, by clear hx hy e1 e2 e3 e4; omega, by clear hx hy e1 e2 e3 e4; omega, ?_⟩
      simp only [e1, e2, e3, e4]
      try exact ⟨by first | trivial | (clear hx hy ha hj e1 e2 e3 e4; omega), by first | trivial | (clear hx hy ha hj e1 e2 e3 e4; omega), by first | trivial | (clear hx hy ha hj e1 e2 e3 e4; omega), by first | trivial | (clear hx hy ha hj e1 e2 e3 e4; omega), trivial, by first | trivial | (clear hx hy ha hj e1 e2 e3 e4; omega)⟩
    | zero =>
      cases p with
      | succ p =>
        obtain rfl : y = 0 := by omega
        cases q with
        | succ q =>
          obtain rfl : x = 0 := by omega
          have e1 : cstep a (u + 0) true = (u + 0 + 1, false, 1) := cs_take (by clear hx hy; omega)
          have e2 : cstep j (0 + 0) false = (0, false, 0) := cs_none rfl
          have e3 : cstep j (u + 0) true = (u + 0 + 1, false, 1) := cs_take (by clear hx hy; omega)
          have e4 : cstep a (0 + 0) false = (0, false, 0) := cs_none rfl
          refine ⟨u + 1, 0, 0, q, 0, p, .inl rfl, .inl rfl, by clear hx hy e1 e2 e3 e4; omega, by clear hx hy e1 e2 e3 e4; omega, ?_⟩
          simp only [e1, e2, e3, e4]
          try exact ⟨by first | trivial | (clear hx hy ha hj e1 e2 e3 e4; omega), by first | trivial | (clear hx hy ha hj e1 e2 e3 e4; omega), by first | trivial | (clear hx hy ha hj e1 e2 e3 e4; omega), by first | trivial | (clear hx hy ha hj e1 e2 e3 e4; omega), trivial, by first | trivial | (clear hx hy ha hj e1 e2 e3 e4; omega)⟩
        | zero =>
          have e1 : cstep a (u + x) true = (u + x + 1, false, 1) := cs_take (by clear hx hy; omega)
          have e2 : cstep j (0 + 0) false = (0, false, 0) := cs_none rfl
          have e3 : cstep j (u + 0) true = (u + 0, true, 0) := cs_pass (by clear hx hy; omega)
          have e4 : cstep a (0 + x) true = (0 + x + 1, false, 1) := cs_take (by clear hx hy; omega)
          refine ⟨u, 0, x + 1, 0, 0, p, .inr rfl, .inl rfl, by clear hx hy e1 e2 e3 e4; omega, by clear hx hy e1 e2 e3 e4; omega, ?_⟩
          simp only [e1, e2, e3, e4]
          try exact ⟨by first | trivial | (clear hx hy ha hj e1 e2 e3 e4; omega), by first | trivial | (clear hx hy ha hj e1 e2 e3 e4; omega), by first | trivial | (clear hx hy ha hj e1 e2 e3 e4; omega), by first | trivial | (clear hx hy ha hj e1 e2 e3 e4; omega), trivial, by first | trivial | (clear hx hy ha hj e1 e2 e3 e4; omega)⟩
      | zero =>
        cases q with
        | succ q =>
          obtain rfl : x = 0 := by omega
          have e1 : cstep a (u + 0) true = (u + 0, true, 0) := cs_pass (by clear hx hy; omega)
          have e2 : cstep j (0 + y) true = (0 + y + 1, false, 1) := cs_take (by clear hx hy; omega)
          have e3 : cstep j (u + y) true = (u + y + 1, false, 1) := cs_take (by clear hx hy; omega)
          have e4 : cstep a (0 + 0) false = (0, false, 0) := cs_none rfl
          refine ⟨u, 0, 0, q, y + 1, 0, .inl rfl, .inr rfl, by clear hx hy e1 e2 e3 e4; omega, by clear hx hy e1 e2 e3 e4; omega, ?_⟩
          simp only [e1, e2, e3, e4]
          try exact ⟨by first | trivial | (clear hx hy ha hj e1 e2 e3 e4; omega), by first | trivial | (clear hx hy ha hj e1 e2 e3 e4; omega), by first | trivial | (clear hx hy ha hj e1 e2 e3 e4; omega), by first | trivial | (clear hx hy ha hj e1 e2 e3 e4; omega), trivial, by first | trivial | (clear hx hy ha hj e1 e2 e3 e4; omega)⟩
        | zero =>
          cases u with
          | succ u =>
            have e1 : cstep a ((u + 1) + x) true = (u + 1 + x, true, 0) := cs_pass (by clear hx hy; omega)
            have e2 : cstep j (0 + y) true = (0 + y + 1, false, 1) := cs_take (by clear hx hy; omega)
            have e3 : cstep j ((u + 1) + y) true = (u + 1 + y, true, 0) := cs_pass (by clear hx hy; omega)
            have e4 : cstep a (0 + x) true = (0 + x + 1, false, 1) := cs_take (by clear hx hy; omega)
            refine ⟨u, 0, x + 1, 0, y + 1, 0, .inr rfl, .inr rfl, by clear hx hy e1 e2 e3 e4; omega, by clear hx hy e1 e2 e3 e4; omega, ?_⟩
            simp only [e1, e2, e3, e4]
            try exact ⟨by first | trivial | (clear hx hy ha hj e1 e2 e3 e4; omega), by first | trivial | (clear hx hy ha hj e1 e2 e3 e4; omega), by first | trivial | (clear hx hy ha hj e1 e2 e3 e4; omega), by first | trivial | (clear hx hy ha hj e1 e2 e3 e4; omega), trivial, by first | trivial | (clear hx hy ha hj e1 e2 e3 e4; omega)⟩
          | zero =>
            have e1 : cstep a (0 + x) true = (0 + x, true, 0) := cs_pass (by clear hx hy; omega)
            have e2 : cstep j (0 + y) true = (0 + y, true, 0) := cs_pass (by clear hx hy; omega)
            have e3 : cstep j (0 + y) true = (0 + y, true, 0) := cs_pass (by clear hx hy; omega)
            have e4 : cstep a (0 + x) true = (0 + x, true, 0) := cs_pass (by clear hx hy; omega)
            refine ⟨0, 0, x, 0, y, 0, .inr rfl, .inr rfl, by clear hx hy e1 e2 e3 e4; omega, by clear hx hy e1 e2 e3 e4; omega, ?_⟩
            simp only [e1, e2, e3, e4]
            try exact ⟨by first | trivial | (clear hx hy ha hj e1 e2 e3 e4; omega), by first | trivial | (clear hx hy ha hj e1 e2 e3 e4; omega), by first | trivial | (clear hx hy ha hj e1 e2 e3 e4; omega), by first | trivial | (clear hx hy ha hj e1 e2 e3 e4; omega), trivial, by first | trivial | (clear hx hy ha hj e1 e2 e3 e4; omega)⟩
  | false =>
    cases u with
    | succ u =>
      have e1 : cstep a ((u + 1) + x) false = (u + x, true, 0) := cs_give (by clear hx hy; omega)
      have e2 : cstep j (v + y) true = (v + y + 1, false, 1) := cs_take (by clear hx hy; omega)
      have e3 : cstep j ((u + 1) + y) false = (u + y, true, 0) := cs_give (by clear hx hy; omega)
      have e4 : cstep a (v + x) true = (v + x + 1, false, 1) := cs_take (by clear hx hy; omega)
      refine ⟨u, v + 1, x, q, y, p, hx, hy, by clear hx hy e1 e2 e3 e4; omega, by clear hx hy e1 e2 e3 e4; omega, ?_⟩
      simp only [e1, e2, e3, e4]
      try exact ⟨by first | trivial | (clear hx hy ha hj e1 e2 e3 e4; omega), by first | trivial | (clear hx hy ha hj e1 e2 e3 e4; omega), by first | trivial | (clear hx hy ha hj e1 e2 e3 e4; omega), by first | trivial | (clear hx hy ha hj e1 e2 e3 e4; omega), trivial, by first | trivial | (clear hx hy ha hj e1 e2 e3 e4; omega)⟩
    | zero =>
      cases x with
      | succ x =>
        obtain rfl : q = 0 := by omega
        cases y with
        | succ y =>
          obtain rfl : p = 0 := by omega
          have e1 : cstep a (0 + (x + 1)) false = (x, true, 0) := cs_give (by clear hx hy; omega)
          have e2 : cstep j (v + (y + 1)) true = (v + (y + 1), true, 0) := cs_pass (by clear hx hy; omega)
          have e3 : cstep j (0 + (y + 1)) false = (y, true, 0) := cs_give (by clear hx hy; omega)
          have e4 : cstep a (v + (x + 1)) true = (v + (x + 1), true, 0) := cs_pass (by clear hx hy; omega)
          refine ⟨0, v + 1, x, 0, y, 0, .inr rfl, .inr rfl, by clear hx hy e1 e2 e3 e4; omega, by clear hx hy e1 e2 e3 e4; omega, ?_⟩
          simp only [e1, e2, e3, e4]
          try exact ⟨by first | trivial | (clear hx hy ha hj e1 e2 e3 e4; omega), by first | trivial | (clear hx hy ha hj e1 e2 e3 e4; omega), by first | trivial | (clear hx hy ha hj e1 e2 e3 e4; omega), by first | trivial | (clear hx hy ha hj e1 e2 e3 e4; omega), trivial, by first | trivial | (clear hx hy ha hj e1 e2 e3 e4; omega)⟩
        | zero =>
          have e1 : cstep a (0 + (x + 1)) false = (x, true, 0) := cs_give (by clear hx hy; omega)
          have e2 : cstep j (v + 0) true = (v + 0, true, 0) := cs_pass (by clear hx hy; omega)
          have e3 : cstep j (0 + 0) false = (0, false, 0) := cs_none rfl
          have e4 : cstep a (v + (x + 1)) false = (v + x, true, 0) := cs_give (by clear hx hy; omega)
          refine ⟨0, v, x, 0, 0, p + 1, .inr rfl, .inl rfl, by clear hx hy e1 e2 e3 e4; omega, by clear hx hy e1 e2 e3 e4; omega, ?_⟩
          simp only [e1, e2, e3, e4]
          try exact ⟨by first | trivial | (clear hx hy ha hj e1 e2 e3 e4; omega), by first | trivial | (clear hx hy ha hj e1 e2 e3 e4; omega), by first | trivial | (clear hx hy ha hj e1 e2 e3 e4; omega), by first | trivial | (clear hx hy ha hj e1 e2 e3 e4; omega), trivial, by first | trivial | (clear hx hy ha hj e1 e2 e3 e4; omega)⟩
      | zero =>
        cases y with
        | succ y =>
          obtain rfl : p = 0 := by omega
          have e1 : cstep a (0 + 0) false = (0, false, 0) := cs_none rfl
          have e2 : cstep j (v + (y + 1)) false = (v + y, true, 0) := cs_give (by clear hx hy; omega)
          have e3 : cstep j (0 + (y + 1)) false = (y, true, 0) := cs_give (by clear hx hy; omega)
          have e4 : cstep a (v + 0) true = (v + 0, true, 0) := cs_pass (by clear hx hy; omega)
          refine ⟨0, v, 0, q + 1, y, 0, .inl rfl, .inr rfl, by clear hx hy e1 e2 e3 e4; omega, by clear hx hy e1 e2 e3 e4; omega, ?_⟩
          simp only [e1, e2, e3, e4]
          try exact ⟨by first | trivial | (clear hx hy ha hj e1 e2 e3 e4; omega), by first | trivial | (clear hx hy ha hj e1 e2 e3 e4; omega), by first | trivial | (clear hx hy ha hj e1 e2 e3 e4; omega), by first | trivial | (clear hx hy ha hj e1 e2 e3 e4; omega), trivial, by first | trivial | (clear hx hy ha hj e1 e2 e3 e4; omega)⟩
        | zero =>
          cases v with
          | succ v =>
            have e1 : cstep a (0 + 0) false = (0, false, 0) := cs_none rfl
            have e2 : cstep j ((v + 1) + 0) false = (v, true, 0) := cs_give (by clear hx hy; omega)
            have e3 : cstep j (0 + 0) false = (0, false, 0) := cs_none rfl
            have e4 : cstep a ((v + 1) + 0) false = (v, true, 0) := cs_give (by clear hx hy; omega)
            refine ⟨0, v, 0, q + 1, 0, p + 1, .inl rfl, .inl rfl, by clear hx hy e1 e2 e3 e4; omega, by clear hx hy e1 e2 e3 e4; omega, ?_⟩
            simp only [e1, e2, e3, e4]
            try exact ⟨by first | trivial | (clear hx hy ha hj e1 e2 e3 e4; omega), by first | trivial | (clear hx hy ha hj e1 e2 e3 e4; omega), by first | trivial | (clear hx hy ha hj e1 e2 e3 e4; omega), by first | trivial | (clear hx hy ha hj e1 e2 e3 e4; omega), trivial, by first | trivial | (clear hx hy ha hj e1 e2 e3 e4; omega)⟩
          | zero =>
            have e1 : cstep a (0 + 0) false = (0, false, 0) := cs_none rfl
            have e2 : cstep j (0 + 0) false = (0, false, 0) := cs_none rfl
            have e3 : cstep j (0 + 0) false = (0, false, 0) := cs_none rfl
            have e4 : cstep a (0 + 0) false = (0, false, 0) := cs_none rfl
            refine ⟨0, 0, 0, q, 0, p, .inl rfl, .inl rfl, by clear hx hy e1 e2 e3 e4; omega, by clear hx hy e1 e2 e3 e4; omega, ?_⟩
            simp only [e1, e2, e3, e4]
            try exact ⟨by first | trivial | (clear hx hy ha hj e1 e2 e3 e4; omega), by first | trivial | (clear hx hy ha hj e1 e2 e3 e4; omega), by first | trivial | (clear hx hy ha hj e1 e2 e3 e4; omega), by first | trivial | (clear hx hy ha hj e1 e2 e3 e4; omega), trivial, by first | trivial | (clear hx hy ha hj e1 e2 e3 e4; omega)⟩
theorem run_swap {a j : Nat} : ∀ (w : List Bool) (u v x q y p : Nat), (x = 0 ∨ q = 0) → (y = 0 ∨ p = 0) → a = u + x + v + p → j = v + y + u + q →
    ∃ u2 x2, (crun a (u + x) w).1 = u2 + x2 ∧ (crun j (v + y) (crun a (u + x) w).2.1).2.1 = (crun a (v + x) (crun j (u + y) w).2.1).2.1 ∧ (crun j (u + y) w).2.2 + u = (crun j (v + y) (crun a (u + x) w).2.1).2.2 + u2
  | [], u, _, x, _, _, _, _, _, _, _ => ⟨u, x, rfl, rfl, rfl⟩
  | b :: w, u, v, x, q, y, p, hx, hy, ha, hj => by
    obtain ⟨u1, v1, x1, q1, y1, p1, kx, ky, ka, kj, h1, h2, h3, h4, h5, h6⟩ := step_swap b u v x q y p hx hy ha hj
    obtain ⟨u2, x2, i1, i5, i6⟩ := run_swap w u1 v1 x1 q1 y1 p1 kx ky ka kj
    rw [← h1, ← h2, ← h3, ← h4] at i5
    rw [← h1] at i1
    rw [← h1, ← h2, ← h3] at i6
    refine ⟨u2, x2, i1, ?_, ?_⟩
    · simp only [crun]
      rw [h5, i5]
    · simp only [crun]
      clear ha hj ka kj kx ky hx hy h1 h2 h3 h4 h5 i1 i5
      omega
/-- two carriers that come home empty: what the second takes behind the first is what it takes alone, and both orders lay down the same -/
theorem commute {a j : Nat} {w : List Bool} (h1 : (crun a 0 w).1 = 0) (h2 : (crun j 0 (crun a 0 w).2.1).1 = 0) :
    (crun j 0 w).2.2 = (crun j 0 (crun a 0 w).2.1).2.2 ∧ (crun j 0 (crun a 0 w).2.1).2.1 = (crun a 0 (crun j 0 w).2.1).2.1 := by
  obtain ⟨u2, x2, i1, i5, i6⟩ := run_swap (a := a) (j := j) w 0 0 0 j 0 a (.inl rfl) (.inl rfl) (by simp) (by simp)
  simp only [Nat.add_zero] at i1 i5 i6
  rw [h1] at i1
  obtain rfl : u2 = 0 := by omega
  exact ⟨i6, i5⟩
end Pl
end Mine
end
section -- R1
open PySem PySem.Spec PySem.Calls PyProof.Rows PySem.W
set_option maxRecDepth 100000
set_option maxHeartbeats 4000000
namespace Mine
theorem quiet_R1 : True := by
  w_top off
  trivial
namespace F
theorem slot_md_get : Slot "method_descriptor" "__get__" "method_descriptor.__get__" := .of (owner := "method_descriptor") (n := "__get__") (by rw [typeLookup_type, builtinLookup_eq_fast]; kernel_rfl) (by decide +kernel) (by decide +kernel) (by decide +kernel)
  (by first | exact .inl (by decide +kernel) | exact .inr (by decide +kernel)) (by rw [isSubtype_type]; kernel_rfl)
theorem slot_wd_get : Slot "wrapper_descriptor" "__get__" "wrapper_descriptor.__get__" := .of (owner := "wrapper_descriptor") (n := "__get__") (by rw [typeLookup_type, builtinLookup_eq_fast]; kernel_rfl) (by decide +kernel) (by decide +kernel) (by decide +kernel)
  (by first | exact .inl (by decide +kernel) | exact .inr (by decide +kernel)) (by rw [isSubtype_type]; kernel_rfl)
theorem entry_md_get : entryFor table "method_descriptor.__get__" = some Builtin.«method_descriptor.__get__» := entryFor_of_tree (by kernel_rfl)
theorem entry_wd_get : entryFor table "wrapper_descriptor.__get__" = some Builtin.«wrapper_descriptor.__get__» := entryFor_of_tree (by kernel_rfl)
theorem args_md_get (a b c : Value) : argsOk "method_descriptor.__get__" ⟨[a, b, c], []⟩ := by unfold argsOk; kernel_rfl
theorem args_wd_get (a b c : Value) : argsOk "wrapper_descriptor.__get__" ⟨[a, b, c], []⟩ := by unfold argsOk; kernel_rfl
theorem type_pop : typeOf (.builtin "list.pop") = pure (.type "method_descriptor") := PySem.F.type_list_pop
theorem type_len : typeOf (.builtin "list.__len__") = pure (.type "wrapper_descriptor") := by show builtinType _ = _; rw [builtinType_eq_fast]; kernel_rfl
theorem type_init : typeOf (.builtin "list.__init__") = pure (.type "wrapper_descriptor") := by show builtinType _ = _; rw [builtinType_eq_fast]; kernel_rfl
end F
section
variable {prog : Program} {w : World} {M : Model} {A : Around} {E : Value → Shared → Prop} {h : Heap} {g : Array GenState} {d : Drawn} {t : Nat} {os : OsState}

theorem md_get {x C : Addr} {Q : Fin → Shared → Prop} (hT : Looks M h (typeOf (.ref x)) (.ref C)) (hs : Looks M h (isSubtype (.ref C) (.type "list")) true)
    (hq : Q (.done (.ret (.ref h.objs.size))) ⟨h.push { cls := .type "builtin_function_or_method", data := .fields #[.builtin "list.pop", .ref x] }, g, d, t, os⟩) :
    wpAny M A (Builtin.«method_descriptor.__get__» ⟨[.builtin "list.pop", .ref x, .ref C], []⟩) Q E ⟨h, g, d, t, os⟩ := by
  have hi : Looks M h (isInstance (.ref x) (.type "list")) true := hT.andThen hs
  have hon : ".".intercalate ("list.pop".cutAt '.').dropLast = "list" := by decide +kernel
  have hnt : Manifest.toldItsClass.contains "list.pop" = false := by decide +kernel
  unfold Builtin.«method_descriptor.__get__»
  repeat (first
    | (with_reducible refine Looks.at hi ?_)
    | (with_reducible refine wpAny_newObj_type ?_ (by size_fits))
    | simp only [hon, hnt, Bool.not_true, Bool.false_eq_true, if_false]
    | wp_step
    | dsimp only)
  all_goals exact hq
theorem wd_get {x C : Addr} {id : String} {Q : Fin → Shared → Prop} (hid : id = "list.__len__" ∨ id = "list.__init__") (hT : Looks M h (typeOf (.ref x)) (.ref C)) (hs : Looks M h (isSubtype (.ref C) (.type "list")) true)
    (hq : Q (.done (.ret (.ref h.objs.size))) ⟨h.push { cls := .type "method-wrapper", data := .fields #[.builtin id, .ref x] }, g, d, t, os⟩) :
    wpAny M A (Builtin.«wrapper_descriptor.__get__» ⟨[.builtin id, .ref x, .ref C], []⟩) Q E ⟨h, g, d, t, os⟩ := by
  have hi : Looks M h (isInstance (.ref x) (.type "list")) true := hT.andThen hs
  have hon : ".".intercalate (id.cutAt '.').dropLast = "list" := by rcases hid with rfl | rfl <;> decide +kernel
  unfold Builtin.«wrapper_descriptor.__get__»
  repeat (first
    | (with_reducible refine Looks.at hi ?_)
    | (with_reducible refine wpAny_newObj_type ?_ (by size_fits))
    | simp only [hon, Bool.not_true, Bool.false_eq_true, if_false]
    | wp_step
    | dsimp only)
  all_goals exact hq

theorem super_ga_b {so D x C : Addr} {id T gid : String} {Bg : Builtin} {ob : Obj} {l₀ l : List Value} {K : Frag} {name : Str} {tk : Tok} {Q : Fin → Shared → Prop}
    (hso : h.get? so = some { cls := .type "super", dict := none, data := .fields #[.ref D, .ref x, .ref C], slots := #[] }) (hno : Looks (model prog w) h (opaqueClassAbove (.ref C)) none)
    (hC : Looks (model prog w) h (mroOf (.ref C)) l₀) (hl : (l₀.dropWhile (· != .ref D)).drop 1 = l) (X : K.In h)
    (hf : alongIn K name l = some (some (.builtin id))) (hty : typeOf (.builtin id) = pure (.type T)) (sl : Slot T "__get__" gid) (en : entryFor table gid = some Bg)
    (hA : argsOk gid ⟨[.builtin id, .ref x, .ref C], []⟩)
    (hxC : x ≠ C) (hn : (name == ("__class__" : Str)) = false)
    (hB : ∀ A, wpAny (model prog w) A (Bg ⟨[.builtin id, .ref x, .ref C], []⟩) (fun fin s' => fin = .done (.ret (.ref h.objs.size)) ∧ s' = ⟨h.push ob, g, d, t, os⟩) (fun _ _ => False) ⟨h, g, d, t, os⟩)
    (hq : Q (.done (.ret (.ref h.objs.size))) ⟨h.push ob, g, d, t, os⟩) :
    wpAny (model prog w) A (Builtin.«super.__getattribute__» ⟨[.ref so, .str name tk], []⟩) Q E ⟨h, g, d, t, os⟩ := by
  have hlk := sl.lookup
  have hne : (Value.ref x == Value.ref C) = false := by simp [hxC]
  have hdt : ({ cls := .type "super", dict := none, data := .fields #[.ref D, .ref x, .ref C], slots := #[] } : Obj).data = .fields #[.ref D, .ref x, .ref C] := rfl
  have f0 : (#[.ref D, .ref x, .ref C] : Array Value)[0]? = some (.ref D) := rfl
  have f1 : (#[.ref D, .ref x, .ref C] : Array Value)[1]? = some (.ref x) := rfl
  have f2 : (#[.ref D, .ref x, .ref C] : Array Value)[2]? = some (.ref C) := rfl
  unfold Builtin.«super.__getattribute__»
  repeat (first
    | (with_reducible refine wpAny_field hso hdt f0 ?_) | (with_reducible refine wpAny_field hso hdt f1 ?_) | (with_reducible refine wpAny_field hso hdt f2 ?_)
    | (with_reducible refine ks_wpAny_notOpaque hno ?_)
    | (with_reducible refine Looks.at hC ?_; rw [hl])
    | (refine ks_forIn_along X (fun _ _ => rfl) rfl ?_ hf)
    | (with_reducible refine wpAny_of_eq hty ?_)
    | (with_reducible refine wpAny_of_eq hlk ?_)
    | (simp only [hn, hne, Bool.or_false, Bool.false_eq_true, if_false])
    | wp_step
    | dsimp only)
  refine codeAny_call_builtin sl.plain en (sl.check _ _ _ _ _ _ _ _ hty hA (wpAny_mono (hB _) (fun fin s' h' => ?_) fun _ _ z => z.elim))
  obtain ⟨rfl, rfl⟩ := h'
  exact wpAny_bind (wpAny_pure (wpAny_pure (wpAny_pure hq)))

theorem getMethod_super_b {so D x C : Addr} {id T gid : String} {Bg : Builtin} {ob : Obj} {l₀ l : List Value} {K : Frag} {name : Str} {pl : Sem Bool} {Q : Value × List Value → Shared → Prop}
    (hso : h.get? so = some { cls := .type "super", dict := none, data := .fields #[.ref D, .ref x, .ref C], slots := #[] }) (hno : Looks (model prog w) h (opaqueClassAbove (.ref C)) none)
    (hC : Looks (model prog w) h (mroOf (.ref C)) l₀) (hl : (l₀.dropWhile (· != .ref D)).drop 1 = l) (X : K.In h)
    (hf : alongIn K name l = some (some (.builtin id))) (hty : typeOf (.builtin id) = pure (.type T)) (sl : Slot T "__get__" gid) (en : entryFor table gid = some Bg)
    (hA : argsOk gid ⟨[.builtin id, .ref x, .ref C], []⟩)
    (hxC : x ≠ C) (hn : (name == ("__class__" : Str)) = false)
    (hB : ∀ A t, wpAny (model prog w) A (Bg ⟨[.builtin id, .ref x, .ref C], []⟩) (fun fin s' => fin = .done (.ret (.ref h.objs.size)) ∧ s' = ⟨h.push ob, g, d, t, os⟩) (fun _ _ => False) ⟨h, g, d, t, os⟩)
    (hq : Q (.ref h.objs.size, []) ⟨h.push ob, g, d, t + 1, os⟩) :
    wpAny (model prog w) A (getMethod (.ref so) name pl) Q E ⟨h, g, d, t, os⟩ := by
  have hlk := PySem.F.ks_slot_super_ga.lookup
  have hcan := PySem.F.ks_canon_super_ga
  have hT : ∀ t', (⟨h, g, d, t', os⟩ : Shared).TypeIs (.ref so) "super" := fun _ => ⟨_, hso, rfl⟩
  unfold getMethod
  refine wpAny_bind (wpAny_specialOf (hT _) hlk ?_)
  show wpAny _ _ (if (Manifest.canonical "super.__getattribute__" != "object.__getattribute__") = true then _ else _) _ _ _
  rw [if_pos hcan]
  unfold getAttr getAttrBy
  refine wpAny_bind (wpAny_bind (wpAny_mkText (wpAny_holding (wpAny_bind (wpAny_typeOf (hT _) (wpAny_bind (wpAny_of_eq hlk ?_)))))))
  show wpAny _ _ (getAttrByItsOwn (.ref so) (.str name t) (.type "super") (.builtin "super.__getattribute__") true false) _ _ _
  unfold getAttrByItsOwn hookBefore callGetattribute boundAndCalled
  refine wpAny_bind (wpAny_of_eq (show (if onTheHeap (.type "super") then typeLookup (.type "super") "__getattr__" else pure none) = pure none from rfl) ?_)
  refine wpAny_bind (wpAny_attempt (wpAny_holding ?_))
  show wpAny _ _ (bindSpecial (.builtin "super.__getattribute__") (.ref so) >>= _) _ _ _
  refine wpAny_bind (wpAny_of_eq (PySem.F.ks_slot_super_ga.bind _) ?_)
  refine wpAny_mono (Q := fun v s' => v = .ref h.objs.size ∧ s' = ⟨h.push ob, g, d, t + 1, os⟩) (E := fun _ _ => False)
    (wpAny_call_entry PySem.F.ks_slot_super_ga (hT _) PySem.F.ks_entry_super_ga (super_ga_b hso hno hC hl X hf hty sl en hA hxC hn (fun A => hB A _) ⟨_, rfl, rfl, rfl⟩) (PySem.F.ks_gaArgs_super _ _)) (fun v s' hv => ?_) fun _ _ z => z.elim
  obtain ⟨rfl, rfl⟩ := hv
  exact wpAny_pure (wpAny_pure hq)
end
end Mine
end
section -- R2
open PySem PySem.Spec PySem.Calls PyProof.Rows PySem.W
set_option maxRecDepth 100000
set_option maxHeartbeats 4000000
namespace Mine
theorem quiet_R2 : True := by
  w_top off
  trivial
abbrev boundB (bt id : String) (x : Addr) : Obj := { cls := .type bt, data := .fields #[.builtin id, .ref x] }
section
variable {prog : Program} {w : World} {M : Model} {A : Around} {E : Value → Shared → Prop} {h : Heap} {g : Array GenState} {d : Drawn} {t : Nat} {os : OsState}
theorem keeper_bound {q x : Addr} {bt id : String} {h : Heap} (hb : bt = "builtin_function_or_method" ∨ bt = "method-wrapper") (hq : h.get? q = some (boundB bt id x)) : Looks M h (keeperOf (.ref q)) .machine := by
  refine (Looks.ld (part := none) hq).andThen ?_
  rcases hb with rfl | rfl <;> exact .now
theorem callWith_bound0 {s : Shared} {q x : Addr} {bt id : String} {pos : Pos} {env : Env} {Q : Value → Shared → Prop} (hb : bt = "builtin_function_or_method" ∨ bt = "method-wrapper") (hq : s.heap.get? q = some (boundB bt id x))
    (hc : wpAny M A (call (.ref q) []) Q E s) : wpAny M A (callWith pos (.ref q) [] (backTo pos (starEach [] env)) []) Q E s :=
  callWith_of (P := fun h => h.get? q = some (boundB bt id x)) rfl (fun h hh => ⟨_, .inr (.inl rfl), keeper_bound hb hh⟩) (evalArgs_nil3 ⟨hq, hc⟩)

abbrev accObj (C dx : Addr) (its : Array Value) (n : Nat) : Obj := { cls := .ref C, dict := some dx, data := .seq its n }
theorem pop_check (v : Value) : Bind.checkArgs "list.pop" { machinery := Manifest.Machinery.positional, full := toString (PySem.Str.ofString "_Accumulator").toString ++ toString "." ++ toString (Bind.lastOf "list.pop"), short := "pop", receiver := Manifest.Receiver.self, params := [{ name := "index", kind := Manifest.ParamKind.posOnly, required := false }] } ⟨[v], []⟩ = pure () := by kernel_rfl
theorem pop_vara : Manifest.varargsMethods.contains "list.pop" = false := by decide +kernel
theorem entry_len : entryFor table "list.__len__" = some Builtin.«list.__len__» := entryFor_of_tree (by kernel_rfl)
theorem entry_init : entryFor table "list.__init__" = some Builtin.«list.__init__» := entryFor_of_tree (by kernel_rfl)
theorem plain_len : plainId "list.__len__" = true := by decide +kernel
theorem plain_init : plainId "list.__init__" = true := by decide +kernel
theorem plain_pop : plainId "list.pop" = true := by decide +kernel

theorem call_boundLen {q x C dx : Addr} {its : Array Value} {n : Nat} {Q : Value → Shared → Prop} (hq : h.get? q = some (boundB "method-wrapper" "list.__len__" x)) (hx : h.get? x = some (accObj C dx its n))
    (hQ : Q (.int its.size t) ⟨h, g, d, t + 1, os⟩) : wpAny (model prog w) A (call (.ref q) []) Q E ⟨h, g, d, t, os⟩ := by
  refine wpAny_call (codeAny_of_tree ?_)
  show wpAny _ _ (callAny (.ref q) _) _ _ _
  repeat (first | wp_step | dsimp only)
  refine ⟨plainId_quiet plain_len _, codeAny_builtin entry_len ?_⟩
  unfold Builtin.«list.__len__»
  repeat (first | wp_step | dsimp only)
  all_goals exact hQ
theorem call_boundInit {q x C dx : Addr} {n : Nat} {Q : Value → Shared → Prop} (hq : h.get? q = some (boundB "method-wrapper" "list.__init__" x)) (hx : h.get? x = some (accObj C dx #[] n))
    (hQ : ∀ h', h'.get? x = some (accObj C dx #[] n) → Heap.SameBut x h h' → Q .none ⟨h', g, d, t, os⟩) : wpAny (model prog w) A (call (.ref q) []) Q E ⟨h, g, d, t, os⟩ := by
  refine wpAny_call (codeAny_of_tree ?_)
  show wpAny _ _ (callAny (.ref q) _) _ _ _
  repeat (first | wp_step | dsimp only)
  refine ⟨plainId_quiet plain_init _, codeAny_builtin entry_init ?_⟩
  unfold Builtin.«list.__init__»
  repeat (first | wp_step | dsimp only)
  refine hQ _ ?_ (Heap.SameBut.update ..)
  rw [Heap.get?_update_self _ hx rfl]
  rfl
theorem call_boundPop {q x C dx : Addr} {oC : Obj} {cd : ClassData} {its : Array Value} {v : Value} {n : Nat} {Q : Value → Shared → Prop} (hq : h.get? q = some (boundB "builtin_function_or_method" "list.pop" x)) (hx : h.get? x = some (accObj C dx (its.push v) n))
    (hC : h.get? C = some oC) (hcd : oC.data = .cls cd) (hmeta : oC.cls = .type "type") (hqn : cd.qualname = PySem.Str.ofString "_Accumulator") (hs : Looks (model prog w) h (isSubtype (.ref C) (.type "module")) false)
    (hz : its.size ≤ sizeLine) (hQ : ∀ h', h'.get? x = some (accObj C dx its (n + 1)) → Heap.SameBut x h h' → Q v ⟨h', g, d, t, os⟩) : wpAny (model prog w) A (call (.ref q) []) Q E ⟨h, g, d, t, os⟩ := by
  obtain ⟨oc, od, odt, osl⟩ := oC
  simp only at hcd hmeta
  subst hcd hmeta
  refine wpAny_call (codeAny_of_tree ?_)
  show wpAny _ _ (callAny (.ref q) _) _ _ _
  repeat (first | (with_reducible refine Looks.at hs ?_) | (simp only [pop_vara, hqn, Bool.or_false, Bool.false_eq_true, if_false]) | (with_reducible refine wpAny_of_eq (pop_check _) ?_) | wp_step | dsimp only)
  refine ⟨plainId_quiet plain_pop _, codeAny_builtin PySem.F.entry_list_pop ?_⟩
  unfold Builtin.«list.pop»
  repeat (first | wp_step | dsimp only)
  have e : ((seqIndex? (-1) (its.push v).size).bind fun k => Option.map (fun x => (k, x)) (its.push v)[k]?) = some (its.size, v) := by
    have h1 : seqIndex? (-1) (its.push v).size = some its.size := by
      simp [seqIndex?]
      try omega
    rw [h1]
    simp
  rw [e]
  have em : Obj.mapSeq (fun x => x.eraseIdxIfInBounds its.size) (accObj C dx (its.push v) n) = accObj C dx its (n + 1) := by
    have e1 : (its.push v).eraseIdxIfInBounds its.size = its := by
      apply Array.ext'
      simp [Array.eraseIdxIfInBounds, List.eraseIdx_append_of_length_le]
    simp [Obj.mapSeq, e1]
  have el : (accObj C dx its (n + 1)).data.pastItsLine = none := pastItsLine_seq (Nat.le_succ_of_le hz)
  repeat (first | (simp only [em, el]; done) | (rw [em, el]) | wp_step | dsimp only)
  refine hQ _ ?_ (Heap.SameBut.update ..)
  rw [Heap.get?_update_self _ hx (by rw [em]; rfl), em]
end
end Mine
end
section -- R3
open PySem PySem.Spec PySem.Calls PyProof.Rows PySem.W
set_option maxRecDepth 100000
set_option maxHeartbeats 4000000
namespace Mine
theorem quiet_R3 : True := by
  w_top off
  trivial
theorem entry_new : entryFor table "list.__new__" = some Builtin.«list.__new__» := entryFor_of_tree (by kernel_rfl)

theorem ln_kind : builtinKind "list.__new__" = some .builtinFn := by decide +kernel
theorem ln_split : splitId "list.__new__" = some ("list", "__new__") := by decide +kernel
theorem ln_row : Manifest.signature? "list.__new__" = some ⟨.any, "list", "list", .cls, [⟨"args", .varPos, false⟩, ⟨"kwargs", .varKw, false⟩]⟩ := by kernel_rfl
section
variable {prog : Program} {w : World} {A : Around} {K : Frag} {C : Addr} {R : Result → Shared → Prop} {h : Heap} {g : Array GenState} {d : Drawn} {t : Nat} {os : OsState}
structure MakesL (M : Model) (h : Heap) (C : Addr) : Prop where
  obj : ∃ oc od cd sl, h.get? C = some ⟨oc, od, .cls cd, sl⟩ ∧ cd.abstract = false ∧ cd.hasDel = false ∧ cd.mro.isEmpty = false
  made : Looks M h (Bind.madeBy (.ref C)) (some "list.__new__")
  base : Looks M h (Bind.staticBase (.ref C)) (.ref C)
  self : Looks M h (isSubtype (.ref C) (.ref C)) true
  list : Looks M h (isSubtype (.ref C) (.type "list")) true
  call : Looks M h (specialOf (.ref C) "__call__") (some (.builtin "type.__call__"))
  typ : Looks M h (isInstance (.ref C) (.type "type")) true

theorem ln_args (C : Addr) : Bind.checkArgs "list.__new__" ⟨.any, "list", "list", .cls, [⟨"args", .varPos, false⟩, ⟨"kwargs", .varKw, false⟩]⟩ ⟨[.ref C], []⟩ = pure () := by kernel_rfl
theorem new_L (Y : MakesL (model prog w) h C)
    (hq : R (.ok (.ret (.ref (h.objs.size + 1)))) ⟨(h.push emptyDict).push (accObj C h.objs.size #[] 0), g, d, t, os⟩) :
    codeAny (model prog w) A (.call (.builtin "list.__new__") ⟨[.ref C], []⟩) R ⟨h, g, d, t, os⟩ := by
  obtain ⟨⟨oc, od, cd, sl, hC, e1, e2, e4⟩, made, base, self, list, call, typ⟩ := Y
  refine codeAny_call_builtin_code (Code.quiet_builtin _ (by decide +kernel)) ?_
  simp only [checkBuiltinCall, ln_kind, ln_split, ln_row]
  rw [ln_args]
  repeat (first | simp only [bne_self_eq_false, Bool.false_eq_true, if_false] | lk)
  refine codeAny_builtinAt entry_new ?_
  unfold Builtin.«list.__new__»
  refine _root_.PySem.wpAt_bind (_root_.PySem.wpAt_stack fun p below => _root_.PySem.wpAt_of_wpAny ?_)
  dsimp only
  rw [owner_list_new]
  have hC' := Heap.get?_push_of_some (accObj C h.objs.size #[] 0) (Heap.get?_push_of_some emptyDict hC)
  have hT : typeHasDict (.ref C) = true := rfl
  repeat (first | simp only [hT, bne_self_eq_false, Bool.not_true, Bool.false_eq_true, if_false] | lk | dsimp only)
  rw [e2, if_neg (by decide)]
  refine wpAny_pure (wpAny_pure ?_)
  show R _ _
  rw [Heap.size_push]
  exact hq

theorem make_coreL {init : Value} (Y : MakesL (model prog w) h C) (hi : Looks (model prog w) h (typeLookup (.ref C) "__init__") (some init))
    (hb : ∀ self, Looks (model prog w) h (bindSpecial init self) (init, [self]))
    (hq : codeAny (model prog w) (A.under (.builtin "type.__call__" ⟨[.ref C], []⟩)) (.call init ⟨[.ref (h.objs.size + 1)], []⟩) (InitBack (h.objs.size + 1) R) ⟨(h.push emptyDict).push (accObj C h.objs.size #[] 0), g, d, t, os⟩) :
    codeAny (model prog w) A (.call (.ref C) ⟨[], []⟩) R ⟨h, g, d, t, os⟩ := by
  have Y' := Y
  obtain ⟨⟨oc, od, cd, sl, hC, e1, e2, e4⟩, made, base, self, list, call, typ⟩ := Y
  refine codeAny_of_tree ?_
  show wpAny _ _ (callAny (.ref C) _) _ _ _
  refine nd_load hC ?_
  show wpAny _ _ (callAny.viaDunder (.ref C) _) _ _ _
  unfold callAny.viaDunder
  refine wpAny_bind (call.at ?_)
  dsimp only
  rw [tc_bind]
  refine wpAny_bind (wpAny_pure (wpAny_bind (wpAny_pure ?_)))
  refine wpAny_pure (a := Fin.again (.call (.builtin "type.__call__") ⟨[.ref C], []⟩)) (And.intro rfl ?_)
  refine codeAny_call_builtin_at (Code.quiet_builtin _ (by decide +kernel)) entry_typeCall (check_slot tc_kind tc_split typ (tc_args _ _ _) ?_)
  unfold Builtin.«type.__call__»
  have hm : Looks (model prog w) h (mroOf (.ref C)) cd.mro := ((Looks.ld (part := none) hC).andThen .now).andThen .now
  repeat (first | simp only [e4, Bool.false_eq_true, if_false] | with_reducible refine wpAny_call ?_ | lk)
  refine new_L Y' ?_
  have k : ∀ b o, h.get? b = some o → ((h.push emptyDict).push (accObj C h.objs.size #[] 0)).get? b = some o := fun b o e => Heap.get?_push_of_some _ (Heap.get?_push_of_some _ e)
  have hx : ((h.push emptyDict).push (accObj C h.objs.size #[] 0)).get? (h.objs.size + 1) = some (accObj C h.objs.size #[] 0) := by heap_get
  have t1 : Looks (model prog w) ((h.push emptyDict).push (accObj C h.objs.size #[] 0)) (typeOf (.ref (h.objs.size + 1))) (.ref C) := (Looks.ld hx).andThen .now
  have s1 := self.keeps k
  have i1 := hi.keeps k
  have b1 := (hb (.ref (h.objs.size + 1))).keeps k
  unfold isInstance callSpecial? specialOf
  repeat (first | with_reducible refine wpAny_call ?_ | lk)
  refine codeAny_mono hq fun r s' z => ?_
  rcases r with e | (v | _ | _ | _) <;> first | exact z | exact z.elim | skip
  obtain ⟨rfl, z⟩ := z
  exact wpAny_pure (wpAny_pure z)
end
def makesLIn (K : Frag) (C : Addr) : Bool := match K.lookup C with
  | some ⟨_, _, .cls cd, sl⟩ => !cd.abstract && !cd.hasDel && (sl.toList[4]?).join == some (.builtin "list.__new__") && !cd.mro.isEmpty && cd.mro.contains (.ref C) && cd.mro.contains (.type "list") &&
      specialIn K (.ref C) "__call__" == some (some (.builtin "type.__call__")) && instIn K (.ref C) (.type "type") == some true
  | _ => false
theorem makesL_of {K : Frag} {M : Model} {h : Heap} (X : K.In h) {C : Addr} (e : makesLIn K C = true) : MakesL M h C := by
  unfold makesLIn at e
  split at e
  · rename_i oc od cd sl ho
    simp only [Bool.and_eq_true, Bool.not_eq_true', beq_iff_eq] at e
    obtain ⟨⟨⟨⟨⟨⟨⟨e1, e2⟩, e3⟩, e4⟩, e5⟩, e6⟩, e7⟩, e8⟩ := e
    have hc : clsIn K C = some cd := by unfold clsIn; rw [ho]
    have hm : Looks M h (mroOf (.ref C)) cd.mro := (looks_clsIn X hc).andThen .now
    obtain ⟨c, l, hl⟩ : ∃ c l, cd.mro = c :: l := by cases q : cd.mro with | nil => rw [q] at e4; cases e4 | cons c l => exact ⟨c, l, rfl⟩
    have made : Looks M h (Bind.madeBy (.ref C)) (some "list.__new__") := by
      intro A Q E s k q
      unfold Bind.madeBy
      refine wpAny_bind (hm A _ E s k ?_)
      rw [hl, List.forIn_cons]
      refine wpAny_bind (wpAny_bind (wpAny_bind (wpAny_bind (wpAny_loadPart (k _ _ (X _ _ ho)) (wpAny_pure ?_)))))
      dsimp only
      rw [← Array.getElem?_toList, e3]
      exact wpAny_pure (wpAny_pure (wpAny_pure q))
    refine ⟨⟨oc, od, cd, sl, X _ _ ho, e1, e2, e4⟩, made, ?_, looks_mroIn X ?_, looks_mroIn X ?_, looks_specialIn X e7, looks_instIn X e8⟩
    · intro A Q E s k q
      unfold Bind.staticBase
      refine wpAny_bind (hm A _ E s k ?_)
      rw [hl, List.forIn_cons]
      exact wpAny_bind (wpAny_bind (wpAny_bind (made A _ E s k (wpAny_pure (wpAny_pure (wpAny_pure q))))))
    · unfold mroIn; rw [hc, Option.bind_some, if_neg (by rw [e4]; decide), e5]
    · unfold mroIn; rw [hc, Option.bind_some, if_neg (by rw [e4]; decide), e6]
  · cases e

section
variable {prog : Program} {w : World} {A : Around} {E : Value → Shared → Prop} {K : Frag} {C : Addr} {s : Shared} {h₀ : Heap} {L : Addr} {m : Str → Option Value} {news : List (Addr × Obj)} {R : Result → Shared → Prop} {Q : Value → Shared → Prop}
theorem call_clsL {fI : Addr} (F : Fr h₀ L s.heap m) (X₀ : K.In h₀) (N : News h₀ L s.heap news) (hm : makesLIn K C = true) (hi : findIn K (.ref C) "__init__" = some (some (.ref fI))) (hf : isFn K (.ref fI) = true)
    (h : ∀ x dx h', Fr h₀ L h' m → News h₀ L h' ((x, accObj C dx #[] 0) :: (dx, dictOf [] 0) :: news) → (∀ p ∈ news, p.1 < dx) → dx < x →
      codeAny (model prog w) (A.under (.builtin "type.__call__" ⟨[.ref C], []⟩)) (.call (.ref fI) ⟨[.ref x], []⟩) (InitBack x fun r s' => match r with | .ok (.ret v) => Q v s' | .ok _ => False | .error e => E e s') { s with heap := h' }) :
    wpAny (model prog w) A (call (.ref C) [] []) Q E s := by
  refine wpAny_call ?_
  have X := X₀.keeps F.keep
  obtain ⟨hh, g, d, t, os⟩ := s
  refine make_coreL (makesL_of X hm) (looks_findIn X hi) (fun self => bind_fn X self (beq_iff_eq.mp hf)) (h _ hh.objs.size _ ((F.push _).push _) ?_ (fun p hp => Heap.lt_size (N p hp).1) (Nat.lt_succ_self _))
  have := (N.push F emptyDict).push (F.push _) (accObj C hh.objs.size #[] 0)
  rwa [Heap.size_push] at this

theorem inst_acc {x dx : Addr} {its : Array Value} {n : Nat} {od : Obj} {h : Heap} (N : News h₀ L h news) (h1 : (x, accObj C dx its n) ∈ news) (h2 : (dx, od) ∈ news) :
    InstAt h x (accObj C dx its n) C (some od) := ⟨(N _ h1).1, rfl, rfl, (N _ h2).1⟩
end
end Mine
end
section -- R4
open PySem PySem.Spec PySem.Calls PyProof.Rows PySem.W
set_option maxRecDepth 100000
set_option maxHeartbeats 4000000
namespace Mine
theorem quiet_R4 : True := by
  w_top off
  trivial
section
variable {prog : Program} {w : World} {A : Around} {E : Value → Shared → Prop} {K : Frag} {C D x dx so q : Addr} {s : Shared} {h₀ : Heap} {L : Addr} {m : Str → Option Value} {news news' : List (Addr × Obj)} {its : Array Value} {n : Nat}

theorem ks_method_b {name : Str} {id T gid bt : String} {Bg : Builtin} {pl : Sem Bool} {Q : Value × List Value → Shared → Prop} (F : Fr h₀ L s.heap m) (X₀ : K.In h₀) (N : News h₀ L s.heap news) (hso : (so, ks_superObj D x C) ∈ news) (hx : (x, accObj C dx its n) ∈ news) (ho : nsIn K cStatics "thirdparty.any" = some none)
    (hm : ks_superIn K C D name = some (some (.builtin id))) (hty : typeOf (.builtin id) = pure (.type T)) (sl : Slot T "__get__" gid) (en : entryFor table gid = some Bg) (hA : argsOk gid ⟨[.builtin id, .ref x, .ref C], []⟩) (hn : (name == ("__class__" : Str)) = false)
    (hsub : mroIn K C (.type "list") = some true)
    (hB : ∀ (h : Heap) g d t os A, Looks (model prog w) h (typeOf (.ref x)) (.ref C) → Looks (model prog w) h (isSubtype (.ref C) (.type "list")) true →
      wpAny (model prog w) A (Bg ⟨[.builtin id, .ref x, .ref C], []⟩) (fun fin s' => fin = .done (.ret (.ref h.objs.size)) ∧ s' = ⟨h.push (boundB bt id x), g, d, t, os⟩) (fun _ _ => False) ⟨h, g, d, t, os⟩)
    (h : ∀ q h', Fr h₀ L h' m → News h₀ L h' ((q, boundB bt id x) :: news) → (∀ p ∈ news, p.1 < q) → Q (.ref q, []) { s with heap := h', toks := s.toks + 1 }) : wpAny (model prog w) A (getMethod (.ref so) name pl) Q E s := by
  have X : K.In s.heap := X₀.keeps F.keep
  obtain ⟨hh, g, d, t, os⟩ := s
  cases hc : clsIn K C with
  | none => unfold ks_superIn at hm; rw [hc] at hm; cases hm
  | some cd =>
    unfold ks_superIn at hm
    rw [hc] at hm
    have hT : Looks (model prog w) hh (typeOf (.ref x)) (.ref C) := (Looks.ld (N _ hx).1).andThen .now
    refine getMethod_super_b (N _ hso).1 (looks_opaque X ho) (l₀ := cd.mro) ?_ rfl X hm hty sl en hA ?_ hn (fun A t => hB hh g d t os A hT (looks_mroIn X hsub)) ?_
    · exact fun A Q E s k q => wpAny_bind ((looks_clsIn X hc) A _ E s k (wpAny_pure q))
    · rintro rfl
      unfold clsIn at hc
      split at hc
      · rename_i c d' cd' sl' ho'
        have e1 := X _ _ ho'
        rw [(N _ hx).1] at e1
        cases e1
      · cases hc
    · obtain ⟨F', N', l'⟩ := ks_newsPush (s := ⟨hh, g, d, t, os⟩) (o := boundB bt id x) F N rfl (Heap.get?_push_at rfl rfl) (fun b o e => Heap.get?_push_of_some _ e)
      exact h _ _ F' N' l'

theorem callWith_L {pos : Pos} {env : Env} {bt id : String} {Q : Value → Shared → Prop} (N : News h₀ L s.heap news) (hb : bt = "builtin_function_or_method" ∨ bt = "method-wrapper") (hq : (q, boundB bt id x) ∈ news)
    (hc : wpAny (model prog w) A (call (.ref q) []) Q E s) : wpAny (model prog w) A (callWith pos (.ref q) [] (backTo pos (starEach [] env)) []) Q E s := callWith_bound0 hb (N _ hq).1 hc
theorem call_len_L {Q : Value → Shared → Prop} (N : News h₀ L s.heap news) (hq : (q, boundB "method-wrapper" "list.__len__" x) ∈ news) (hx : (x, accObj C dx its n) ∈ news)
    (h : Q (.int its.size s.toks) { s with toks := s.toks + 1 }) : wpAny (model prog w) A (call (.ref q) []) Q E s := by
  obtain ⟨hh, g, d, t, os⟩ := s
  exact call_boundLen (N _ hq).1 (N _ hx).1 h
theorem call_init_L {Q : Value → Shared → Prop} (F : Fr h₀ L s.heap m) (N : News h₀ L s.heap news) (hq : (q, boundB "method-wrapper" "list.__init__" x) ∈ news) (hx : (x, accObj C dx #[] n) ∈ news)
    (h : ∀ h', Fr h₀ L h' m → News h₀ L h' news → Q .none { s with heap := h' }) : wpAny (model prog w) A (call (.ref q) []) Q E s := by
  obtain ⟨hh, g, d, t, os⟩ := s
  have z := N _ hx
  refine call_boundInit (N _ hq).1 z.1 fun h' e hs => h h' (F.change hs z.2.1 z.2.2) fun p hp => ?_
  have y := N p hp
  refine ⟨?_, y.2⟩
  by_cases hpx : p.1 = x
  · have h1 := y.1
    rw [hpx] at h1 ⊢
    rw [z.1] at h1
    exact e.trans h1
  · exact (hs.2 p.1 hpx).trans y.1
theorem call_pop_L {oC : Obj} {cd : ClassData} {v : Value} {Q : Value → Shared → Prop} (F : Fr h₀ L s.heap m) (X₀ : K.In h₀) (N : News h₀ L s.heap news) (hq : (q, boundB "builtin_function_or_method" "list.pop" x) ∈ news)
    (U : Upd x (accObj C dx (its.push v) n) (accObj C dx its (n + 1)) news news') (hC : K.lookup C = some oC) (hcd : oC.data = .cls cd) (hmeta : oC.cls = .type "type") (hqn : cd.qualname = PySem.Str.ofString "_Accumulator") (hs : mroIn K C (.type "module") = some false) (hz : its.size ≤ sizeLine)
    (h : ∀ h', Fr h₀ L h' m → News h₀ L h' news' → Q v { s with heap := h' }) : wpAny (model prog w) A (call (.ref q) []) Q E s := by
  have X : K.In s.heap := X₀.keeps F.keep
  obtain ⟨hh, g, d, t, os⟩ := s
  obtain ⟨pre, post, rfl, rfl, a, b⟩ := U.split
  have z := N (x, accObj C dx (its.push v) n) (List.mem_append.mpr (.inr (.head _)))
  exact call_boundPop (N _ hq).1 z.1 (X _ _ hC) hcd hmeta hqn (looks_mroIn X hs) hz fun h' e hs' => h h' (F.change hs' z.2.1 z.2.2) (news_set N a b hs' e)

theorem method_L {od : Obj} {pl : Sem Bool} {name : Str} {ga : String} {fv tv : Value} {Q : Value × List Value → Shared → Prop} (F : Fr h₀ L s.heap m) (X₀ : K.In h₀) (N : News h₀ L s.heap news) (hx : (x, accObj C dx its n) ∈ news) (hdx : (dx, od) ∈ news)
    (hga : findIn K (.ref C) "__getattribute__" = some (some (.builtin ga))) (hcan : (Manifest.canonical ga != "object.__getattribute__") = false) (hk : findIn K (.ref C) "__getattr__" = some none)
    (hf : findIn K (.ref C) name = some (some fv)) (ht : typeIn K fv = some tv) (htv : (tv != .type "function" && tv != .type "method_descriptor" && tv != .type "wrapper_descriptor") = false) (hs : shadowIn (some od) name = some false) (h : Q (fv, [.ref x]) s) :
    wpAny (model prog w) A (getMethod (.ref x) name pl) Q E s := by
  have X : K.In s.heap := X₀.keeps F.keep
  have I : InstAt s.heap x (accObj C dx its n) C (some od) := inst_acc N hx hdx
  unfold getMethod specialOf
  refine wpAny_bind (wpAny_bind (I.type.here ((looks_findIn X hga).here ?_)))
  dsimp only
  rw [hcan, if_neg (by decide)]
  refine wpAny_bind (wpAny_bind (I.type.here ((looks_findIn X hk).here ?_)))
  refine wpAny_bind (wpAny_bind (I.type.here ((looks_findIn X hf).here (wpAny_bind ((looks_typeIn X ht).here ?_)))))
  rw [htv, if_neg (by decide)]
  refine wpAny_bind (wpAny_loadPart I.at_ ?_)
  have hd := (N _ hdx).1
  obtain ⟨r, a, b⟩ := Option.map_eq_some_iff.mp hs
  refine wpAny_bind (wpAny_bind (wpAny_loadPart hd ?_))
  rw [nsLook_of a]
  refine wpAny_pure ?_
  rw [b]
  exact wpAny_bind (wpAny_rule (wpAny_pure h))

theorem append_acc {v : Value} {Q : Value → Shared → Prop} (F : Fr h₀ L s.heap m) (X₀ : K.In h₀) (N : News h₀ L s.heap news) (U : Upd x (accObj C dx its n) (accObj C dx (its.push v) (n + 1)) news news')
    (hsub : mroIn K C (.type "list") = some true) (hz : its.size ≤ 1000)
    (h : ∀ h', Fr h₀ L h' m → News h₀ L h' news' → Q .none { s with heap := h' }) : wpAny (model prog w) A (call (.builtin "list.append") [.ref x, v]) Q E s := by
  have X : K.In s.heap := X₀.keeps F.keep
  obtain ⟨hh, g, d, t, os⟩ := s
  obtain ⟨pre, post, rfl, rfl, a, b⟩ := U.split
  have z := N (x, accObj C dx its n) (List.mem_append.mpr (.inr (.head _)))
  have hx := z.1
  have hi : Looks (model prog w) hh (isInstance (.ref x) (.type "list")) true := ((Looks.ld hx).andThen .now).andThen (looks_mroIn X hsub)
  refine wpAny_call (codeAny_call_builtin_code (Code.quiet_builtin _ (by decide +kernel)) ?_)
  have hkind : builtinKind "list.append" = some .method := by decide +kernel
  have hsplit : splitId "list.append" = some ("list", "append") := by decide +kernel
  simp only [checkBuiltinCall, hkind, hsplit]
  repeat (first | (with_reducible refine Looks.at hi ?_) | wp_step | dsimp only)
  refine codeAny_builtin PySem.F.entry_list_append ?_
  have em : Obj.mapSeq (fun y => y.push v) (accObj C dx its n) = accObj C dx (its.push v) (n + 1) := by
    simp [Obj.mapSeq]
  have el : (accObj C dx (its.push v) (n + 1)).data.pastItsLine = none := pastItsLine_seq (by simp only [Array.size_push, sizeLine]; omega)
  unfold Builtin.«list.append»
  repeat (first | (rw [em, el]) | wp_step | dsimp only)
  have hs' : Heap.SameBut x hh (hh.update x (Obj.mapSeq fun y => y.push v)) := Heap.SameBut.update ..
  refine h _ (F.change hs' z.2.1 z.2.2) (news_set N a b hs' ?_)
  rw [Heap.get?_update_self _ hx (by rw [em]; rfl), em]
end
end Mine
end
section -- R5
open PySem PySem.Spec PySem.Calls PyProof.Rows PySem.W Builtin Builtin.ObjectAttr
set_option maxRecDepth 100000
set_option maxHeartbeats 4000000
namespace Mine
theorem quiet_R5 : True := by
  w_top off
  trivial
theorem passes_list (self : Value) : refuseLoop self "__setattr__" [.type "list", .type "object"] = pure () := by kernel_rfl
section
variable {prog : Program} {w : World} {A : Around} {E : Value → Shared → Prop} {K : Frag} {C D x dx so q : Addr} {s : Shared} {h₀ : Heap} {L : Addr} {m : Str → Option Value} {news news' : List (Addr × Obj)} {its : Array Value} {n : Nat}
theorem set_acc {name : Str} {v : Value} {cd : ClassData} {Q : Unit → Shared → Prop} (F : Fr h₀ L s.heap m) (X₀ : K.In h₀) (N : News h₀ L s.heap ((x, accObj C dx its n) :: (dx, dictOf [] 0) :: news)) (hlt : ∀ p ∈ news, p.1 ≠ dx) (hxd : x ≠ dx)
    (hs : findIn K (.ref C) "__setattr__" = some (some (.builtin "object.__setattr__"))) (hc : clsIn K C = some cd) (hmro : cd.mro = [.ref C, .type "list", .type "object"]) (hd : cd.hasDict = true) (ht : findIn K (.ref C) name = some none) (hobj : mroIn K C (.type "object") = some true)
    (h : ∀ h' e, Fr h₀ L h' m → News h₀ L h' ((x, accObj C dx its n) :: (dx, dictOf [e] 1) :: news) → e.key.isStr name = true → Q () { s with heap := h', toks := s.toks + 2 }) :
    wpAny (model prog w) A (setAttr (.ref x) name v) Q E s := by
  have X : K.In s.heap := X₀.keeps F.keep
  have I : InstAt s.heap x (accObj C dx its n) C (some (dictOf [] 0)) := inst_acc N (.head _) (.tail _ (.head _))
  refine set_plain X I hs ?_
  have SF := PySem.F.store_object
  have sub : Looks (model prog w) s.heap (isInstance (.ref x) (.type "object")) true := I.type.andThen (looks_mroIn X hobj)
  refine codeAny_call_builtin SF.slot.plain SF.entry (@check_slot (model prog w) _ _ _ "object.__setattr__" "object" "__setattr__" (.ref x) [.str name s.toks, v] [] _ SF.kind SF.split sub (SF.args (.ref x) (.str name s.toks) v) ?_)
  have hm : Looks (model prog w) s.heap (mroOf (.ref C)) cd.mro := (looks_clsIn X hc).andThen .now
  rw [osa_eq, refuse_eq]
  refine wpAny_bind (wpAny_bind (I.type _ _ _ _ (fun _ _ e => e) (wpAny_bind (hm _ _ _ _ (fun _ _ e => e) ?_))))
  rw [hmro, refuseLoop_ref, passes_list]
  refine wpAny_pure (wpAny_bind (I.type _ _ _ _ (fun _ _ e => e) (wpAny_bind (looks_findIn X ht _ _ _ _ (fun _ _ e => e) (wpAny_bind ?_)))))
  refine wpAny_pure ?_
  obtain ⟨hh, g, d, t, os⟩ := s
  have N1 : News h₀ L hh ([(x, accObj C dx its n)] ++ (dx, dictOf [] 0) :: news) := N
  obtain ⟨U1, U2⟩ := news_upd (f := Obj.putName name (PyData.keyHash w.params name) (.str name (t + 1)) v) (o' := dictOf [⟨PyData.keyHash w.params name, .str name (t + 1), v⟩] 1) F N1 (by intro p hp; rw [List.mem_singleton.mp hp]; exact hxd) hlt (by rw [putName_dict]; rfl) rfl
  have D := (N1 (dx, dictOf [] 0) (by simp)).1
  have D' := (U2 (dx, dictOf [⟨PyData.keyHash w.params name, .str name (t + 1), v⟩] 1) (by simp)).1
  have hx := I.at_
  refine wpAny_bind (wpAny_pure (wpAny_bind (wpAny_bind (wpAny_loadPart hx (wpAny_bind ((looks_clsIn X hc) _ _ _ _ (fun _ _ e => e) ?_))))))
  rw [hd]
  refine wpAny_pure (a := some dx) (wpAny_bind (wpAny_pure (wpAny_bind ?_)))
  unfold nsSet
  refine wpAny_bind (wpAny_bind (wpAny_askSetting (wpAny_pure (wpAny_bind (wpAny_mkText (wpAny_bind (wpAny_loadPart D ?_)))))))
  dsimp only
  rw [aRefKeyMayBeTheName_at]
  have c : (!(#[] : Array DictEntry).any (·.key.isStr name) && (#[] : Array DictEntry).any (·.refKey)) = false := by simp
  simp only [c]
  refine wpAny_updatePart D ?_
  refine wpAny_bind (wpAny_lookBehind D' (pastItsLine_dict (by simp [sizeLine_eq])) ?_)
  exact wpAny_pure (h _ _ U1 U2 (by simp [Value.isStr]))
end
end Mine
end
section -- R6
open PySem PySem.Spec PySem.Calls PyProof.Rows PySem.W
set_option maxRecDepth 100000
set_option maxHeartbeats 4000000
namespace Mine
theorem quiet_R6 : True := by
  w_top off
  trivial
section
variable {prog : Program} {w : World} {A : Around} {E : Value → Shared → Prop} {K : Frag} {C x dx : Addr} {h : Heap} {g : Array GenState} {d : Drawn} {t : Nat} {os : OsState} {its : Array Value} {n : Nat}
theorem li_kind : builtinKind "list.__iter__" = some .slot := by decide +kernel
theorem li_split : splitId "list.__iter__" = some ("list", "__iter__") := by decide +kernel
theorem acc_iter {Q : Value → Shared → Prop} (X : K.In h) (hx : h.get? x = some (accObj C dx its n)) (hf : findIn K (.ref C) "__iter__" = some (some (.builtin "list.__iter__"))) (hsub : mroIn K C (.type "list") = some true)
    (hq : Q (.ref h.objs.size) ⟨h.push { cls := .type "list_iterator", data := .fields #[.ref x, .int 0 0] }, g, d, t, os⟩) : wpAny (model prog w) A (pyIter (.ref x)) Q E ⟨h, g, d, t, os⟩ := by
  have hT : Looks (model prog w) h (typeOf (.ref x)) (.ref C) := (Looks.ld hx).andThen .now
  have hi : Looks (model prog w) h (isInstance (.ref x) (.type "list")) true := hT.andThen (looks_mroIn X hsub)
  have hl : Looks (model prog w) h (typeLookup (.ref C) "__iter__") (some (.builtin "list.__iter__")) := looks_findIn X hf
  have hb : bindSpecial (.builtin "list.__iter__") (.ref x) = pure (.builtin "list.__iter__", [.ref x]) := slot_list_iter.bind _
  have hT2 : Shared.TypeIs ⟨h.push { cls := .type "list_iterator", data := .fields #[.ref x, .int 0 0] }, g, d, t, os⟩ (.ref h.objs.size) "list_iterator" := ⟨_, Heap.get?_push_size _ rfl, rfl⟩
  have hn := slot_listiter_next.lookup
  unfold pyIter specialOf
  repeat (first | (with_reducible refine Looks.at hT ?_) | (with_reducible refine Looks.at hl ?_) | lk | dsimp only)
  rw [hb]
  split
  all_goals (
    repeat (first | (with_reducible refine wpAny_tryCatch ?_) | (with_reducible refine wpAny_typeOf hT2 ?_) | (with_reducible refine wpAny_of_eq hn ?_) | (with_reducible refine codeAny_call_builtin ?_ ?_ ?_) | wp_step | dsimp only))
  all_goals (
    refine codeAny_call_builtin slot_list_iter.plain entry_list_iter (check_slot li_kind li_split hi (args_list_iter _) ?_)
    unfold Builtin.«list.__iter__»
    repeat (first | (with_reducible refine wpAny_newObj_type ?_ (by size_fits)) | (with_reducible refine wpAny_typeOf hT2 ?_) | (with_reducible refine wpAny_of_eq hn ?_) | wp_step | dsimp only)
    exact hq)

theorem acc_next_end {it : Addr} {Q : Option Value → Shared → Prop} (hh : A.handled = none) (hit : h.IsListIter it x 0) (hx : h.get? x = some (accObj C dx #[] n))
    (hQ : ∀ h', Heap.ExtBut it h h' → Q none ⟨h', g, d, t, os⟩) : wpAny (model prog w) A (pyNext (.ref it)) Q E ⟨h, g, d, t, os⟩ := by
  obtain ⟨o, ho, hc, hd⟩ := id hit
  have hT : Shared.TypeIs ⟨h, g, d, t, os⟩ (.ref it) "list_iterator" := ⟨o, ho, hc⟩
  unfold pyNext
  refine wpAny_bind (wpAny_attempt (wpAny_callSpecial?_slot (name := PySem.Str.ofString "__next__") hT slot_listiter_next
    (wpAny_call_entry slot_listiter_next hT entry_listiter_next ?_ (args_listiter_next _))))
  show wpAny _ _ (field (.ref it) 0 >>= _) _ _ _
  refine wpAny_bind (wpAny_field ho hd (x := .ref x) rfl ?_)
  show wpAny _ _ (if (Value.ref x == Value.none) = true then _ else _) _ _ _
  rw [if_neg (show ¬ ((Value.ref x == Value.none) = true) from Bool.false_ne_true)]
  show wpAny _ _ (field (.ref it) 1 >>= _) _ _ _
  refine wpAny_bind (wpAny_field ho hd (x := .int 0 0) rfl ?_)
  show wpAny _ _ (seqItems? (.ref x) >>= _) _ _ _
  refine wpAny_bind (wpAny_seqItems hx rfl ?_)
  dsimp only
  refine wpAny_bind (wpAny_rule (wpAny_bind (wpAny_setField ho hd (by simp) ?_)))
  show wpAny _ _ (newExc (.type "StopIteration") [] >>= _) _ _ _
  refine wpAny_bind ?_
  simp only [newExc, newTuple]
  refine wpAny_bind (wpAny_newObj_type ?_ (by size_fits))
  refine wpAny_bind (m := firstArgMember _ _) (wpAny_of_eq (a := Value.none) (by first | rfl | (simp only [firstArgMember]; rfl)) ?_)
  refine wpAny_newObj_type ?_ (by size_fits)
  simp only [raiseNew]
  refine wpAny_bind (wpAny_handled ?_)
  rw [show A.in1.handled = none from hh]
  refine wpAny_bind (wpAny_pure (wpAny_throw ?_))
  refine wpAny_bind (wpAny_isInstance (T := "StopIteration") (b := true) ⟨_, Heap.get?_push_size _ rfl, rfl⟩ isSubtype_stop ?_)
  exact wpAny_pure (hQ _ (((Heap.SameBut.update ..).extBut.push _).push _))

theorem acc_walksU {prog : Program} {w : World} {A : Around} (hh : A.handled = none) (I x C dx : Addr) (n : Nat) : WalksU prog w A I [I, x] [I] 0 (fun _ _ => False) (fun _ h => h.IsListIter I x 0 ∧ h.get? x = some (accObj C dx #[] n)) (fun _ _ _ => False) where
  sub := fun b hb => by rw [List.mem_singleton.mp hb]; exact .head _
  frame := fun _ h h' st hk => ⟨let ⟨o, ho, r⟩ := st.1; ⟨o, hk I (.head _) o ho, r⟩, hk x (.tail _ (.head _)) _ st.2⟩
  item := fun i s Q E hi => absurd hi (Nat.not_lt_zero _)
  go := fun _ _ _ _ _ _ _ _ h => h.elim
  apart := fun _ _ _ h => h.elim
  done := fun s Q E st hQ => by
    obtain ⟨hp, g, d, t, os⟩ := s
    exact acc_next_end hh st.1 st.2 fun h' e => hQ h' t fun b o hb e' => e b o (fun q => hb (by simp [q])) e'
  self := fun i s Q E st hQ => wpAny_pyIter_listiter st.1 hQ
end
end Mine
end
section
open PySem PySem.Spec PySem.Calls PyProof.Rows PySem.W
local macro_rules | `(tactic| k_room) => `(tactic| ((try simp only [depth_mark, depth_under_make, depth_under_kw, depth_in1, depth_deeper, depth_caller] at *); (try dsimp only [ktrTop] at *); (simp only [recursionLimit] at *); omega))
local macro_rules | `(tactic| k_mem) => `(tactic| first | assumption | exact List.mem_cons_self | (refine List.mem_cons_of_mem _ ?_; k_mem))
section -- A1
open PySem PySem.Spec PySem.Calls PyProof.Rows PySem.W
set_option maxRecDepth 100000
set_option maxHeartbeats 8000000
namespace Mine
theorem quiet_A1 : True := by
  w_top off
  trivial
local macro_rules | `(tactic| k_inst) => `(tactic| (refine' inst_acc ?N ?h1 ?h2; (case N => k_asm); (case h1 => k_mem); (case h2 => k_mem)))
theorem superB_len {prog : Program} {w : World} {A : Around} {E : Value → Shared → Prop} {K : Frag} {D x dx so : Addr} {s : Shared} {h₀ : Heap} {L : Addr} {m : Str → Option Value} {news : List (Addr × Obj)} {its : Array Value} {n : Nat} {C : Addr} {pl : Sem Bool} {Q : Value × List Value → Shared → Prop}
    (F : Fr h₀ L s.heap m) (X₀ : K.In h₀) (N : News h₀ L s.heap news) (hso : (so, ks_superObj D x C) ∈ news) (hx : (x, accObj C dx its n) ∈ news) (ho : nsIn K cStatics "thirdparty.any" = some none)
    (hm : ks_superIn K C D "__len__" = some (some (.builtin "list.__len__"))) (hsub : mroIn K C (.type "list") = some true)
    (h : ∀ q h', Fr h₀ L h' m → News h₀ L h' ((q, boundB "method-wrapper" "list.__len__" x) :: news) → (∀ p ∈ news, p.1 < q) → Q (.ref q, []) { s with heap := h', toks := s.toks + 1 }) : wpAny (model prog w) A (getMethod (.ref so) "__len__" pl) Q E s :=
  ks_method_b F X₀ N hso hx ho hm Mine.F.type_len Mine.F.slot_wd_get Mine.F.entry_wd_get (Mine.F.args_wd_get _ _ _) (by decide) hsub (fun _ _ _ _ _ _ hT hs => wd_get (.inl rfl) hT hs ⟨rfl, rfl⟩) h
theorem superB_init {prog : Program} {w : World} {A : Around} {E : Value → Shared → Prop} {K : Frag} {D x dx so : Addr} {s : Shared} {h₀ : Heap} {L : Addr} {m : Str → Option Value} {news : List (Addr × Obj)} {its : Array Value} {n : Nat} {C : Addr} {pl : Sem Bool} {Q : Value × List Value → Shared → Prop}
    (F : Fr h₀ L s.heap m) (X₀ : K.In h₀) (N : News h₀ L s.heap news) (hso : (so, ks_superObj D x C) ∈ news) (hx : (x, accObj C dx its n) ∈ news) (ho : nsIn K cStatics "thirdparty.any" = some none)
    (hm : ks_superIn K C D "__init__" = some (some (.builtin "list.__init__"))) (hsub : mroIn K C (.type "list") = some true)
    (h : ∀ q h', Fr h₀ L h' m → News h₀ L h' ((q, boundB "method-wrapper" "list.__init__" x) :: news) → (∀ p ∈ news, p.1 < q) → Q (.ref q, []) { s with heap := h', toks := s.toks + 1 }) : wpAny (model prog w) A (getMethod (.ref so) "__init__" pl) Q E s :=
  ks_method_b F X₀ N hso hx ho hm Mine.F.type_init Mine.F.slot_wd_get Mine.F.entry_wd_get (Mine.F.args_wd_get _ _ _) (by decide) hsub (fun _ _ _ _ _ _ hT hs => wd_get (.inr rfl) hT hs ⟨rfl, rfl⟩) h
theorem superB_pop {prog : Program} {w : World} {A : Around} {E : Value → Shared → Prop} {K : Frag} {D x dx so : Addr} {s : Shared} {h₀ : Heap} {L : Addr} {m : Str → Option Value} {news : List (Addr × Obj)} {its : Array Value} {n : Nat} {C : Addr} {pl : Sem Bool} {Q : Value × List Value → Shared → Prop}
    (F : Fr h₀ L s.heap m) (X₀ : K.In h₀) (N : News h₀ L s.heap news) (hso : (so, ks_superObj D x C) ∈ news) (hx : (x, accObj C dx its n) ∈ news) (ho : nsIn K cStatics "thirdparty.any" = some none)
    (hm : ks_superIn K C D "pop" = some (some (.builtin "list.pop"))) (hsub : mroIn K C (.type "list") = some true)
    (h : ∀ q h', Fr h₀ L h' m → News h₀ L h' ((q, boundB "builtin_function_or_method" "list.pop" x) :: news) → (∀ p ∈ news, p.1 < q) → Q (.ref q, []) { s with heap := h', toks := s.toks + 1 }) : wpAny (model prog w) A (getMethod (.ref so) "pop" pl) Q E s :=
  ks_method_b F X₀ N hso hx ho hm Mine.F.type_pop Mine.F.slot_md_get Mine.F.entry_md_get (Mine.F.args_md_get _ _ _) (by decide) hsub (fun _ _ _ _ _ _ hT hs => md_get hT hs ⟨rfl, rfl⟩) h
local macro_rules | `(tactic| walk_at "setAttr ref") => `(tactic| (k_here; k_dflt (refine' set_acc ?k1 ?k2 ?k3 ?k4 ?k5 ?k6 ?k7 ?k8 ?k9 ?k10 ?k11 ?_; (case k1 => k_asm); (case k2 => k_asm); (case k3 => k_asm); (case k4 => assumption); (case k5 => assumption); (case k6 => k_is); (case k7 => k_is); (case k8 => rfl); (case k9 => rfl); (case k10 => k_is); (case k11 => k_is)); intro h' e' F' N' e1'; (try dsimp only)))
local macro_rules | `(tactic| walk_at "getMethod ref") => `(tactic| (k_here; k_dflt (first
  | (with_reducible show wpAny _ _ (getMethod (Value.ref _) (PySem.Str.ofString "__len__") _) _ _ _); (refine' superB_len ?k1 ?k2 ?k3 ?k4 ?k5 ?k6 ?k7 ?k8 ?_; (case k1 => k_asm); (case k2 => k_asm); (case k3 => k_asm); (case k4 => k_mem); (case k5 => k_mem); (case k6 => k_is); (case k7 => ks_is); (case k8 => k_is)); intro q' h' F' N' l1
  | (with_reducible show wpAny _ _ (getMethod (Value.ref _) (PySem.Str.ofString "__init__") _) _ _ _); (refine' superB_init ?k1 ?k2 ?k3 ?k4 ?k5 ?k6 ?k7 ?k8 ?_; (case k1 => k_asm); (case k2 => k_asm); (case k3 => k_asm); (case k4 => k_mem); (case k5 => k_mem); (case k6 => k_is); (case k7 => ks_is); (case k8 => k_is)); intro q' h' F' N' l1
  | (with_reducible show wpAny _ _ (getMethod (Value.ref _) (PySem.Str.ofString "pop") _) _ _ _); (refine' superB_pop ?k1 ?k2 ?k3 ?k4 ?k5 ?k6 ?k7 ?k8 ?_; (case k1 => k_asm); (case k2 => k_asm); (case k3 => k_asm); (case k4 => k_mem); (case k5 => k_mem); (case k6 => k_is); (case k7 => ks_is); (case k8 => k_is)); intro q' h' F' N' l1); (try dsimp only)))
local macro_rules | `(tactic| walk_at "callWith ref") => `(tactic| (k_here; k_dflt (refine' callWith_L ?k1 ?k2 ?k3 ?_; (case k1 => k_asm); (case k3 => k_mem); (case k2 => first | exact Or.inl rfl | exact Or.inr rfl)); (try dsimp only)))
local macro_rules | `(tactic| walk_at "call ref") => `(tactic| (k_here; k_dflt (first
  | (refine' call_init_L ?k1 ?k2 ?k3 ?k4 ?_; (case k1 => k_asm); (case k2 => k_asm); (case k3 => k_mem); (case k4 => k_mem); intro h' F' N'; (try dsimp only))
  | (refine' call_len_L ?k1 ?k2 ?k3 ?_; (case k1 => k_asm); (case k2 => k_mem); (case k3 => k_mem); (try dsimp only))
  | (refine' call_pop_L ?k1 ?k2 ?k3 ?k4 ?k5 ?k6 ?k7 ?k8 ?k9 ?k10 ?k11 ?_; (case k1 => k_asm); (case k2 => k_asm); (case k3 => k_asm); (case k4 => k_mem); (case k5 => k_upd); (case k6 => k_is); (case k7 => rfl); (case k8 => rfl); (case k9 => rfl); (case k10 => k_is); (case k11 => size_fits); intro h' F' N'; (try dsimp only)))))
theorem acc_new {w : World} {p : Program} {loose : List Str} {mean : ExcName → Option Value} {mg mb : Str → Option Value}
    {dp un : Nat} {gd : Option (List Code)} {cn : Str} {cs : Scope} {a : Addr} {ccd : Value} {cl : List (Str × Addr)} {outer : List Env} {A₀ : Around} {base h₀ : Heap} {L : Addr} {m : Str → Option Value} {news : List (Addr × Obj)} {s : Shared}
    {Q E : Value → Shared → Prop} (B : Below A₀ base outer h₀) (F : Fr h₀ L s.heap m) (X : (Look.hd.heap_39 w.params).In h₀) (N : News h₀ L s.heap news) (T : Top p loose mean mg mb h₀) (hk : cs.kind = .function)
    (hd : dp + 20 < recursionLimit)
    (hret : ∀ x dx e h' tk', Fr h₀ L h' m → News h₀ L h' ((x, accObj 122 dx #[] 0) :: (dx, dictOf [e] 1) :: news) → (∀ p ∈ news, p.1 < dx) → dx < x → e.key.isStr "_initial_size" = true → Q (.ref x) { s with heap := h', toks := tk' }) :
    wpAny (model PySem.Challenge.rw_xp0002_01.row.prog w) (ktrTop dp un gd cn cs L a ccd cl outer) (call (.ref 122) []) Q E s := by
  revert X; k_fill; intro X
  k_dflt (refine' call_clsL (fI := 59) ?k1 ?k2 ?k3 ?k4 ?k5 ?k6 ?_; (case k1 => k_asm); (case k2 => k_asm); (case k3 => k_asm); (case k4 => kernel_rfl); (case k5 => k_is); (case k6 => k_is))
  intro x dx h' F' N' l1 l2
  have l1k := l1
  have l1n : ∀ p ∈ news, p.1 ≠ dx := fun p hp => Nat.ne_of_lt (l1k p hp)
  have l2n : x ≠ dx := Nat.ne_of_gt l2
  k_dflt (refine' ks_code_super ?k1 ?k2 ?k3 ?k4 ?k5 ?kA ?kF ?kK ?k6 ?k7 ?k8 ?k9 ?kB ?_ ?c1 ?c2 ?c3 ?c4; (case kA => exact rfl); (case kF => exact rfl); (case kK => exact hk); (case k1 => k_asm); (case k2 => k_asm); (case k3 => k_asm); (case k4 => k_asm); (case k5 => k_asm); (case k6 => k_is); (case k7 => k_is); (case k8 => k_room); (case k9 => first | exact BindsTo.of_eq rfl | exact binds_K (by k_in) rfl (by k_is) rfl rfl rfl); (case kB => exact locs rfl); (case c1 => decide); (case c2 => exact rfl); (case c3 => exact rfl); (case c4 => exact rfl))
  intro g' L' h'' FG' F'' N'' B'' X'' T'' l3
  try dsimp only
  refine ks_wpAt_execs_cons ?_
  refine ks_wpAt_Assign_Attr ?_
  refine _root_.PySem.wpAt_of_wpAny ?_
  walk1
  walk1
  walk1
  try dsimp only
  refine ks_wpAt_execs_cons ?_
  refine ks_wpAt_Expr_any ?_
  refine ks_wpAt_MethodCall (pl := pure false) ?_
  k_dflt (refine ks_node (by k_asm) (by k_asm) (by k_asm) (by k_asm) (by k_is) (by rfl) (by rfl) (by k_inst) (by k_is) (by rfl) (by first | rfl | decide +kernel) (by k_is) (by k_is) (by k_is) (by k_is) (by decide) (by rfl) (by rfl) (by rfl) (by rfl) (by decide +kernel) (by first | boot_by_name | rfl | kernel_rfl) ?_; intro so' h' F' N' l1; (try k_lt l1))
  k_steps
  rename Fr h₀ L _ m => kF
  rename News h₀ L _ _ => kN
  exact hret _ _ _ _ _ (by assumption) (fun p hp => (by assumption : News h₀ L _ ((_, boundB "method-wrapper" "list.__init__" x) :: _)) p (List.mem_cons_of_mem _ (List.mem_cons_of_mem _ hp))) l1k l2 (by assumption)

theorem acc_count {w : World} {p : Program} {loose : List Str} {mean : ExcName → Option Value} {mg mb : Str → Option Value}
    {dp un : Nat} {gd : Option (List Code)} {cn : Str} {cs : Scope} {a : Addr} {ccd : Value} {cl : List (Str × Addr)} {outer : List Env} {A₀ : Around} {base h₀ : Heap} {L : Addr} {m : Str → Option Value} {news : List (Addr × Obj)} {s : Shared} {x dx : Addr} {its : Array Value} {n : Nat} {es : List DictEntry} {ne : Nat}
    {Q E : Value → Shared → Prop} (B : Below A₀ base outer h₀) (F : Fr h₀ L s.heap m) (X : (Look.hd.heap_39 w.params).In h₀) (N : News h₀ L s.heap news) (T : Top p loose mean mg mb h₀) (hk : cs.kind = .function)
    (hd : dp + 10 < recursionLimit) (hx : (x, accObj 122 dx its n) ∈ news) (hdx : (dx, dictOf es ne) ∈ news)
    (hret : ∀ h' t' tk', Fr h₀ L h' m → News h₀ L h' news → Q (.int its.size t') { s with heap := h', toks := tk' }) :
    wpAny (model PySem.Challenge.rw_xp0002_01.row.prog w) (ktrTop dp un gd cn cs L a ccd cl outer) (call (.ref 119) [.ref x]) Q E s := by
  revert X; k_fill; intro X
  refine wpAny_call ?_
  k_dflt (refine' ks_code_super ?k1 ?k2 ?k3 ?k4 ?k5 ?kA ?kF ?kK ?k6 ?k7 ?k8 ?k9 ?kB ?_ ?c1 ?c2 ?c3 ?c4; (case kA => exact rfl); (case kF => exact rfl); (case kK => exact hk); (case k1 => k_asm); (case k2 => k_asm); (case k3 => k_asm); (case k4 => k_asm); (case k5 => k_asm); (case k6 => k_is); (case k7 => k_is); (case k8 => k_room); (case k9 => first | exact BindsTo.of_eq rfl | exact binds_K (by k_in) rfl (by k_is) rfl rfl rfl); (case kB => exact locs rfl); (case c1 => decide); (case c2 => exact rfl); (case c3 => exact rfl); (case c4 => exact rfl))
  intro g' L' h'' FG' F'' N'' B'' X'' T'' l3
  try dsimp only
  refine ks_wpAt_execs_cons ?_
  refine ks_wpAt_Return_some ?_
  refine ks_wpAt_MethodCall (pl := pure false) ?_
  k_dflt (refine ks_node (by k_asm) (by k_asm) (by k_asm) (by k_asm) (by k_is) (by rfl) (by rfl) (by exact inst_acc N'' hx hdx) (by k_is) (by rfl) (by first | rfl | decide +kernel) (by k_is) (by k_is) (by k_is) (by k_is) (by decide) (by rfl) (by rfl) (by rfl) (by rfl) (by decide +kernel) (by first | boot_by_name | rfl | kernel_rfl) ?_; intro so' h' F' N' l1)
  k_steps
  exact hret _ _ _ (by assumption) (fun p hp => (by assumption : News h₀ L _ ((_, boundB "method-wrapper" "list.__len__" x) :: _)) p (List.mem_cons_of_mem _ (List.mem_cons_of_mem _ hp)))
end Mine
end
section -- A2
open PySem PySem.Spec PySem.Calls PyProof.Rows PySem.W
set_option maxRecDepth 100000
set_option maxHeartbeats 8000000
namespace Mine
local macro_rules | `(tactic| walk_at "zz0") => `(tactic| fail)
theorem quiet_A2 : True := by
  w_top off
  trivial
local macro_rules | `(tactic| k_inst) => `(tactic| (refine' inst_acc ?N ?h1 ?h2; (case N => k_asm); (case h1 => k_mem); (case h2 => k_mem)))
local macro_rules | `(tactic| walk_at "setAttr ref") => `(tactic| (k_here; k_dflt (refine' set_acc ?k1 ?k2 ?k3 ?k4 ?k5 ?k6 ?k7 ?k8 ?k9 ?k10 ?k11 ?_; (case k1 => k_asm); (case k2 => k_asm); (case k3 => k_asm); (case k4 => assumption); (case k5 => assumption); (case k6 => k_is); (case k7 => k_is); (case k8 => rfl); (case k9 => rfl); (case k10 => k_is); (case k11 => k_is)); intro h' e' F' N' e1'; (try dsimp only)))
local macro_rules | `(tactic| walk_at "getMethod ref") => `(tactic| (k_here; k_dflt (first
  | (with_reducible show wpAny _ _ (getMethod (Value.ref _) (PySem.Str.ofString "__len__") _) _ _ _); (refine' superB_len ?k1 ?k2 ?k3 ?k4 ?k5 ?k6 ?k7 ?k8 ?_; (case k1 => k_asm); (case k2 => k_asm); (case k3 => k_asm); (case k4 => k_mem); (case k5 => k_mem); (case k6 => k_is); (case k7 => ks_is); (case k8 => k_is)); intro q' h' F' N' l1
  | (with_reducible show wpAny _ _ (getMethod (Value.ref _) (PySem.Str.ofString "__init__") _) _ _ _); (refine' superB_init ?k1 ?k2 ?k3 ?k4 ?k5 ?k6 ?k7 ?k8 ?_; (case k1 => k_asm); (case k2 => k_asm); (case k3 => k_asm); (case k4 => k_mem); (case k5 => k_mem); (case k6 => k_is); (case k7 => ks_is); (case k8 => k_is)); intro q' h' F' N' l1
  | (with_reducible show wpAny _ _ (getMethod (Value.ref _) (PySem.Str.ofString "pop") _) _ _ _); (refine' superB_pop ?k1 ?k2 ?k3 ?k4 ?k5 ?k6 ?k7 ?k8 ?_; (case k1 => k_asm); (case k2 => k_asm); (case k3 => k_asm); (case k4 => k_mem); (case k5 => k_mem); (case k6 => k_is); (case k7 => ks_is); (case k8 => k_is)); intro q' h' F' N' l1); (try dsimp only)))
local macro_rules | `(tactic| walk_at "callWith ref") => `(tactic| (k_here; k_dflt (refine' callWith_L ?k1 ?k2 ?k3 ?_; (case k1 => k_asm); (case k3 => k_mem); (case k2 => first | exact Or.inl rfl | exact Or.inr rfl)); (try dsimp only)))
local macro_rules | `(tactic| walk_at "call ref") => `(tactic| (k_here; k_dflt (first
  | (refine' call_init_L ?k1 ?k2 ?k3 ?k4 ?_; (case k1 => k_asm); (case k2 => k_asm); (case k3 => k_mem); (case k4 => k_mem); intro h' F' N'; (try dsimp only))
  | (refine' call_len_L ?k1 ?k2 ?k3 ?_; (case k1 => k_asm); (case k2 => k_mem); (case k3 => k_mem); (try dsimp only))
  | (refine' call_pop_L ?k1 ?k2 ?k3 ?k4 ?k5 ?k6 ?k7 ?k8 ?k9 ?k10 ?k11 ?_; (case k1 => k_asm); (case k2 => k_asm); (case k3 => k_asm); (case k4 => k_mem); (case k5 => k_upd); (case k6 => k_is); (case k7 => rfl); (case k8 => rfl); (case k9 => rfl); (case k10 => k_is); (case k11 => size_fits); intro h' F' N'; (try dsimp only)))))
local macro_rules | `(tactic| walk_at "call ref") => `(tactic| (k_here; k_dflt (refine' acc_count ?k1 ?k2 ?k3 ?k4 ?k5 ?kh ?k6 ?k7 ?k8 ?_; (case kh => exact rfl); (case k7 => k_mem); (case k8 => assumption); (case k1 => k_asm); (case k2 => k_asm); (case k3 => k_asm); (case k4 => k_asm); (case k5 => k_asm); (case k6 => k_room); intro h' t' tk' F' N'; (try dsimp only))))
def AccD (es : List DictEntry) : Prop := ∀ nm : Str, nm ≠ PySem.Str.ofString "_initial_size" → getL nm es = some none
theorem accD_one {e : DictEntry} (h : e.key.isStr "_initial_size" = true) : AccD [e] := by
  intro nm hn
  obtain ⟨hs, k, v⟩ := e
  cases k with
  | str y t =>
    have hy : y = PySem.Str.ofString "_initial_size" := eq_of_beq h
    subst hy
    have h1 : ((Value.str (PySem.Str.ofString "_initial_size") t).isStr nm) = false := by
      show (PySem.Str.ofString "_initial_size" == nm) = false
      rw [beq_eq_false_iff_ne]
      exact fun q => hn q.symm
    unfold getL
    simp [List.find?, h1, DictEntry.refKey]
  | _ => cases h
theorem accD_shadow {es : List DictEntry} {n : Nat} {nm : Str} (h : AccD es) (hn : nm ≠ PySem.Str.ofString "_initial_size") : shadowIn (some (dictOf es n)) nm = some false := by
  show (lookIn nm (dictOf es n)).map (·.isSome) = some false
  rw [lookIn_dict, h nm hn]
  rfl
local macro_rules | `(tactic| walk_at "getMethod ref") => `(tactic| (k_here; k_dflt (refine' method_L ?k1 ?k2 ?k3 ?kx ?kd ?k4 ?k5 ?k6 ?k7 ?k8 ?k9 ?k10 ?_; (case k1 => k_asm); (case k2 => k_asm); (case k3 => k_asm); (case kx => k_mem); (case kd => k_mem); (case k4 => k_is); (case k5 => decide +kernel); (case k6 => k_is); (case k7 => k_is); (case k8 => k_is); (case k9 => decide +kernel); (case k10 => exact accD_shadow (by assumption) (by decide +kernel))); (try dsimp only)))
theorem lt_of_all {d : Addr} : ∀ {l : List (Addr × Obj)}, AllLt d l → ∀ p ∈ l, p.1 < d
  | [], _, _, h => nomatch h
  | _ :: _, h, p, hp => by
    rcases List.mem_cons.mp hp with rfl | hp
    · exact h.1
    · exact lt_of_all h.2 p hp
theorem acc_pop_nil {w : World} {p : Program} {loose : List Str} {mean : ExcName → Option Value} {mg mb : Str → Option Value}
    {dp un : Nat} {gd : Option (List Code)} {cn : Str} {cs : Scope} {a : Addr} {ccd : Value} {cl : List (Str × Addr)} {outer : List Env} {A₀ : Around} {base h₀ : Heap} {L : Addr} {m : Str → Option Value} {news : List (Addr × Obj)} {s : Shared} {x dx : Addr} {n : Nat} {es : List DictEntry} {ne : Nat}
    {Q E : Value → Shared → Prop} (B : Below A₀ base outer h₀) (F : Fr h₀ L s.heap m) (X : (Look.hd.heap_39 w.params).In h₀) (N : News h₀ L s.heap news) (T : Top p loose mean mg mb h₀) (hk : cs.kind = .function)
    (hd : dp + 20 < recursionLimit) (hx : (x, accObj 122 dx #[] n) ∈ news) (hdx : (dx, dictOf es ne) ∈ news) (hgl : AccD es)
    (hret : ∀ tp t1 t2 h' tk', (∀ p ∈ news, p.1 < tp) → Fr h₀ L h' m → News h₀ L h' ((tp, { cls := .type "tuple", data := .seq #[.str "" t1, .str "" t2] }) :: news) → Q (.ref tp) { s with heap := h', toks := tk' }) :
    wpAny (model PySem.Challenge.rw_xp0002_01.row.prog w) (ktrTop dp un gd cn cs L a ccd cl outer) (call (.ref 82) [.ref x]) Q E s := by
  revert X; k_fill; intro X
  refine wpAny_call ?_
  k_dflt (refine' ks_code_super ?k1 ?k2 ?k3 ?k4 ?k5 ?kA ?kF ?kK ?k6 ?k7 ?k8 ?k9 ?kB ?_ ?c1 ?c2 ?c3 ?c4; (case kA => exact rfl); (case kF => exact rfl); (case kK => exact hk); (case k1 => k_asm); (case k2 => k_asm); (case k3 => k_asm); (case k4 => k_asm); (case k5 => k_asm); (case k6 => k_is); (case k7 => k_is); (case k8 => k_room); (case k9 => first | exact BindsTo.of_eq rfl | exact binds_K (by k_in) rfl (by k_is) rfl rfl rfl); (case kB => exact locs rfl); (case c1 => decide); (case c2 => exact rfl); (case c3 => exact rfl); (case c4 => exact rfl))
  intro g' L' h'' FG' F'' N'' B'' X'' T'' l3
  try dsimp only
  refine ks_wpAt_execs_cons ?_
  refine ks_wpAt_If ?_
  refine _root_.PySem.wpAt_of_wpAny ?_
  k_steps
  rename News h₀ L _ _ => kN
  rename Fr h₀ L _ m => kF

  exact hret _ _ _ _ _ (by assumption) kF kN

theorem acc_pop {w : World} {p : Program} {loose : List Str} {mean : ExcName → Option Value} {mg mb : Str → Option Value}
    {dp un : Nat} {gd : Option (List Code)} {cn : Str} {cs : Scope} {a : Addr} {ccd : Value} {cl : List (Str × Addr)} {outer : List Env} {A₀ : Around} {base h₀ : Heap} {L : Addr} {m : Str → Option Value} {news : List (Addr × Obj)} {s : Shared} {x dx : Addr} {n : Nat} {es : List DictEntry} {ne : Nat}
    {Q E : Value → Shared → Prop} (B : Below A₀ base outer h₀) (F : Fr h₀ L s.heap m) (X : (Look.hd.heap_39 w.params).In h₀) (N : News h₀ L s.heap news) (T : Top p loose mean mg mb h₀) (hk : cs.kind = .function)
    (hd : dp + 20 < recursionLimit) {its : Array Value} {v : Value} {news' : List (Addr × Obj)} (hz : its.size ≤ 1000) (U : Upd x (accObj 122 dx (its.push v) n) (accObj 122 dx its (n + 1)) news news') (hx : (x, accObj 122 dx (its.push v) n) ∈ news) (hdx : (dx, dictOf es ne) ∈ news) (hgl : AccD es)
    (hret : ∀ h' tk', Fr h₀ L h' m → News h₀ L h' news' → Q v { s with heap := h', toks := tk' }) :
    wpAny (model PySem.Challenge.rw_xp0002_01.row.prog w) (ktrTop dp un gd cn cs L a ccd cl outer) (call (.ref 82) [.ref x]) Q E s := by
  revert X; k_fill; intro X
  refine wpAny_call ?_
  k_dflt (refine' ks_code_super ?k1 ?k2 ?k3 ?k4 ?k5 ?kA ?kF ?kK ?k6 ?k7 ?k8 ?k9 ?kB ?_ ?c1 ?c2 ?c3 ?c4; (case kA => exact rfl); (case kF => exact rfl); (case kK => exact hk); (case k1 => k_asm); (case k2 => k_asm); (case k3 => k_asm); (case k4 => k_asm); (case k5 => k_asm); (case k6 => k_is); (case k7 => k_is); (case k8 => k_room); (case k9 => first | exact BindsTo.of_eq rfl | exact binds_K (by k_in) rfl (by k_is) rfl rfl rfl); (case kB => exact locs rfl); (case c1 => decide); (case c2 => exact rfl); (case c3 => exact rfl); (case c4 => exact rfl))
  intro g' L' h'' FG' F'' N'' B'' X'' T'' l3
  try dsimp only
  refine ks_wpAt_execs_cons ?_
  refine ks_wpAt_If ?_
  refine _root_.PySem.wpAt_of_wpAny ?_
  have hne : ¬ ((its.push v).size : Int) = 0 := by simp only [Array.size_push]; omega
  repeat' ((try dsimp only); (fail_if_success (with_reducible show _root_.PySem.wpAt _ _ _ _ _ _ _)); (first | (refine ite_neg (by simpa using hne) ?_) | walk1))
  refine _root_.PySem.wpAt_of_wpAny (wpAny_pure ?_)
  try dsimp only
  refine ks_wpAt_execs_cons ?_
  refine ks_wpAt_Return_some ?_
  refine ks_wpAt_MethodCall (pl := pure false) ?_
  k_dflt (refine ks_node (by k_asm) (by k_asm) (by k_asm) (by k_asm) (by k_is) (by rfl) (by rfl) (by exact inst_acc (by assumption) hx hdx) (by k_is) (by rfl) (by first | rfl | decide +kernel) (by k_is) (by k_is) (by k_is) (by k_is) (by decide) (by rfl) (by rfl) (by rfl) (by rfl) (by decide +kernel) (by first | boot_by_name | rfl | kernel_rfl) ?_; intro so' h' F' N' l1)
  k_steps
  rename ∀ p ∈ (so', ks_superObj 122 x 122) :: news, p.1 < _ => l9
  have hxq := l9 _ (.tail _ hx)
  have hxs := l1 _ hx
  have U2 : Upd x (accObj 122 dx (its.push v) n) (accObj 122 dx its (n + 1)) ((so', ks_superObj 122 x 122) :: news) ((so', ks_superObj 122 x 122) :: news') := .tail (Nat.ne_of_gt hxs) U
  rename News g' L' _ ((_, boundB "builtin_function_or_method" "list.pop" x) :: _) => N9
  k_dflt (refine' call_pop_L ?k1 ?k2 N9 ?k4 (Upd.tail (p := (_, boundB "builtin_function_or_method" "list.pop" x)) (Nat.ne_of_gt hxq) U2) ?k6 ?k7 ?k8 ?k9 ?k10 ?k11 ?_; (case k1 => k_asm); (case k2 => k_asm); (case k4 => k_mem); (case k6 => k_is); (case k7 => rfl); (case k8 => rfl); (case k9 => rfl); (case k10 => k_is); (case k11 => (simp only [sizeLine]; omega)); intro h' F' N'; (try dsimp only))
  k_steps
  rename News h₀ L _ _ => kN
  rename Fr h₀ L _ m => kF
  exact hret _ _ kF fun p hp => kN p (.tail _ (.tail _ hp))

theorem upd_mem {d : Addr} {o o' : Obj} {l l' : List (Addr × Obj)} (U : Upd d o o' l l') : (d, o) ∈ l := by
  induction U with
  | head => exact .head _
  | tail _ _ ih => exact .tail _ ih

theorem acc_push {w : World} {p : Program} {loose : List Str} {mean : ExcName → Option Value} {mg mb : Str → Option Value}
    {dp un : Nat} {gd : Option (List Code)} {cn : Str} {cs : Scope} {a : Addr} {ccd : Value} {cl : List (Str × Addr)} {outer : List Env} {A₀ : Around} {base h₀ : Heap} {L : Addr} {m : Str → Option Value} {news : List (Addr × Obj)} {s : Shared} {x dx : Addr} {n : Nat} {es : List DictEntry} {ne : Nat}
    {its : Array Value} {f c : Str} {tf tc : Tok} {news' : Value → List (Addr × Obj)} (hz : its.size ≤ 999) (U : ∀ v, Upd x (accObj 122 dx its n) (accObj 122 dx (its.push v) (n + 1)) news (news' v)) (hdx : (dx, dictOf es ne) ∈ news) (hgl : AccD es)
    {Q E : Value → Shared → Prop} (B : Below A₀ base outer h₀) (F : Fr h₀ L s.heap m) (X : (Look.hd.heap_39 w.params).In h₀) (N : News h₀ L s.heap news) (T : Top p loose mean mg mb h₀) (hk : cs.kind = .function)
    (hd : dp + 20 < recursionLimit)
    (hret : ∀ tp h' tk', (∀ p ∈ news, p.1 < tp) → Fr h₀ L h' m → News h₀ L h' ((tp, { cls := .type "tuple", data := .seq #[.str f tf, .str c tc] }) :: news' (.ref tp)) → Q .none { s with heap := h', toks := tk' }) :
    wpAny (model PySem.Challenge.rw_xp0002_01.row.prog w) (ktrTop dp un gd cn cs L a ccd cl outer) (call (.ref 66) [.ref x, .str f tf, .str c tc]) Q E s := by
  have hx := upd_mem (U .none)
  revert X; k_fill; intro X
  refine wpAny_call ?_
  k_dflt ktr_enter
  k_steps
  rename_i N9 l9
  have hxd := l9 _ hx
  k_dflt (refine' append_acc ?k1 ?k2 N9 (Upd.tail (p := (_, { cls := .type "tuple", data := .seq #[.str f tf, .str c tc] })) (Nat.ne_of_gt hxd) (U _)) ?k4 ?k5 ?_; (case k1 => k_asm); (case k2 => k_asm); (case k4 => k_is); (case k5 => omega); intro h' F' N'; (try dsimp only))
  k_steps
  rename News h₀ L _ _ => kN
  rename Fr h₀ L _ m => kF
  exact hret _ _ _ l9 kF kN
end Mine
end
section -- A3
open PySem PySem.Spec PySem.Calls PyProof.Rows PySem.W
set_option maxRecDepth 100000
set_option maxHeartbeats 8000000
namespace Mine
theorem quiet_A3 : True := by
  w_top off
  trivial
section
variable {prog : Program} {w : World} {A : Around} {E : Value → Shared → Prop} {s : Shared} {h₀ : Heap} {L a x dx c : Addr} {m mg mb : Str → Option Value} {news : List (Addr × Obj)} {K : Frag} {p : Program} {loose : List Str} {mean : ExcName → Option Value}
def GenPack (prog : Program) (w : World) (A : Around) (L a : Addr) (news : List (Addr × Obj)) (s : Shared) : Prop :=
  ∃ fp wr g P St, WalksS prog w A.in4 a fp wr (GenOnlyQ g) 0 P St ∧ St 0 s ∧ (∀ i s, St i s → s.TypeIs (.ref a) "generator") ∧ a ∈ fp ∧ (∀ b ∈ fp, b < s.heap.objs.size) ∧ (∀ b ∈ wr, @LT.lt Nat _ L b ∧ ∀ p ∈ news, p.1 ≠ b) ∧ (∀ i v, ¬ P i v)

theorem gen_acc {C P : Addr} {env : Env} {elt iter : Expr} {xa xb : Str} {pa pb pt : Pos} {kt : Nat} {scope : Scope} {pos : Pos} {ps : Array Value} {n : Nat} {Q : Value → Shared → Prop}
    (F : Fr h₀ L s.heap m) (X₀ : K.In h₀) (N : News h₀ L s.heap ((P, tabObj ps) :: news)) (T : Top p loose mean mg mb h₀) (hx : (x, accObj C dx #[] n) ∈ news) (ht : TriplesOk ps.toList) (hne : ∀ p ∈ news, p.1 ≠ P) (hg : AllBare s.gens)
    (hcd : CodeHd h₀ c P) (hcode : env.code = .ref c) (hge : env.globals = mainGlobals)
    (hf : findIn K (.ref C) "__iter__" = some (some (.builtin "list.__iter__"))) (hsub : mroIn K C (.type "list") = some true)
    (hh : A.handled = none) (hco : scope.isCoroutine = false) (hclos : closureFor scope env = pure []) (hcell : ∀ y ∈ scope.names, y.2 ≠ .cell) (h0 : scope.names.lookup (".0" : Str) = some NameKind.local)
    (hxa : scope.names.lookup xa = some .local) (hxb : scope.names.lookup xb = some .local) (hab : xa ≠ xb) (hkind : scope.kind = .function) (hroom : A.depth < recursionLimit)
    (hi : ∀ Q E, Q (.ref x) s → wpAny (model prog w) A (eval iter env) Q E s) (hs : ∀ x, genFold iter env x = pure x)
    (hQ : ∀ a s' ps', TriplesOk ps'.toList → Fr h₀ L s'.heap m → News h₀ L s'.heap ((P, tabObj ps') :: news) → AllBare s'.gens → s'.os = s.os → GenPack prog w A L a ((P, tabObj ps') :: news) s' → Q (.ref a) s') :
    wpAny (model prog w) A (eval (.GeneratorExp elt [⟨.Tuple [.Name xa pa, .Name xb pb] kt pt, iter, [], 0⟩] scope pos) env) Q E s := by
  refine wpAny_GeneratorExp_walksQT hh hco hclos hcell h0 hxa hxb hab hkind hroom (hi _ _ ?_) hs
  obtain ⟨hp, g, d, t, os⟩ := s
  have X : K.In hp := X₀.keeps F.keep
  have hxg : hp.get? x = some (accObj C dx #[] n) := (N _ (.tail _ hx)).1
  refine acc_iter X hxg hf hsub ?_
  -- the iterator
  have k1 : ∀ b o, hp.get? b = some o → (hp.push { cls := .type "list_iterator", data := .fields #[.ref x, .int 0 0] }).get? b = some o := fun b o e => Heap.get?_push_of_some _ e
  have F1 : Fr h₀ L (hp.push { cls := .type "list_iterator", data := .fields #[.ref x, .int 0 0] }) m := F.keeps k1
  have hLlt : L < hp.objs.size := F.ns.lt
  have hP := (N _ (.head _)).1
  have hNlt : ∀ p ∈ (P, tabObj ps) :: news, p.1 < hp.objs.size := fun p hp' => Heap.lt_size (N p hp').1
  have C1 : CodeHd (hp.push { cls := .type "list_iterator", data := .fields #[.ref x, .int 0 0] }) c P := hcd.keeps F1.keep
  have hit : (hp.push { cls := .type "list_iterator", data := .fields #[.ref x, .int 0 0] }).IsListIter hp.objs.size x 0 := ⟨_, Heap.get?_push_size _ rfl, rfl, rfl⟩
  have L1 : (hp.push { cls := .type "list_iterator", data := .fields #[.ref x, .int 0 0] }).NoLimit := T.nolimit.keeps F1.keep
  have hcP : cStatics ≠ P := fun e => by
    obtain ⟨_, hns, _⟩ := L1
    obtain ⟨o, es, ep, ho, hd, _⟩ := hns
    rw [e, k1 _ _ hP] at ho; cases ho; cases hd
  have hmP : mainGlobals ≠ P := fun e => by
    obtain ⟨o, es, ep, ho, hd, _⟩ := T.g.keeps F1.keep
    rw [e, k1 _ _ hP] at ho; cases ho; cases hd
  obtain ⟨bm, ob, Mb⟩ := bmod_of_top T
  have Mb1 := Mb.keeps F1.keep
  have fin : ∀ (code : Value) (h3 : Heap) (tk : Nat) (ps' : Array Value), TriplesOk ps'.toList → h3.get? P = some (tabObj ps') → Heap.ExtBut P (hp.push { cls := .type "list_iterator", data := .fields #[.ref x, .int 0 0] }) h3 → (hp.objs.size + 1 ≤ h3.objs.size) →
      wpAny (model prog w) A (builtinsFor env.globals env.builtins) (fun bi s₄ => ∃ I fp wr n₀ Pt St₀ Mid pz F, Value.ref hp.objs.size = .ref I ∧ (∀ A' : Around, A'.handled = none → WalksU prog w A' I fp wr n₀ Pt St₀ Mid) ∧ (∀ i vals, Pt i vals → ∃ va vb, vals = #[va, vb]) ∧ St₀ 0 s₄.heap ∧ (∀ b ∈ fp, b < s₄.heap.objs.size) ∧ s₄.heap.NoLimit ∧ cStatics ∉ wr ∧
          (∀ href : Heap, (∀ b o, s₄.heap.get? b = some o → href.get? b = some o) →
            QuietGenT prog w (genEnv scope [] s₄.heap.objs.size code bi env) xa xb [] elt (List.range s₄.heap.objs.size) wr Pt pz F href) ∧
          (∀ a h₅ tk gs, gs.bare = true → s₄.heap.objs.size < a → h₅.objs.size = a + 1 → (∀ b o, s₄.heap.get? b = some o → h₅.get? b = some o) →
            WalksS prog w A.in4 a (a :: s₄.heap.objs.size :: List.range s₄.heap.objs.size) (s₄.heap.objs.size :: wr) (GenOnlyQ s₄.gens.size) (passing pz n₀ 0).length
              (fun j y => ∃ i, (passing pz n₀ 0)[j]? = some i ∧ F i y) (GenAt prog w A.in4 a s₄.gens.size s₄.heap.objs.size (List.range s₄.heap.objs.size) wr pz n₀ F) →
            GenAt prog w A.in4 a s₄.gens.size s₄.heap.objs.size (List.range s₄.heap.objs.size) wr pz n₀ F 0 { s₄ with gens := s₄.gens.push gs, toks := tk, heap := h₅ } →
            Q (.ref a) { s₄ with gens := s₄.gens.push gs, toks := tk, heap := h₅ })) E ⟨h3, g, d, tk, os⟩ := by
    intro code h3 tk ps' ht' hP3 hx3 hsz3
    have hobP : bm ≠ P := fun e => by
      have h1 := Mb1.obj
      rw [e, k1 _ _ hP] at h1
      have h2 := Mb1.cls
      cases h1
      cases h2
    have g3 : h3.Ns mainGlobals mg := (T.g.keeps F1.keep).extBut hx3 hmP
    rw [hge]
    refine wpAny_builtinsFor g3 Mb1.name Mb1.ne (hx3 _ _ hobP Mb1.obj) Mb1.cls Mb1.dict Mb1.data ?_
    have hxP : x ≠ P := hne _ hx
    have hIP : hp.objs.size ≠ P := Nat.ne_of_gt (Heap.lt_size hP)
    have x3 : h3.get? x = some (accObj C dx #[] n) := hx3 _ _ hxP (k1 _ _ hxg)
    have it3 : h3.IsListIter hp.objs.size x 0 := hit.extBut hx3 hIP
    have hxlt := Heap.lt_size hxg
    refine ⟨hp.objs.size, [hp.objs.size, x], [hp.objs.size], 0, fun _ _ => False, _, _, fun _ => true, fun _ _ => False, rfl, fun A' hA => acc_walksU hA _ _ _ _ _, fun _ _ h => h.elim, ⟨it3, x3⟩, ?_, L1.extBut hx3 hcP, ?_, ?_, ?_⟩
    · intro b hb
      rcases List.mem_cons.mp hb with rfl | hb
      · exact hsz3
      · rw [List.mem_singleton.mp hb]; exact Nat.lt_of_lt_of_le (Nat.lt_succ_of_lt hxlt) hsz3
    · intro hm
      rw [List.mem_singleton.mp hm] at hcP
      obtain ⟨_, hns, _⟩ := T.nolimit.keeps F.keep
      have h2 := hns.lt
      rw [List.mem_singleton.mp hm] at h2
      exact Nat.lt_irrefl _ h2
    · exact fun href _ => ⟨fun _ _ _ _ _ _ _ _ h => h.elim, fun _ _ _ _ _ _ _ _ h => h.elim⟩
    · intro a h5 tk5 gs hgb hag hsz5 hk5 W hat
      have F3 : Fr h₀ L h3 m := by
        refine ⟨F1.ns.extBut hx3 (N _ (.head _)).2.1.symm, fun b o e => hx3 b o (fun q => ?_) (F1.keep b o e), F.above⟩
        have h2 := (N _ (.head _)).2.2
        rw [← q, e] at h2
        cases h2
      have N3 : News h₀ L h3 ((P, tabObj ps') :: news) := fun q hq => by
        rcases List.mem_cons.mp hq with rfl | hq
        · exact ⟨hP3, (N _ (.head _)).2⟩
        · exact ⟨hx3 _ _ (hne _ hq) (k1 _ _ (N _ (.tail _ hq)).1), (N _ (.tail _ hq)).2⟩
      refine hQ a _ ps' ht' (F3.keeps hk5) (fun q hq => ⟨hk5 _ _ (N3 q hq).1, (N3 q hq).2⟩) (hg.push hgb) rfl ⟨_, _, _, _, _, W, hat, fun i s' st => st.1.typeIs, List.mem_cons_self, ?_, ?_, ?_⟩
      · intro b hb
        show b < h5.objs.size
        rw [hsz5]
        rcases List.mem_cons.mp hb with rfl | hb
        · exact Nat.lt_succ_self _
        · rcases List.mem_cons.mp hb with rfl | hb
          · exact Nat.lt_succ_of_lt hag
          · exact Nat.lt_succ_of_lt (Nat.lt_trans (List.mem_range.mp hb) hag)
      · intro b hb
        have hb' : hp.objs.size ≤ b := by
          rcases List.mem_cons.mp hb with rfl | hb
          · exact Nat.le_trans (Nat.le_succ _) hsz3
          · rw [List.mem_singleton.mp hb]; exact Nat.le_refl _
        refine ⟨Nat.lt_of_lt_of_le hLlt hb', fun q hq => Nat.ne_of_lt (Nat.lt_of_lt_of_le ?_ hb')⟩
        rcases List.mem_cons.mp hq with rfl | hq
        · exact Heap.lt_size hP
        · exact hNlt _ (.tail _ hq)
      · rintro i v ⟨j, hj, hF⟩
        exact hF
  refine ⟨L1, ?_⟩
  have I1 := C1.code (k1 _ _ hP) ht
  have T1 := C1.tab (k1 _ _ hP)
  cases hc : codeAmong pos ps.toList with
  | some c' =>
    refine wpAny_genexprCode_hit hcode I1 hc (fin _ _ _ ps ht (k1 _ _ hP) (fun b o _ e => e) (by rw [Heap.size_push]; exact Nat.le_refl _))
  | none =>
    refine wpAny_genexprCodeX hcode I1 T1 hc fun c' h3 tk3 hx3 hge3 hlt3 hcode3 _ htab3 _ => ?_
    have ht' : TriplesOk (ps ++ #[rawInt pos.line, rawInt pos.col, .ref c']).toList := by
      obtain ⟨o, vs, file, tf, flags, tg, inF, text, tt, op, ho, hd, h11, h2, h7, h9, h10, hop, hpd, htr, hne⟩ := hcode3
      exact htr
    refine fin _ _ _ _ ht' htab3.2 hx3 ?_
    rw [Heap.size_push] at hge3
    exact Nat.le_trans hge3 (Nat.le_of_lt hlt3)
theorem join_acc {led : List (Addr × Obj)} {t0 : Tok} {Q : Value → Shared → Prop} (G : GenPack prog w A L a led s) (F : Fr h₀ L s.heap m) (N : News h₀ L s.heap led) (hg : AllBare s.gens)
    (hQ : ∀ s' t, s'.os = s.os → AllBare s'.gens → Fr h₀ L s'.heap m → News h₀ L s'.heap led → Q (.str "" t) s') : wpAny (model prog w) A (call (.builtin "str.join") [.str "" t0, .ref a]) Q E s := by
  obtain ⟨fp, wr, g, P, St, W, hst, hT, hI, hfp, hwr, hno⟩ := G
  refine SC.joinGen W.in4_2 hT hst hfp hI (fun i v h => absurd h (hno i v)) (fun s' l hm hitems => ?_)
  have hl : l = [] := by
    cases l with
    | nil => rfl
    | cons p r => exact absurd hitems.1 (by simp [strValues])
  subst hl
  refine ⟨rfl, fun t' k => ?_⟩
  refine hQ { s' with toks := k } t' hm.os (show AllBare s'.gens from hg.movedS hm) (show Fr h₀ L s'.heap m from F.moved hm fun b hb => (hwr b hb).1) fun q hq => ?_
  refine ⟨hm.heap _ _ (fun hb => (hwr _ hb).2 _ hq rfl) (N q hq).1, (N q hq).2⟩
end
theorem code_hd {P : Params} {h : Heap} (X : (Look.hd.heap_39 P).In h) : CodeHd h 95 91 := by
  refine ⟨_, _, _, _, _, _, _, _, _, X 95 _ rfl, rfl, rfl, rfl, rfl, rfl, rfl, rfl, rfl, by decide⟩
theorem acc_strfn {w : World} {p : Program} {loose : List Str} {mean : ExcName → Option Value} {mg mb : Str → Option Value}
    {dp un : Nat} {gd : Option (List Code)} {cn : Str} {cs : Scope} {a : Addr} {ccd : Value} {cl : List (Str × Addr)} {outer : List Env} {A₀ : Around} {base h₀ : Heap} {L : Addr} {m : Str → Option Value} {news : List (Addr × Obj)} {s : Shared} {x dx : Addr} {n : Nat} {ps : Array Value}
    {Q E : Value → Shared → Prop} (B : Below A₀ base outer h₀) (F : Fr h₀ L s.heap m) (X : (Look.hd.heap_39 w.params).In h₀) (N : News h₀ L s.heap ((91, tabObj ps) :: news)) (T : Top p loose mean mg mb h₀) (hk : cs.kind = .function)
    (hx : (x, accObj 122 dx #[] n) ∈ news) (ht : TriplesOk ps.toList) (hne : ∀ p ∈ news, p.1 ≠ 91) (hg : AllBare s.gens)
    (hd : dp + 20 < recursionLimit)
    (hret : ∀ s' ps' t, s'.os = s.os → AllBare s'.gens → TriplesOk ps'.toList → Fr h₀ L s'.heap m → News h₀ L s'.heap ((91, tabObj ps') :: news) → Q (.str "" t) s') :
    wpAny (model PySem.Challenge.rw_xp0002_01.row.prog w) (ktrTop dp un gd cn cs L a ccd cl outer) (call (.ref 96) [.ref x]) Q E s := by
  revert X; k_fill; intro X
  refine wpAny_call ?_
  k_dflt ktr_enter
  k_steps
  k_dflt (refine' gen_acc (P := 91) (c := 95) (C := 122) ?k1 ?k2 ?k3 ?k4 ?k5 ?k6 ?k7 ?k8 ?k9 ?k10 ?k11 ?k12 ?k13 ?k14 ?k15 ?k16 ?k17 ?k18 ?k19 ?k20 ?k21 ?k22 ?k23 ?k24 ?k25 ?_)
  (case k1 => k_asm)
  (case k2 => k_asm)
  (case k3 => k_asm)
  (case k4 => k_asm)
  (case k5 => exact hx)
  (case k6 => exact ht)
  (case k7 => exact hne)
  (case k8 => exact hg)
  (case k10 => rfl)
  (case k11 => rfl)
  (case k12 => k_is)
  (case k13 => k_is)
  (case k14 => rfl)
  (case k15 => rfl)
  (case k16 => rfl)
  (case k17 => decide)
  (case k18 => rfl)
  (case k19 => rfl)
  (case k20 => rfl)
  (case k21 => decide)
  (case k22 => rfl)
  (case k23 => k_room)
  (case k9 => exact code_hd (by k_asm))
  (case k24 => (intro Q' E' h9; k_dflt (refine' ld ?f9 ?v9 ?_; (case f9 => k_asm); (case v9 => exact rfl); exact h9)))
  (case k25 => (intro _; rfl))
  intro a9 s9 ps9 ht9 F9 N9 hg9 hos9 G9
  try dsimp only
  k_steps
  k_dflt (refine' join_acc ?j1 ?j2 ?j3 ?j4 ?_)
  (case j1 => exact G9)
  (case j2 => k_asm)
  (case j3 => k_asm)
  (case j4 => k_asm)
  intro s8 t8 hos8 hg8 F8 N8
  try dsimp only
  k_steps
  exact hret s8 ps9 t8 (hos8.trans hos9) hg8 ht9 (by assumption) (by assumption)

theorem acc_str {w : World} {p : Program} {loose : List Str} {mean : ExcName → Option Value} {mg mb : Str → Option Value}
    {dp un : Nat} {gd : Option (List Code)} {cn : Str} {cs : Scope} {a : Addr} {ccd : Value} {cl : List (Str × Addr)} {outer : List Env} {A₀ : Around} {base h₀ : Heap} {L : Addr} {m : Str → Option Value} {news : List (Addr × Obj)} {s : Shared} {x dx : Addr} {n : Nat} {od : Obj} {ps : Array Value}
    {Q E : Value → Shared → Prop} (B : Below A₀ base outer h₀) (F : Fr h₀ L s.heap m) (X : (Look.hd.heap_39 w.params).In h₀) (N : News h₀ L s.heap ((91, tabObj ps) :: news)) (T : Top p loose mean mg mb h₀) (hk : cs.kind = .function)
    (hx : (x, accObj 122 dx #[] n) ∈ news) (hdx : (dx, od) ∈ news) (ht : TriplesOk ps.toList) (hne : ∀ p ∈ news, p.1 ≠ 91) (hg : AllBare s.gens)
    (hd : dp + 20 < recursionLimit) (hu : un + 20 < cLine)
    (hret : ∀ s' ps' t, s'.os = s.os → AllBare s'.gens → TriplesOk ps'.toList → Fr h₀ L s'.heap m → News h₀ L s'.heap ((91, tabObj ps') :: news) → Q (.str "" t) s') :
    wpAny (model PySem.Challenge.rw_xp0002_01.row.prog w) (ktrTop dp un gd cn cs L a ccd cl outer) (call (.type "str") [.ref x]) Q E s := by
  have hu2 : un + 1 + 1 < cLine := by omega
  revert X; k_fill; intro X
  have hs : findIn (Mine.Look.hd.heap_39 w.params) (.ref 122) "__str__" = some (some (.ref 96)) := by k_is
  have hf : isFn (Mine.Look.hd.heap_39 w.params) (.ref 96) = true := by k_is
  exact kso_call (A := ktrTop dp un gd cn cs L a ccd cl outer) hu2 (X.keeps F.keep) (inst_acc N (.tail _ hx) (.tail _ hdx)) hs hf
    (acc_strfn (un := un + 2) B F X N T hk hx ht hne hg hd fun s' ps' t h1 h2 h3 h4 h5 => hret s' ps' t h1 h2 h3 h4 h5)
end Mine
end
section -- L1
open PySem PySem.Spec PySem.Calls PyProof.Rows PySem.W
set_option maxRecDepth 100000
set_option maxHeartbeats 4000000
namespace Mine
theorem quiet_L1 : True := by
  w_top off
  trivial
def TurnPost (h₀ : Heap) (L I : Addr) (oI : Obj) (R : (Str → Option Value) → List (Addr × Obj) → Shared → Prop) (f : Flow) (s₂ : Shared) : Prop :=
  (f = .next ∨ f = .cont) ∧ ∃ m₂ nx₂, Fr h₀ L s₂.heap m₂ ∧ News h₀ L s₂.heap ((I, oI) :: nx₂) ∧ (∀ p ∈ nx₂, p.1 ≠ I) ∧ R m₂ nx₂ s₂
section
variable {prog : Program} {w : World} {A : Around} {s : Shared} {env : Env} {h₀ : Heap}
/-- a for loop by an invariant over the turn's number, the frame's map, a ledger that may grow, and the state's other parts; a turn never raises, breaks or returns -/
theorem for_walk {x : Str} {px : Pos} {body : List Stmt} {I : Addr} {n : Nat} {P : Nat → Value → Prop} {St : Nat → Heap → Prop} {m : Str → Option Value} {nx₀ : List (Addr × Obj)} {Q : Flow → Shared → Prop} {X : Value → Shared → Prop}
    (W : Walks prog w A I [I] [I] n P St) (hStI : ∀ i h, St i h → ∃ o, h.get? I = some o) (hx : env.kindOf x = some .local)
    (hp : (env.scope.kind == .class || (env.scope.kind == .module && env.locals != env.globals)) = false)
    (hL : env.locals ≠ I) (hI0 : h₀.get? I = none) (hst : St 0 s.heap) (F : Fr h₀ env.locals s.heap m) (N : News h₀ env.locals s.heap nx₀) (hn : ∀ p ∈ nx₀, p.1 ≠ I)
    (R : Nat → (Str → Option Value) → List (Addr × Obj) → Shared → Prop) (hRt : ∀ i m nx s h tk, R i m nx s → R i m nx { s with heap := h, toks := tk }) (h0 : R 0 m nx₀ s)
    (turn : ∀ i v m₁ nx s₁ oI, i < n → P i v → R i m₁ nx s₁ → (∀ p ∈ nx, p.1 ≠ I) → Fr h₀ env.locals s₁.heap (fun y => if y = x then some v else m₁ y) → News h₀ env.locals s₁.heap ((I, oI) :: nx) →
      wpAny (model prog w) A (execs body env) (TurnPost h₀ env.locals I oI (R (i + 1))) (fun _ _ => False) s₁)
    (done : ∀ m₁ nx s₁, R n m₁ nx s₁ → Fr h₀ env.locals s₁.heap m₁ → News h₀ env.locals s₁.heap nx → Q .next s₁) :
    codeAny (model prog w) A (.forLoop (.Name x px) (.ref I) body [] env) (fun r s' => match r with | .ok f => Q f s' | .error e => X e s') s := by
  have old : ∀ b o, h₀.get? b = some o → b ≠ I := fun b o e q => by rw [q, hI0] at e; cases e
  refine codeAny_forLoop (fun k s' => ∃ m' nx i, St i s'.heap ∧ Fr h₀ env.locals s'.heap m' ∧ News h₀ env.locals s'.heap nx ∧ (∀ p ∈ nx, p.1 ≠ I) ∧ R i m' nx s' ∧ i ≤ n ∧ k = n + 1 - i) ?_ (n + 1)
    ⟨m, nx₀, 0, hst, F, N, hn, h0, Nat.zero_le _, rfl⟩
  rintro k s' ⟨m', nx, i, hst', F', N', hn', hR, hi, rfl⟩
  have next : ∀ h₁ : Heap, (∀ b o, b ∉ [I] → s'.heap.get? b = some o → h₁.get? b = some o) → Fr h₀ env.locals h₁ m' ∧ News h₀ env.locals h₁ nx := fun h₁ hk₁ =>
    ⟨⟨F'.ns.at' fun o e => hk₁ _ o (fun q => hL (List.mem_singleton.mp q)) e, fun b o e => hk₁ b o (fun q => old b o e (List.mem_singleton.mp q)) (F'.keep b o e), F'.above⟩,
      fun p hp' => ⟨hk₁ _ _ (fun q => hn' p hp' (List.mem_singleton.mp q)) (N' p hp').1, (N' p hp').2⟩⟩
  by_cases hlt : i < n
  · refine W.item i _ _ _ hlt hst' fun v h₁ tk₁ hP hst₁ hk₁ => ?_
    obtain ⟨F₁, N₁⟩ := next h₁ hk₁
    refine wpAny_assign_Name (wpAny_storeName_local hx F₁.ns (fun h₂ hn₂ hs₂ => ?_) hp)
    have F₂ := F₁.set hn₂ hs₂
    obtain ⟨oI, hoI⟩ := hStI _ _ hst₁
    have hoI₂ : h₂.get? I = some oI := (hs₂.2 I (Ne.symm hL)).trans hoI
    have N₂ : News h₀ env.locals h₂ ((I, oI) :: nx) := fun p hp' => by
      rcases List.mem_cons.mp hp' with rfl | hp'
      · exact ⟨hoI₂, Ne.symm hL, hI0⟩
      · exact N₁.set hs₂ p hp'
    refine wpAny_mono (turn i v m' nx _ oI hlt hP (hRt i m' nx s' h₂ (tk₁ + 1) hR) hn' F₂ N₂) (fun f s₃ h₃ => ?_) fun _ _ e => e.elim
    obtain ⟨hf, m₂, nx₂, F₃, N₃, hn₃, hR₃⟩ := h₃
    have hgo : ∃ k', k' < n + 1 - i ∧ ∃ m' nx i, St i s₃.heap ∧ Fr h₀ env.locals s₃.heap m' ∧ News h₀ env.locals s₃.heap nx ∧ (∀ p ∈ nx, p.1 ≠ I) ∧ R i m' nx s₃ ∧ i ≤ n ∧ k' = n + 1 - i := by
      refine ⟨n + 1 - (i + 1), by omega, m₂, nx₂, i + 1, ?_, F₃, fun p hp' => N₃ p (.tail _ hp'), hn₃, hR₃, hlt, rfl⟩
      refine W.frame _ _ _ hst₁ fun b hb o e => ?_
      rw [List.mem_singleton.mp hb] at e ⊢
      rw [hoI] at e
      cases e
      exact (N₃ _ (.head _)).1
    rcases hf with rfl | rfl <;> exact hgo
  · have hin : i = n := by omega
    subst hin
    refine W.done _ _ _ hst' fun h₁ tk₁ hk₁ => wpAny_execs_nil ?_
    obtain ⟨F₁, N₁⟩ := next h₁ hk₁
    exact done _ _ _ (hRt _ m' nx s' h₁ tk₁ hR) F₁ N₁
end
end Mine
end
section -- S2
open PySem PySem.Spec PySem.Calls PyProof.Rows PySem.W
set_option maxRecDepth 100000
set_option maxHeartbeats 8000000
namespace Mine
theorem quiet_S2 : True := by
  w_top off
  trivial
local macro_rules | `(tactic| walk_at "call ref") => `(tactic| (k_here; k_dflt (refine' acc_new ?k1 ?k2 ?k3 ?k4 ?k5 ?kh ?k6 ?_; (case kh => exact rfl); (case k1 => k_asm); (case k2 => k_asm); (case k3 => k_asm); (case k4 => k_asm); (case k5 => k_asm); (case k6 => k_room)); intro x' dx' e' h' tk' F' N' l1 l2 e1; (try dsimp only)))
local macro_rules | `(tactic| walk_at "exec For Name Name cons nil") => `(tactic| (k_here; with_unfolding_all refine wpAny_For ?_))
/-- one octet: the stack (top first), what is laid down, what is taken -/
def stepS (k : Nat) (st : List Nat) (o : Nat) : List Nat × Nat × Nat :=
  if o < 64 then (match st with | [] => ([], 32, 0) | l :: r => (r, l, 0)) else if st.length < k then (o :: st, 32, 1) else (st, o, 0)
def stepA (k : Nat) (a : List Nat × List Nat × Nat) (o : Nat) : List Nat × List Nat × Nat :=
  ((stepS k a.1 o).1, a.2.1 ++ [(stepS k a.1 o).2.1], a.2.2 + (stepS k a.1 o).2.2)
def sweepS (k : Nat) (tape : List Nat) : List Nat × List Nat × Nat := tape.foldl (stepA k) ([], [], 0)
abbrev letterS (o : Nat) : Str := ⟨#[o]⟩
inductive StackIn (led : List (Addr × Obj)) : Array Value → List Nat → Prop
  | nil : StackIn led #[] []
  | push {its : Array Value} {st : List Nat} {tp : Addr} {o : Nat} {t1 t2 : Tok} : StackIn led its st → (tp, ({ cls := .type "tuple", data := .seq #[.str "" t1, .str (letterS o) t2] } : Obj)) ∈ led → 64 ≤ o → o < 256 → StackIn led (its.push (.ref tp)) (o :: st)
theorem StackIn.size {led : List (Addr × Obj)} {its : Array Value} {st : List Nat} (h : StackIn led its st) : its.size = st.length := by
  induction h with
  | nil => rfl
  | push _ _ _ _ ih => simp [ih]
theorem StackIn.mono {led led' : List (Addr × Obj)} {its : Array Value} {st : List Nat} (h : StackIn led its st) (hs : ∀ q ∈ led, q ∈ led') : StackIn led' its st := by
  induction h with
  | nil => exact .nil
  | push _ hm h1 h2 ih => exact .push ih (hs _ hm) h1 h2
def SweepR (b : Array UInt8) (k : Nat) (t2 : Tok) (r x dx : Addr) (e : DictEntry) (led0 : List (Addr × Obj)) (s0 : Shared) (i : Nat) (m : Str → Option Value) (nx : List (Addr × Obj)) (s : Shared) : Prop :=
  ∃ st out tk its n vs nr junk tT, nx = (r, listOf vs nr) :: (x, accObj 122 dx its n) :: (dx, dictOf [e] 1) :: junk ∧ (∀ q ∈ led0, q ∈ junk) ∧ (∀ q ∈ junk, q.1 ≠ r) ∧ (∀ q ∈ junk, q.1 ≠ x) ∧ (∀ q ∈ junk, q.1 ≠ dx) ∧
    StackIn junk its st ∧ st.length ≤ k ∧ IntsAre vs.toList (out.map fun (o : Nat) => (o : Int)) ∧ m "carrier" = some (.ref x) ∧ m "rest" = some (.ref r) ∧ m "taken" = some (.int (tk : Nat) tT) ∧ m "room" = some (.int (k : Int) t2) ∧
    ((b.toList.map UInt8.toNat).take i).foldl (stepA k) ([], [], 0) = (st, out, tk) ∧ s.gens = s0.gens ∧ s.os = s0.os

local macro_rules | `(tactic| walk_at "getMethod ref") => `(tactic| (k_here; k_dflt (refine' method_L ?k1 ?k2 ?k3 ?kx ?kd ?k4 ?k5 ?k6 ?k7 ?k8 ?k9 ?k10 ?_; (case k1 => k_asm); (case k2 => k_asm); (case k3 => k_asm); (case kx => k_mem); (case kd => k_mem); (case k4 => k_is); (case k5 => decide +kernel); (case k6 => k_is); (case k7 => k_is); (case k8 => k_is); (case k9 => decide +kernel); (case k10 => exact accD_shadow (by assumption) (by decide +kernel))); (try dsimp only)))
theorem fr_put {h₀ h : Heap} {L : Addr} {m : Str → Option Value} {y : Str} {v : Value} (F : Fr h₀ L h m) (e : m y = some v) : Fr h₀ L h (fun z => if z = y then some v else m z) := by
  have : m = fun z => if z = y then some v else m z := by
    funext z
    by_cases hz : z = y
    · rw [if_pos hz, hz, e]
    · rw [if_neg hz]
  rw [← this]
  exact F
local macro_rules | `(tactic| k_all) => `(tactic| assumption)
local macro_rules | `(tactic| walk_at "call ref") => `(tactic| (k_here; k_dflt (first
  | (refine' acc_pop_nil ?k1 ?k2 ?k3 ?k4 ?k5 ?kh ?k6 ?k7 ?k8 ?k9 ?_; (case kh => exact rfl); (case k4 => k_asm); (case k7 => k_mem); (case k8 => k_mem); (case k9 => assumption); (case k1 => k_asm); (case k2 => k_asm); (case k3 => k_asm); (case k5 => k_asm); (case k6 => k_room); intro tp' t1' t2' h' tk' l1' F' N'; (try k_lt l1'); (try dsimp only))
  | (refine' acc_pop ?k1 ?k2 ?k3 ?k4 ?k5 ?kh ?k6 ?kz ?kU ?k7 ?k8 ?k9 ?_; (case kh => exact rfl); (case k4 => k_asm); (case k7 => k_mem); (case kU => k_upd); (case k8 => k_mem); (case k9 => assumption); (case k1 => k_asm); (case k2 => k_asm); (case k3 => k_asm); (case k5 => k_asm); (case k6 => k_room); (case kz => omega); intro h' tk' F' N'; (try dsimp only))
  | (refine' acc_count ?k1 ?k2 ?k3 ?k4 ?k5 ?kh ?k6 ?k7 ?k8 ?_; (case kh => exact rfl); (case k4 => k_asm); (case k7 => k_mem); (case k8 => k_mem); (case k1 => k_asm); (case k2 => k_asm); (case k3 => k_asm); (case k5 => k_asm); (case k6 => k_room); intro h' t' tk' F' N'; (try dsimp only))
  | (refine' acc_push ?kz ?kU ?k8 ?k9 ?k1 ?k2 ?k3 ?k4 ?k5 ?kh ?k6 ?_; (case kh => exact rfl); (case k4 => k_asm); (case kU => (intro _; k_upd)); (case k8 => k_mem); (case k9 => assumption); (case k1 => k_asm); (case k2 => k_asm); (case k3 => k_asm); (case k5 => k_asm); (case k6 => k_room); (case kz => omega); intro tp' h' tk' l1' F' N'; (try k_lt l1'); (try dsimp only)))))
theorem foldA_len (k : Nat) : ∀ (l : List Nat) (a : List Nat × List Nat × Nat), (l.foldl (stepA k) a).2.1.length = a.2.1.length + l.length
  | [], _ => rfl
  | o :: l, a => by rw [List.foldl_cons, foldA_len k l]; simp [stepA]; omega
section
variable {prog : Program} {w : World} {A : Around} {E : Value → Shared → Prop} {s : Shared}
theorem truthy_letter {o : Nat} {t : Tok} {Q : Bool → Shared → Prop} (h : Q true { s with toks := s.toks + 1 + 1 }) : wpAny (model prog w) A (truthy (.str (letterS o) t)) Q E s :=
  P.truthy_str (by show ¬ ((1 : Nat) : Int) ≥ 2 ^ 63; decide) h
theorem ord_letter {o : Nat} {t : Tok} {Q : Value → Shared → Prop} (h : Q (.int (o : Nat) s.toks) { s with toks := s.toks + 1 }) : wpAny (model prog w) A (call (.builtin "ord") [.str (letterS o) t]) Q E s := P.ord_of_char h
theorem chr_letter {o : Nat} {t : Tok} {Q : Value → Shared → Prop} (ho : o < 256) (h : Q (.str (letterS o) s.toks) { s with toks := s.toks + 1 }) : wpAny (model prog w) A (call (.builtin "chr") [.int (o : Nat) t]) Q E s := by
  refine chr_of_range (by omega) (by omega) ?_
  rw [Int.toNat_natCast]
  exact h
end
local macro_rules | `(tactic| walk_at "truthy str") => `(tactic| (k_here; refine truthy_letter ?_))
local macro_rules | `(tactic| walk_at "call builtin:ord") => `(tactic| (k_here; refine ord_letter ?_))
local macro_rules | `(tactic| walk_at "call builtin:chr") => `(tactic| (k_here; refine chr_letter (by omega) ?_))
theorem ints_snoc {vs : Array Value} {ns : List Nat} {n : Nat} {t : Tok} (h : IntsAre vs.toList (ns.map fun (o : Nat) => (o : Int))) : IntsAre (vs.push (.int (n : Int) t)).toList ((ns ++ [n]).map fun (o : Nat) => (o : Int)) := by
  rw [Array.toList_push, List.map_append]
  exact h.append (.cons _ _ .nil)
theorem news_sub {h₀ h : Heap} {L : Addr} {l l' : List (Addr × Obj)} (N : News h₀ L h l) (hs : ∀ p ∈ l', p ∈ l) : News h₀ L h l' := fun p hp => N p (hs p hp)
theorem news_mid {h₀ h : Heap} {L : Addr} {a b c d e : Addr × Obj} {l : List (Addr × Obj)} (N : News h₀ L h (a :: b :: c :: d :: e :: l)) : News h₀ L h (a :: b :: l) := news_sub N fun p hp => by
  rcases List.mem_cons.mp hp with rfl | hp
  · exact .head _
  · rcases List.mem_cons.mp hp with rfl | hp
    · exact .tail _ (.head _)
    · exact .tail _ (.tail _ (.tail _ (.tail _ (.tail _ hp))))
theorem sweep_end {b : Array UInt8} {k i o : Nat} {t2 tT : Tok} {rr xx dd I LL : Addr} {oI : Obj} {e : DictEntry} {led0 junk : List (Addr × Obj)} {s0 s' : Shared} {gg : Heap} {m' : Str → Option Value} {st st' out out' : List Nat} {tk tk' n nr : Nat} {its vs : Array Value}
    (F : Fr gg LL s'.heap m') (N : News gg LL s'.heap ((I, oI) :: (rr, listOf vs nr) :: (xx, accObj 122 dd its n) :: (dd, dictOf [e] 1) :: junk))
    (hIr : @Ne Nat I rr) (hIx : @Ne Nat I xx) (hId : @Ne Nat I dd) (hoff : ∀ p ∈ junk, p.1 ≠ I)
    (hled : ∀ q ∈ led0, q ∈ junk) (hjr : ∀ q ∈ junk, q.1 ≠ rr) (hjx : ∀ q ∈ junk, q.1 ≠ xx) (hjd : ∀ q ∈ junk, q.1 ≠ dd)
    (hst : StackIn junk its st') (hcap : st'.length ≤ k) (hints : IntsAre vs.toList (out'.map fun (o : Nat) => (o : Int)))
    (h1 : m' "carrier" = some (.ref xx)) (h2 : m' "rest" = some (.ref rr)) (h3 : m' "taken" = some (.int (tk' : Nat) tT)) (h4 : m' "room" = some (.int (k : Int) t2))
    (hstep : ((b.toList.map UInt8.toNat).take (i + 1)).foldl (stepA k) ([], [], 0) = stepA k (st, out, tk) o) (hs : stepA k (st, out, tk) o = (st', out', tk')) (hg : s'.gens = s0.gens) (ho : s'.os = s0.os) :
    TurnPost gg LL I oI (SweepR b k t2 rr xx dd e led0 s0 (i + 1)) .next s' :=
  ⟨.inl rfl, m', _, F, N, fun p hp => by
    rcases List.mem_cons.mp hp with rfl | hp
    · exact Ne.symm hIr
    · rcases List.mem_cons.mp hp with rfl | hp
      · exact Ne.symm hIx
      · rcases List.mem_cons.mp hp with rfl | hp
        · exact Ne.symm hId
        · exact hoff p hp, ⟨st', out', tk', its, n, vs, nr, junk, tT, rfl, hled, hjr, hjx, hjd, hst, hcap, hints, h1, h2, h3, h4, hstep.trans hs, hg, ho⟩⟩
def oc (l : List Nat) : Array UInt8 := byteArr (l.map fun (o : Nat) => (o : Int))
theorem oc_size (l : List Nat) : (oc l).size = l.length := by simp [oc, byteArr_size]
theorem oc_list {l : List Nat} (h : ∀ o ∈ l, o < 256) : (oc l).toList.map UInt8.toNat = l := by
  unfold oc byteArr
  rw [List.map_map, List.map_map]
  refine (List.map_congr_left (g := _root_.id) fun o ho => ?_).trans (List.map_id _)
  have := h o ho
  show ((o : Int).toNat.toUInt8).toNat = o
  rw [Int.toNat_natCast]
  simp
  omega
theorem bytes_ns {prog : Program} {w : World} {A : Around} {E : Value → Shared → Prop} {s : Shared} {h₀ : Heap} {L r : Addr} {m : Str → Option Value} {news : List (Addr × Obj)} {vs : Array Value} {nr : Nat} {ns : List Nat} {Q : Value → Shared → Prop}
    (F : Fr h₀ L s.heap m) (N : News h₀ L s.heap news) (hr : (r, listOf vs nr) ∈ news) (hi : IntsAre vs.toList (ns.map fun (o : Nat) => (o : Int))) (hb : ∀ o ∈ ns, o < 256) (hn : ns.length ≤ 16777216) (hh : A.handled = none)
    (h : ∀ h' t' k, Fr h₀ L h' m → News h₀ L h' news → Q (.bytes (oc ns) t') { s with heap := h', toks := k }) : wpAny (model prog w) A (call (.type "bytes") [.ref r]) Q E s := by
  refine KBa.make_K (vs := vs.toList) (ns := ns.map fun (o : Nat) => (o : Int)) F N hh ⟨_, (N _ hr).1, rfl, _, rfl⟩ hi (fun n hn => ?_) (by simpa using hn) fun h' t' k F' N' _ => h h' t' k F' N'
  obtain ⟨o, ho, rfl⟩ := List.mem_map.mp hn
  have := hb o ho
  omega
local macro_rules | `(tactic| walk_at "call type:bytes") => `(tactic| (k_here; k_dflt (refine' bytes_ns ?k1 ?k2 ?k3 ?k4 ?k5 ?k6 ?k7 ?_; (case k2 => k_asm); (case k3 => k_mem); (case k4 => assumption); (case k5 => assumption); (case k6 => omega); (case k7 => rfl); (case k1 => k_asm)); intro _ _ _ F' N'; (try dsimp only)))
local macro_rules | `(tactic| walk_at "call type:str") => `(tactic| (k_here; k_dflt (refine' acc_str ?k1 ?k2 ?k3 ?k4 ?k5 ?kh ?k6 ?k7 ?k8 ?k9 ?k10 ?k11 ?k12 ?_; (case kh => exact rfl); (case k4 => k_asm); (case k6 => k_mem); (case k7 => k_mem); (case k8 => assumption); (case k9 => assumption); (case k10 => assumption); (case k1 => k_asm); (case k2 => k_asm); (case k3 => k_asm); (case k5 => k_asm); (case k11 => k_room); (case k12 => k_room)); intro s' ps' t' e1 e2 e3 F' N'; (try dsimp only)))
theorem stepS_lt {k : Nat} {st : List Nat} {o : Nat} (h1 : ∀ x ∈ st, x < 256) (h2 : o < 256) : (∀ x ∈ (stepS k st o).1, x < 256) ∧ (stepS k st o).2.1 < 256 := by
  unfold stepS
  by_cases ho : o < 64
  · rw [if_pos ho]
    cases st with
    | nil => exact ⟨fun _ h => absurd h List.not_mem_nil, by decide⟩
    | cons a r => exact ⟨fun x hx => h1 x (.tail _ hx), h1 a (.head _)⟩
  · rw [if_neg ho]
    by_cases hr : st.length < k
    · rw [if_pos hr]
      refine ⟨fun x hx => ?_, (by show (32 : Nat) < 256; decide)⟩
      rcases List.mem_cons.mp hx with rfl | hx
      · exact h2
      · exact h1 x hx
    · rw [if_neg hr]
      exact ⟨h1, h2⟩
theorem sweep_lt (k : Nat) : ∀ (l : List Nat) (a : List Nat × List Nat × Nat), (∀ o ∈ l, o < 256) → (∀ x ∈ a.1, x < 256) → (∀ x ∈ a.2.1, x < 256) → ∀ x ∈ (l.foldl (stepA k) a).2.1, x < 256
  | [], _, _, _, h => h
  | o :: l, a, hl, h1, h2 => by
    rw [List.foldl_cons]
    have h3 := stepS_lt (k := k) h1 (hl o (.head _))
    refine sweep_lt k l _ (fun x hx => hl x (.tail _ hx)) h3.1 fun x hx => ?_
    rcases List.mem_append.mp hx with hx | hx
    · exact h2 x hx
    · rw [List.mem_singleton.mp hx]
      exact h3.2
theorem sweep_spec {w : World} {p : Program} {loose : List Str} {mean : ExcName → Option Value} {mg mb : Str → Option Value}
    {dp un : Nat} {gd : Option (List Code)} {cn : Str} {cs : Scope} {a : Addr} {ccd : Value} {cl : List (Str × Addr)} {outer : List Env} {A₀ : Around} {base h₀ : Heap} {L : Addr} {m : Str → Option Value} {news : List (Addr × Obj)} {s : Shared} {ps : Array Value} {tape : List Nat} {tb t2 : Tok} {k : Nat}
    {Q E : Value → Shared → Prop} (B : Below A₀ base outer h₀) (F : Fr h₀ L s.heap m) (X : (Look.hd.heap_39 w.params).In h₀) (N : News h₀ L s.heap ((91, tabObj ps) :: news)) (T : Top p loose mean mg mb h₀) (hk : cs.kind = .function)
    (hb : tape.length ≤ 200) (hto : ∀ o ∈ tape, o < 256) (hend : (sweepS k tape).1 = []) (hk4 : k ≤ 4) (ht : TriplesOk ps.toList) (hne : ∀ p ∈ news, p.1 ≠ 91) (hg : AllBare s.gens)
    (hd : dp + 40 < recursionLimit) (hu : un + 40 < cLine)
    (hret : ∀ s' ps' tp t3 t4 t5, s'.os = s.os → AllBare s'.gens → TriplesOk ps'.toList → (∀ p ∈ (91, tabObj ps') :: news, @LT.lt Nat _ p.1 tp) → Fr h₀ L s'.heap m →
      News h₀ L s'.heap ((tp, { cls := .type "tuple", data := .seq #[.bytes (oc (sweepS k tape).2.1) t3, .int ((sweepS k tape).2.2 : Nat) t4, .str "" t5] }) :: (91, tabObj ps') :: news) → Q (.ref tp) s') :
    wpAny (model PySem.Challenge.rw_xp0002_01.row.prog w) (ktrTop dp un gd cn cs L a ccd cl outer) (call (.ref 140) [.bytes (oc tape) tb, .int (k : Int) t2]) Q E s := by
  have hbs := oc_size tape
  have hbl := oc_list hto
  generalize oc tape = b at hbs hbl
  rw [← hbs] at hb
  revert X; k_fill; intro X
  refine wpAny_call ?_
  k_dflt ktr_enter
  k_steps
  rename_i gg LL hq0 FG BB XX TT tka xx dd ee hq1 tkb la lb ek0 hq2 tkc rr hq3 lr hq4 hq5 F1 N1
  have hAcc : AccD [ee] := accD_one ek0
  refine KBw.pyIter_bytes ?_
  dsimp only
  have hI : ∀ p ∈ (rr, listOf #[] 0) :: (xx, accObj 122 dd #[] 0) :: (dd, dictOf [ee] 1) :: (91, tabObj ps) :: news, p.1 < hq5.objs.size := fun p hp => Heap.lt_size (N1 p hp).1
  have hLI : LL < hq5.objs.size := F1.ns.lt
  refine for_walk (KBw.walks rfl _ b tb) (fun i h hi => let ⟨o, ho, _⟩ := hi; ⟨o, ho⟩) rfl rfl (Nat.ne_of_lt hLI) (Heap.get?_none_of_le (Nat.le_trans F1.above (Nat.le_of_lt hLI))) ⟨_, Heap.get?_push_size _ rfl, rfl, rfl⟩ (F1.push _)
    (fun p hp => ⟨Heap.get?_push_of_some _ (N1 p hp).1, (N1 p hp).2⟩) (fun p hp => Nat.ne_of_lt (hI p hp)) (SweepR b k t2 rr xx dd ee ((91, tabObj ps) :: news) s) (fun i m nx s h tk hR => hR) ?h0 ?turn ?done
  case h0 =>
    have hj : ∀ q ∈ (91, tabObj ps) :: news, q.1 < dd := la
    exact ⟨[], [], 0, #[], 0, #[], 0, (91, tabObj ps) :: news, _, rfl, fun q hq => hq, fun q hq => Nat.ne_of_lt (Nat.lt_trans (hj q hq) lr.2.1), fun q hq => Nat.ne_of_lt (Nat.lt_trans (hj q hq) lb), fun q hq => Nat.ne_of_lt (hj q hq), .nil, Nat.zero_le _, .nil, rfl, rfl, rfl, rfl, rfl, rfl, rfl⟩
  case turn =>
    rintro i v m₁ nx s₁ oI hi ⟨c, u, hc, rfl⟩ ⟨st, out, tk1, its, n, vs, nr, junk, tT, rfl, hled, hjr, hjx, hjd, hst, hcap, hints, hm1, hm2, hm3, hm4, hfold, hgens, hos⟩ hnI F2 N2
    replace F2 : Fr gg LL s₁.heap _ := F2
    replace N2 : News gg LL s₁.heap _ := N2
    have hIr : @Ne Nat hq5.objs.size rr := Ne.symm (hnI _ (.head _))
    have hIx : @Ne Nat hq5.objs.size xx := Ne.symm (hnI _ (.tail _ (.head _)))
    have hId : @Ne Nat hq5.objs.size dd := Ne.symm (hnI _ (.tail _ (.tail _ (.head _))))
    have hrx : @LT.lt Nat _ xx rr := lr.1
    have hrd : @LT.lt Nat _ dd rr := lr.2.1
    have hxd : @LT.lt Nat _ dd xx := lb
    have F3 := fr_put (fr_put (fr_put (fr_put F2 (y := PySem.Str.ofString "room") ((if_neg (by decide)).trans hm4)) (y := PySem.Str.ofString "carrier") ((if_neg (by decide)).trans ((if_neg (by decide)).trans hm1)))
      (y := PySem.Str.ofString "rest") ((if_neg (by decide)).trans ((if_neg (by decide)).trans ((if_neg (by decide)).trans hm2)))) (y := PySem.Str.ofString "taken") ((if_neg (by decide)).trans ((if_neg (by decide)).trans ((if_neg (by decide)).trans ((if_neg (by decide)).trans hm3))))
    clear F2
    have hlen := hst.size
    generalize hoo : c.toNat = o at F3
    have hstep : ((b.toList.map UInt8.toNat).take (i + 1)).foldl (stepA k) ([], [], 0) = stepA k (st, out, tk1) o := by
      have e : (b.toList.map UInt8.toNat)[i]? = some o := by simp [hc, hoo]
      rw [List.take_add_one, e, List.foldl_append, hfold]
      rfl
    have hol : out.length = i := by
      have := foldA_len k ((b.toList.map UInt8.toNat).take i) ([], [], 0)
      rw [hfold] at this
      simp at this
      omega
    have hvs : vs.size ≤ sizeLine := by
      have := hints.length
      simp at this
      simp only [sizeLine]
      omega
    have hoff : ∀ p ∈ junk, p.1 ≠ hq5.objs.size := fun p hp => hnI _ (.tail _ (.tail _ (.tail _ hp)))
    have ho256 : o < 256 := by rw [← hoo]; exact c.toNat_lt
    by_cases ho : o < 64
    · cases hst with
      | nil =>
        k_steps
        rename Fr gg LL _ _ => F9
        rename News gg LL _ _ => N9
        exact sweep_end F9 (news_sub N9 fun p hp => .tail _ hp) hIr hIx hId hoff hled hjr hjx hjd .nil (Nat.zero_le _) (ints_snoc hints) rfl rfl rfl rfl hstep (by simp [stepA, stepS, ho]) hgens hos
      | @push its st tp o' t1 t2' hst' hm h1 h2 =>
        have hz : its.size ≤ 999 := by
          have := hst'.size
          simp only [List.length_cons] at hcap
          omega
        k_steps
        rename Fr gg LL _ _ => F9
        rename News gg LL _ _ => N9
        simp only [List.length_cons] at hcap
        exact sweep_end F9 N9 hIr hIx hId hoff hled hjr hjx hjd hst' (by omega) (ints_snoc hints) rfl rfl rfl rfl hstep (by simp [stepA, stepS, ho]) hgens hos
    · have hz : its.size ≤ 999 := by
        have := hst.size
        omega
      have hcnt : (its.size : Int) = (st.length : Int) := by rw [hst.size]
      by_cases hroom : st.length < k
      · k_steps
        rename Fr gg LL _ _ => F9
        rename News gg LL _ _ => N9
        rename hq5.objs.size < _ ∧ _ => l9
        exact sweep_end F9 (news_sub N9 fun p hp => by
          rcases List.mem_cons.mp hp with rfl | hp
          · exact .tail _ (.head _)
          · rcases List.mem_cons.mp hp with rfl | hp
            · exact .tail _ (.tail _ (.head _))
            · rcases List.mem_cons.mp hp with rfl | hp
              · exact .tail _ (.tail _ (.tail _ (.head _)))
              · rcases List.mem_cons.mp hp with rfl | hp
                · exact .tail _ (.tail _ (.tail _ (.tail _ (.head _))))
                · rcases List.mem_cons.mp hp with rfl | hp
                  · exact .head _
                  · exact .tail _ (.tail _ (.tail _ (.tail _ (.tail _ hp))))) hIr hIx hId
          (fun p hp => by rcases List.mem_cons.mp hp with rfl | hp; exact Nat.ne_of_gt l9.1; exact hoff p hp) (fun q hq => .tail _ (hled q hq))
          (fun p hp => by rcases List.mem_cons.mp hp with rfl | hp; exact Nat.ne_of_gt l9.2.1; exact hjr p hp) (fun p hp => by rcases List.mem_cons.mp hp with rfl | hp; exact Nat.ne_of_gt l9.2.2.1; exact hjx p hp)
          (fun p hp => by rcases List.mem_cons.mp hp with rfl | hp; exact Nat.ne_of_gt l9.2.2.2.1; exact hjd p hp) (.push (hst.mono fun q hq => .tail _ hq) (.head _) (by omega) ho256) (by simp only [List.length_cons]; omega) (ints_snoc (n := 32) hints) rfl rfl rfl rfl hstep (by simp [stepA, stepS, ho, hroom]) hgens hos
      · k_steps
        rename Fr gg LL _ _ => F9
        rename News gg LL _ _ => N9
        exact sweep_end F9 N9 hIr hIx hId hoff hled hjr hjx hjd hst hcap (ints_snoc hints) rfl rfl rfl rfl hstep (by simp [stepA, stepS, ho, hroom]) hgens hos
  case done =>
    rintro m₁ nx s₁ ⟨st, out, tk1, its, n, vs, nr, junk, tT, rfl, hled, hjr, hjx, hjd, hst, hcap, hints, hm1, hm2, hm3, hm4, hfold, hgens, hos⟩ F2 N2
    replace F2 : Fr gg LL s₁.heap _ := F2
    replace N2 : News gg LL s₁.heap _ := N2
    have F3 := fr_put (fr_put (fr_put F2 (y := PySem.Str.ofString "carrier") hm1) (y := PySem.Str.ofString "rest") ((if_neg (by decide)).trans hm2)) (y := PySem.Str.ofString "taken") ((if_neg (by decide)).trans ((if_neg (by decide)).trans hm3))
    clear F2
    have hall : sweepS k tape = (st, out, tk1) := by
      rw [← hfold, ← hbl]
      unfold sweepS
      congr 1
      rw [List.take_of_length_le]
      simp
    rw [hall] at hend
    dsimp only at hend
    subst hend
    cases hst
    have hobs : ∀ x ∈ out, x < 256 := by
      have := sweep_lt k tape ([], [], 0) hto (fun _ h => absurd h List.not_mem_nil) (fun _ h => absurd h List.not_mem_nil)
      have e : tape.foldl (stepA k) ([], [], 0) = ([], out, tk1) := hall
      rw [e] at this
      exact this
    have houtl : out.length ≤ 200 := by
      have := foldA_len k tape ([], [], 0)
      have e : tape.foldl (stepA k) ([], [], 0) = ([], out, tk1) := hall
      rw [e] at this
      simp at this
      omega
    have hjl : ∀ q ∈ (91, tabObj ps) :: news, q.1 < dd := la
    have h91 : @LT.lt Nat _ 91 dd := la _ (.head _)
    have hrx : @LT.lt Nat _ xx rr := lr.1
    have hrd : @LT.lt Nat _ dd rr := lr.2.1
    have hxd : @LT.lt Nat _ dd xx := lb
    have hg1 : AllBare s₁.gens := by rw [hgens]; exact hg
    have N3 : News gg LL s₁.heap ((91, tabObj ps) :: (rr, listOf vs nr) :: (xx, accObj 122 dd #[] n) :: (dd, dictOf [ee] 1) :: news) := news_sub N2 fun p hp => by
      rcases List.mem_cons.mp hp with rfl | hp
      · exact .tail _ (.tail _ (.tail _ (hled _ (.head _))))
      · rcases List.mem_cons.mp hp with rfl | hp
        · exact .head _
        · rcases List.mem_cons.mp hp with rfl | hp
          · exact .tail _ (.head _)
          · rcases List.mem_cons.mp hp with rfl | hp
            · exact .tail _ (.tail _ (.head _))
            · exact .tail _ (.tail _ (.tail _ (hled _ (.tail _ hp))))
    clear N2
    have hn3 : ∀ p ∈ (rr, listOf vs nr) :: (xx, accObj 122 dd #[] n) :: (dd, dictOf [ee] 1) :: news, p.1 ≠ 91 := fun p hp => by
      rcases List.mem_cons.mp hp with rfl | hp
      · exact Nat.ne_of_gt (Nat.lt_trans h91 hrd)
      · rcases List.mem_cons.mp hp with rfl | hp
        · exact Nat.ne_of_gt (Nat.lt_trans h91 hxd)
        · rcases List.mem_cons.mp hp with rfl | hp
          · exact Nat.ne_of_gt h91
          · exact hne p hp
    rw [hall] at hret
    dsimp only at hret
    dsimp only
    k_steps
    rename _ ∧ _ ∧ _ ∧ _ ∧ AllLt _ _ => l9
    rename Fr h₀ L _ _ => F9
    rename News h₀ L _ _ => N9
    exact hret _ _ _ _ _ _ ((by assumption : (_ : Shared).os = _).trans hos) (by assumption) (by assumption) (fun p hp => (List.mem_cons.mp hp).elim (fun e => by rw [e]; exact l9.1) fun hp => Nat.lt_trans (hjl p (.tail _ hp)) l9.2.2.2.1) F9 (news_mid N9)
end Mine
end
section -- E1
open PySem PySem.Spec PySem.Calls PyProof.Rows PySem.W
set_option maxRecDepth 100000
set_option maxHeartbeats 8000000
namespace Mine
theorem quiet_E1 : True := by
  w_top off
  trivial
def subL (c : Nat) (z l : List Nat) : List Nat := l.flatMap fun k => if k = c then z else [k]
theorem subL_append (c : Nat) (z a b : List Nat) : subL c z (a ++ b) = subL c z a ++ subL c z b := by simp [subL]
theorem subL_free (c : Nat) (z : List Nat) : ∀ l : List Nat, c ∉ l → subL c z l = l
  | [], _ => rfl
  | k :: r, h => by
    have h1 : ¬ k = c := fun e => h (e ▸ List.mem_cons_self ..)
    have h2 : c ∉ r := fun m => h (List.mem_cons_of_mem _ m)
    have ih := subL_free c z r h2
    unfold subL at ih ⊢
    rw [List.flatMap_cons, if_neg h1, ih]
    rfl
theorem subL_join (c : Nat) (z : Str) : ∀ parts : List Str, (∀ p ∈ parts, c ∉ p.cps.toList) → subL c z.cps.toList (Str.join ⟨#[c]⟩ parts).cps.toList = (Str.join z parts).cps.toList
  | [], _ => rfl
  | [p], h => subL_free c _ _ (h p (List.mem_singleton.mpr rfl))
  | p :: q :: r, h => by
    have ih := subL_join c z (q :: r) fun a ha => h a (List.mem_cons_of_mem _ ha)
    show subL c _ (p ++ ⟨#[c]⟩ ++ Str.join ⟨#[c]⟩ (q :: r)).cps.toList = (p ++ z ++ Str.join z (q :: r)).cps.toList
    simp only [Str.cps_append, Array.toList_append]
    rw [subL_append, subL_append, ih, subL_free c _ _ (h p (List.mem_cons_self ..))]
    show p.cps.toList ++ subL c _ [c] ++ _ = _
    simp [subL]
theorem replace_subL (x z : Str) (c : Nat) : (Txt.replace x ⟨#[c]⟩ z).cps.toList = subL c z.cps.toList x.cps.toList := by
  rw [StrLaws.replace_one, ← subL_join c z _ (StrLaws.split_free x c), StrLaws.join_split]
theorem subL_len (c : Nat) (z : List Nat) (hz : z.length ≤ 5) : ∀ l : List Nat, (subL c z l).length ≤ 5 * l.length
  | [] => Nat.le_refl _
  | k :: r => by
    have ih := subL_len c z hz r
    unfold subL at ih ⊢
    rw [List.flatMap_cons, List.length_append, List.length_cons]
    by_cases h : k = c
    · rw [if_pos h]; omega
    · rw [if_neg h]; simp only [List.length_cons, List.length_nil]; omega
theorem subL_none {x : Str} {c : Nat} {z : List Nat} (h : (Builtin.Str.occurrences x ⟨#[c]⟩ 0 x.length 1).isEmpty = true) : subL c z x.cps.toList = x.cps.toList := by
  have := StrLaws.found_one x c
  rw [h] at this
  exact subL_free _ _ _ (by simpa using this)
section
variable {prog : Program} {w : World} {A : Around} {E : Value → Shared → Prop} {s : Shared} {x y z : Str} {t u v : Tok} {Q : Value → Shared → Prop}
theorem replace_K {c : Nat} (hy : y = ⟨#[c]⟩) (hu : u ≠ 0) (hv : v ≠ 0) (huv : u ≠ v) (hyz : (y == z) = false) (hx : x.length ≤ 100000) (hz : z.cps.toList.length ≤ 5)
    (hq : ∀ t' k x', x'.cps.toList = subL c z.cps.toList x.cps.toList → x'.length ≤ 5 * x.length → Q (.str x' t') { s with toks := k }) : wpAny (model prog w) A (call (.builtin "str.replace") [.str x t, .str y u, .str z v]) Q E s := by
  refine SC.replaceW hu hv huv hyz (by omega) (by have : z.length = z.cps.toList.length := rfl; omega) fun t' k => hq t' k _ (by rw [hy]; exact replace_subL x z c) ?_
  show (Txt.replace x y z).cps.toList.length ≤ 5 * x.cps.toList.length
  rw [hy, replace_subL]
  exact subL_len c _ hz _
theorem toks_gen {α : Type} {M : Model} {t : Sem α} {Q : α → Shared → Prop} {E : Value → Shared → Prop} {hp : Heap} {g : Array GenState} {d : Drawn} {o : OsState} {k : Nat} (h : ∀ tk, @Ne Tok tk 0 → wpAny M A t Q E ⟨hp, g, d, tk, o⟩) : wpAny M A t Q E ⟨hp, g, d, k + 1, o⟩ := h _ (Nat.succ_ne_zero k)
end
def escL (l : List Nat) : List Nat := subL 13 [38, 35, 120, 68, 59] (subL 62 [38, 103, 116, 59] (subL 60 [38, 108, 116, 59] (subL 38 [38, 97, 109, 112, 59] l)))
local macro_rules | `(tactic| walk_at "execs cons") => `(tactic| (k_here; (with_reducible show wpAny _ _ _ _ _ (Shared.mk _ _ _ (_ + 1) _)); refine toks_gen ?_; intro tk9 htk9))
local macro_rules | `(tactic| walk_at "call builtin:str.replace") => `(tactic| (k_here; k_dflt (first
  | (refine' replace_K (c := 13) ?k1 ?k2 ?k3 ?k4 ?k5 ?k6 ?k7 ?_; (case k1 => exact rfl); (case k2 => assumption); (case k3 => exact Nat.succ_ne_zero _); (case k4 => exact Nat.ne_of_lt (Nat.lt_succ_self _)); (case k5 => decide); (case k6 => omega); (case k7 => decide); intro t9 k9 x9 e9 l9; (try dsimp only))
  | (refine' replace_K (c := 62) ?k1 ?k2 ?k3 ?k4 ?k5 ?k6 ?k7 ?_; (case k1 => exact rfl); (case k2 => assumption); (case k3 => exact Nat.succ_ne_zero _); (case k4 => exact Nat.ne_of_lt (Nat.lt_succ_self _)); (case k5 => decide); (case k6 => omega); (case k7 => decide); intro t9 k9 x9 e9 l9; (try dsimp only))
  | (refine' replace_K (c := 60) ?k1 ?k2 ?k3 ?k4 ?k5 ?k6 ?k7 ?_; (case k1 => exact rfl); (case k2 => assumption); (case k3 => exact Nat.succ_ne_zero _); (case k4 => exact Nat.ne_of_lt (Nat.lt_succ_self _)); (case k5 => decide); (case k6 => omega); (case k7 => decide); intro t9 k9 x9 e9 l9; (try dsimp only))
  | (refine' replace_K (c := 38) ?k1 ?k2 ?k3 ?k4 ?k5 ?k6 ?k7 ?_; (case k1 => exact rfl); (case k2 => assumption); (case k3 => exact Nat.succ_ne_zero _); (case k4 => exact Nat.ne_of_lt (Nat.lt_succ_self _)); (case k5 => decide); (case k6 => omega); (case k7 => decide); intro t9 k9 x9 e9 l9; (try dsimp only)))))
theorem escape_spec {w : World} {p : Program} {loose : List Str} {mean : ExcName → Option Value} {mg mb : Str → Option Value}
    {dp un : Nat} {gd : Option (List Code)} {cn : Str} {cs : Scope} {a : Addr} {ccd : Value} {cl : List (Str × Addr)} {outer : List Env} {A₀ : Around} {base h₀ : Heap} {L : Addr} {m : Str → Option Value} {news : List (Addr × Obj)} {s : Shared} {x : Str} {t : Tok}
    {Q E : Value → Shared → Prop} (B : Below A₀ base outer h₀) (F : Fr h₀ L s.heap m) (X : (Look.hd.heap_39 w.params).In h₀) (N : News h₀ L s.heap news) (T : Top p loose mean mg mb h₀) (hk : cs.kind = .function)
    (hd : dp + 20 < recursionLimit) (hu : un + 20 < cLine) (hx : x.length ≤ 100)
    (hret : ∀ r t' h' tk', r.cps.toList = escL x.cps.toList → Fr h₀ L h' m → News h₀ L h' news → Q (.str r t') { s with heap := h', toks := tk' }) :
    wpAny (model PySem.Challenge.rw_xp0002_01.row.prog w) (ktrTop dp un gd cn cs L a ccd cl outer) (call (.ref 35) [.str x t]) Q E s := by
  revert X; k_fill; intro X
  refine wpAny_call ?_
  k_dflt ktr_enter
  k_steps
  all_goals (rename Fr h₀ L _ _ => F9; rename News h₀ L _ _ => N9)
  all_goals refine hret _ _ _ _ ?_ F9 N9
  all_goals show _ = subL 13 (PySem.Str.ofString "&#xD;").cps.toList (subL 62 (PySem.Str.ofString "&gt;").cps.toList (subL 60 (PySem.Str.ofString "&lt;").cps.toList (subL 38 (PySem.Str.ofString "&amp;").cps.toList x.cps.toList)))
  all_goals ((first | rw [subL_none (c := 38) (by assumption)] | rw [← (by assumption : _ = subL 38 _ _)]); (first | rw [subL_none (c := 60) (by assumption)] | rw [← (by assumption : _ = subL 60 _ _)]); (first | rw [subL_none (c := 62) (by assumption)] | rw [← (by assumption : _ = subL 62 _ _)]); first | rw [subL_none (c := 13) (by assumption)] | exact (by assumption : _ = subL 13 _ _))
end Mine
end
section -- V0
open PySem PySem.Spec PySem.Calls PyProof.Rows PySem.W
set_option maxRecDepth 100000
set_option maxHeartbeats 4000000
namespace Mine
theorem quiet_V0 : True := by
  w_top off
  trivial
def ByIter (o : Obj) (b : Array UInt8) (t : Tok) (i : Nat) : Prop := o.cls = .type "bytes_iterator" ∧ o.data = .fields #[.bytes b t, .int i 0]
section
variable {prog : Program} {w : World} {A : Around} {E : Value → Shared → Prop} {s : Shared} {h₀ : Heap} {L it : Addr} {m : Str → Option Value} {news : List (Addr × Obj)} {g : Obj → List (Addr × Obj)} {io : Obj} {b : Array UInt8} {t : Tok} {i : Nat}
theorem iter_by {Q : Value → Shared → Prop} (F : Fr h₀ L s.heap m) (N : News h₀ L s.heap news)
    (h : ∀ (I : Addr) h' oI, Fr h₀ L h' m → News h₀ L h' ((I, oI) :: news) → (∀ p ∈ news, p.1 < I) → ByIter oI b t 0 → Q (.ref I) { s with heap := h' }) :
    wpAny (model prog w) A (call (.builtin "iter") [.bytes b t]) Q E s := by
  refine call_function_entry (by decide +kernel) (by decide +kernel) kdk_entry_iter (kdk_args_iter _) ?_
  unfold Builtin.«iter»
  refine wpAny_bind (m := someArgs "iter" 1 2 _) (wpAny_of_eq (a := [Value.bytes b t]) (by first | rfl | kernel_rfl!) ?_)
  show wpAny _ _ (pyIter (.bytes b t) >>= _) _ _ _
  refine wpAny_bind (KBw.pyIter_bytes ?_)
  exact wpAny_pure ⟨_, rfl, h _ _ _ (F.push _) (News.push F N _ rfl) (fun q hq => Heap.lt_size (N q hq).1) ⟨rfl, rfl⟩⟩
theorem by_special {c : UInt8} {Q : Option Value → Shared → Prop} (hit : KBw.IsBytesIter s.heap it b t i) (hx : b[i]? = some c)
    (hQ : ∀ h', KBw.IsBytesIter h' it b t (i + 1) → Heap.SameBut it s.heap h' → Q (some (.int (c.toNat : Int) s.toks)) { s with heap := h', toks := s.toks + 1 }) : wpAny (model prog w) A (callSpecial? (.ref it) (Str.ofString "__next__")) Q E s := by
  obtain ⟨o, ho, hc, hd⟩ := id hit
  refine wpAny_callSpecial?_slot (name := PySem.Str.ofString "__next__") (KBw.iter_typeIs hit) KBw.slot_next
    (wpAny_call_entry KBw.slot_next (KBw.iter_typeIs hit) KBw.entry_next ?_ (KBw.args_next _))
  show wpAny _ _ (field (.ref it) 0 >>= _) _ _ s
  refine wpAny_bind (wpAny_field ho hd (x := .bytes b t) rfl ?_)
  show wpAny _ _ (if (Value.bytes b t == Value.none) = true then _ else _) _ _ s
  rw [if_neg (show ¬ ((Value.bytes b t == Value.none) = true) from Bool.false_ne_true)]
  show wpAny _ _ (field (.ref it) 1 >>= _) _ _ s
  refine wpAny_bind (wpAny_field ho hd (x := .int i 0) rfl ?_)
  refine wpAny_bind (wpAny_of_eq (a := b) rfl ?_)
  simp only [Int.toNat_natCast, hx]
  refine wpAny_bind (wpAny_setField ho hd (by simp) (wpAny_bind (wpAny_mkInt (wpAny_pure ⟨_, rfl, hQ _ ?_ (Heap.SameBut.update ..)⟩))))
  exact ⟨_, Heap.get?_update_self _ ho (Obj.isFreed_of_fields (Obj.data_mapFields hd _)), (Obj.cls_mapFields ..).trans hc, by
    rw [Obj.data_mapFields hd]; simp [rawInt]⟩
theorem next_by {c : UInt8} {Q : Value → Shared → Prop} (F : Fr h₀ L s.heap m) (N : News h₀ L s.heap news) (U : UpdF it io news g) (hi : ByIter io b t i) (hx : b[i]? = some c)
    (h : ∀ h' o', Fr h₀ L h' m → News h₀ L h' (g o') → ByIter o' b t (i + 1) → Q (.int (c.toNat : Int) s.toks) { s with heap := h', toks := s.toks + 1 }) :
    wpAny (model prog w) A (call (.builtin "next") [.ref it]) Q E s := by
  obtain ⟨pre, post, hl, hg, a, bb⟩ := U.split
  have hmem : (it, io) ∈ news := by rw [hl]; exact List.mem_append_right _ (.head _)
  have hm := N (it, io) hmem
  have hit : KBw.IsBytesIter s.heap it b t i := ⟨_, hm.1, hi.1, hi.2⟩
  refine call_function_entry (by decide +kernel) (by decide +kernel) kdk_entry_next (kdk_args_next _) ?_
  unfold Builtin.«next»
  refine wpAny_bind (m := someArgs "next" 1 2 _) (wpAny_of_eq (a := [Value.ref it]) (by first | rfl | kernel_rfl!) ?_)
  dsimp only
  refine wpAny_bind (wpAny_specialOf (name := Str.ofString "__next__") (KBw.iter_typeIs hit) KBw.slot_next.lookup ?_)
  refine wpAny_ite_split (fun hab => absurd hab (by decide)) (fun _ => ?_)
  refine wpAny_bind (by_special hit hx fun h' hit' hs => ?_)
  obtain ⟨o', ho', hc', hd'⟩ := hit'
  exact wpAny_pure ⟨_, rfl, h h' o' (F.change hs hm.2.1 hm.2.2) (hg o' ▸ (show News h₀ L s.heap (pre ++ (it, io) :: post) from hl ▸ N).setIn a bb hs ho') ⟨hc', hd'⟩⟩
theorem next_stop {Q : Value → Shared → Prop} (hh : A.handled = none) (F : Fr h₀ L s.heap m) (N : News h₀ L s.heap news) (U : UpdF it io news g) (hi : ByIter io b t i) (hx : b[i]? = none)
    (h : ∀ h' o' h'' e, Fr h₀ L h' m → News h₀ L h' (g o') → Heap.MadeExcOf h' h'' e (.type "StopIteration") [] → E (.ref e) { s with heap := h'' }) :
    wpAny (model prog w) A (call (.builtin "next") [.ref it]) Q E s := by
  obtain ⟨pre, post, hl, hg, a, bb⟩ := U.split
  have hmem : (it, io) ∈ news := by rw [hl]; exact List.mem_append_right _ (.head _)
  have hm := N (it, io) hmem
  have hit : KBw.IsBytesIter s.heap it b t i := ⟨_, hm.1, hi.1, hi.2⟩
  obtain ⟨o, ho, hc, hd⟩ := id hit
  refine call_function_entry (by decide +kernel) (by decide +kernel) kdk_entry_next (kdk_args_next _) ?_
  unfold Builtin.«next»
  refine wpAny_bind (m := someArgs "next" 1 2 _) (wpAny_of_eq (a := [Value.ref it]) (by first | rfl | kernel_rfl!) ?_)
  dsimp only
  refine wpAny_bind (wpAny_specialOf (name := Str.ofString "__next__") (KBw.iter_typeIs hit) KBw.slot_next.lookup ?_)
  refine wpAny_ite_split (fun hab => absurd hab (by decide)) (fun _ => ?_)
  refine wpAny_bind (wpAny_callSpecial?_slot (name := PySem.Str.ofString "__next__") (KBw.iter_typeIs hit) KBw.slot_next
    (wpAny_call_entry KBw.slot_next (KBw.iter_typeIs hit) KBw.entry_next ?_ (KBw.args_next _)))
  show wpAny _ _ (field (.ref it) 0 >>= _) _ _ s
  refine wpAny_bind (wpAny_field ho hd (x := .bytes b t) rfl ?_)
  show wpAny _ _ (if (Value.bytes b t == Value.none) = true then _ else _) _ _ s
  rw [if_neg (show ¬ ((Value.bytes b t == Value.none) = true) from Bool.false_ne_true)]
  show wpAny _ _ (field (.ref it) 1 >>= _) _ _ s
  refine wpAny_bind (wpAny_field ho hd (x := .int i 0) rfl ?_)
  refine wpAny_bind (wpAny_of_eq (a := b) rfl ?_)
  simp only [Int.toNat_natCast, hx]
  refine wpAny_bind (wpAny_rule (wpAny_bind (wpAny_setField ho hd (by simp) ?_)))
  have hs : Heap.SameBut it s.heap (s.heap.update it (Obj.mapFields (·.setIfInBounds 0 .none))) := Heap.SameBut.update ..
  have hit' := Heap.get?_update_self (Obj.mapFields (·.setIfInBounds 0 .none)) ho (Obj.isFreed_of_fields (Obj.data_mapFields hd _))
  have F' := F.change hs hm.2.1 hm.2.2
  have N' := hg _ ▸ (show News h₀ L s.heap (pre ++ (it, io) :: post) from hl ▸ N).setIn a bb hs hit'
  revert F' N'
  generalize s.heap.update it (Obj.mapFields (·.setIfInBounds 0 .none)) = hp
  intro F' N'
  show wpAny _ _ (newExc (.type "StopIteration") [] >>= _) _ _ _
  refine wpAny_bind ?_
  simp only [newExc, newTuple]
  refine wpAny_bind (wpAny_newObj_type ?_ (by size_fits))
  refine wpAny_bind (m := firstArgMember _ _) (wpAny_of_eq (a := Value.none) (by first | rfl | (simp only [firstArgMember]; rfl)) ?_)
  refine wpAny_newObj_type ?_ (by size_fits)
  simp only [raiseNew]
  refine wpAny_bind (wpAny_handled ?_)
  rw [show A.in1.handled = none from hh]
  refine wpAny_bind (wpAny_pure (wpAny_throw ?_))
  refine h hp _ _ _ F' N' ⟨fun c o e => Heap.get?_push_of_some _ (Heap.get?_push_of_some _ e), Heap.get?_none_of_le (by rw [Heap.size_push]; exact Nat.le_succ _), hp.objs.size, ?_, Heap.get?_none_of_le (Nat.le_refl _), ?_⟩
  · exact Heap.get?_push_size _ rfl
  · exact Heap.get?_push_of_some _ (Heap.get?_push_size _ rfl)
end
def WTurn (h₀ : Heap) (L : Addr) (R : Nat → (Str → Option Value) → List (Addr × Obj) → Shared → Prop) (Q : Flow → Shared → Prop) (k : Nat) (f : Flow) (s : Shared) : Prop :=
  match f with
  | .next | .cont => ∃ k', k' < k ∧ ∃ m nx, Fr h₀ L s.heap m ∧ News h₀ L s.heap nx ∧ R k' m nx s
  | .brk => Q .next s
  | .ret v => Q (.ret v) s
section
variable {prog : Program} {w : World} {A : Around} {s : Shared} {env : Env} {h₀ : Heap} {test : PySem.Expr} {body : List Stmt} {m : Str → Option Value} {nx₀ : List (Addr × Obj)} {Q : Flow → Shared → Prop} {X : Value → Shared → Prop}
/-- a while loop by an invariant over a falling number, the frame's map, a ledger, and the state's other parts; a turn never raises -/
theorem while_walk (R : Nat → (Str → Option Value) → List (Addr × Obj) → Shared → Prop) (k₀ : Nat) (F : Fr h₀ env.locals s.heap m) (N : News h₀ env.locals s.heap nx₀) (h0 : R k₀ m nx₀ s)
    (turn : ∀ k m₁ nx s₁, R k m₁ nx s₁ → Fr h₀ env.locals s₁.heap m₁ → News h₀ env.locals s₁.heap nx →
      wpAny (model prog w) A (isTrue test env (eval test env)) (fun b s₂ => WhlIf b (wpAny (model prog w) A (execs body env) (WTurn h₀ env.locals R Q k) (fun _ _ => False) s₂) (Q .next s₂)) (fun _ _ => False) s₁) :
    codeAny (model prog w) A (.whileLoop test body [] env) (fun r s' => match r with | .ok f => Q f s' | .error e => X e s') s := by
  refine codeAny_whileLoop (fun k s' => ∃ m nx, Fr h₀ env.locals s'.heap m ∧ News h₀ env.locals s'.heap nx ∧ R k m nx s') ?_ k₀ ⟨m, nx₀, F, N, h0⟩
  rintro k s' ⟨m', nx, F', N', hR⟩
  refine wpAny_mono (turn k m' nx s' hR F' N') (fun b s₂ h₂ => ?_) fun _ _ e => e.elim
  cases b with
  | false =>
    have h₃ : Q .next s₂ := by
      unfold WhlIf at h₂
      rw [if_neg Bool.false_ne_true] at h₂
      exact h₂
    simp only [Bool.false_eq_true, if_false]
    exact wpAny_execs_nil h₃
  | true =>
    unfold WhlIf at h₂
    rw [if_pos rfl] at h₂
    simp only [if_true]
    refine wpAny_mono h₂ (fun f s₃ h₄ => ?_) fun _ _ e => e.elim
    cases f with
    | next => exact h₄
    | cont => exact h₄
    | brk => exact h₄
    | ret v => exact h₄
end
section
variable {prog : Program} {w : World} {A₀ A : Around} {s : Shared} {base h₀ : Heap} {env : Env} {L : Addr} {m : Str → Option Value} {news : List (Addr × Obj)} {K : Frag} {p : Program} {loose : List Str} {mean : ExcName → Option Value} {mg mb : Str → Option Value}
    {R : Result → Shared → Prop} {name qual : Str} {params : Arguments} {body : List Stmt} {scope : Scope} {dV kV doc pm cdv ct oc : Value} {an od : Option Addr} {osl : Array (Option Value)} {f : Addr} {args : Args} {binds : List (Str × Value)}
theorem code_defX0 (B : Below A₀ base [] h₀) (F : Fr h₀ L s.heap m) (X₀ : K.In h₀) (N : News h₀ L s.heap news) (T : Top p loose mean mg mb h₀) (hA : A.frames = some [env]) (hf : env.frame = some L) (hke : env.scope.kind = .function)
    (ho : K.lookup f = some ⟨oc, od, .func (fnOf name qual params body scope dV kV doc pm an cdv ct), osl⟩) (hcd : codeIn K cdv qual = true) (hroom : A.depth < recursionLimit)
    (hbind : BindsTo s (fnOf name qual params body scope dV kV doc pm an cdv ct) args binds) (hloc : ∀ y ∈ binds, scope.names.lookup y.1 = some .local)
    (h : ∀ g L' h₁, Fr h₀ L g m → Fr g L' h₁ (fun y => binds.reverse.lookup y) → News g L' h₁ news → Below A base [env] g → K.In g → Top p loose mean mg mb g → KtsDicts ([env].filterMap (·.frame)) g →
      wpAny (model prog w) (A.deeper (envOf qual scope L' f cdv)) (execs body (envOf qual scope L' f cdv))
        (fun fl s' => LeaveS0 ([env].filterMap (·.frame)) h₀ L m g R (match fl with | .ret v => v | _ => .none) s')
        (fun e s' => wpAny (model prog w) (A.deeper (envOf qual scope L' f cdv)) (leaving (envOf qual scope L' f cdv) e) (fun _ s'' => R (.error e) s'') (fun e' s'' => R (.error e') s'') s')
        { s with heap := h₁, toks := s.toks + binds.length })
    (hco : scope.isCoroutine = false) (hgen : scope.isGenerator = false) (hk : scope.kind = .function)
    (hcell : ∀ x ∈ scope.names, x.2 ≠ .cell) : codeAny (model prog w) A (.call (.ref f) args) R s := by
  have X := X₀.keeps F.keep
  have mem : ∀ b, b ∈ [env].filterMap (·.frame) → b = L := fun b hb => by
    obtain ⟨env', he, hfe⟩ := List.mem_filterMap.mp hb
    rw [List.mem_singleton.mp he] at hfe
    exact (Option.some.inj (hf.symm.trans hfe)).symm
  refine codeAny_call_def (fd := fnOf name qual params body scope dV kV doc pm an cdv ct) (body := body) (binds := binds) hroom (X _ _ ho) rfl (T.nolimit.keeps F.keep) (codeRec_of X hcd) rfl hbind hcell hloc (fun h₁ hns hk₁ => ?_) hco hgen hk
  obtain ⟨FG, B₂, st, _⟩ := groundX (R := R) B F N hA hf hke
  obtain ⟨oL, es, ep, hLg, hLd, hLk, hLf⟩ := id FG.ns
  refine wpAny_mono (h _ s.heap.objs.size h₁ FG ⟨hns, fun b o e => hk₁ b o (of_hideAll _ e), Nat.le_of_eq (hideAll_size _ _)⟩
    (fun p hp => ⟨hk₁ _ _ (N p hp).1, Nat.ne_of_lt (Heap.lt_size (N p hp).1), hideAll_none _ (List.mem_map_of_mem hp)⟩) B₂ (X₀.keeps st) (T.keeps st) (fun b hb => by
      rw [mem b hb]
      exact ⟨oL, es, ep, hLg, hLd⟩)) (fun fl s' hl => ?_) fun _ _ y => y
  obtain ⟨g', L', m', news', T', F', N', k⟩ := hl
  have nL₀ : h₀.get? L = none := kts_self F
  obtain ⟨sl, hs⟩ := T'.up hLg
  refine k ⟨⟨_, es, ep, F'.keep _ _ hs, hLd, hLk, hLf⟩, fun b o e => F'.keep b o (T'.other b o (st b o e) (fun q => by
    rw [mem b q, nL₀] at e
    cases e)), F.above⟩ fun p hp => ⟨(N' p hp).1, fun q => ?_, ?_⟩
  · have := (N' p hp).2.2; rw [q, hs] at this; cases this
  · cases q : h₀.get? p.1 with
    | none => rfl
    | some o =>
      obtain ⟨sl', hs'⟩ := T'.up (st _ _ q)
      have := (N' p hp).2.2
      rw [hs'] at this
      cases this
end
end Mine
end
section -- V1
open PySem PySem.Spec PySem.Calls PyProof.Rows PySem.W
set_option maxRecDepth 100000
set_option maxHeartbeats 8000000
namespace Mine
local macro_rules | `(tactic| walk_at "zz0") => `(tactic| fail)
theorem quiet_V1 : True := by
  w_top off
  trivial
local macro_rules | `(tactic| k_steps) => `(tactic| repeat' ((fail_if_success (with_reducible show wpAny _ _ (exec (Stmt.While _ _ _ _) _) _ _ _)); (first | (k_unfold; (try dsimp only)) | (k_end; kc_close) | walk1 | (dsimp only; walk1) | (leave1; walk_say "STEP leave1"; (try dsimp only)) | fail "no step")))
local macro_rules | `(tactic| walk_at "call builtin:next") => `(tactic| (k_here; k_dflt (refine' next_by ?F ?N ?U ?i ?x ?_; (case F => k_asm); (case N => k_asm); (case U => exact UpdF.head (by assumption)); (case i => assumption); (case x => assumption)); intro h' o' F' N' i'; (try dsimp only at N'); (try dsimp only)))
theorem and_low : ∀ (k : Nat) (a y : Int), 0 ≤ y → y < 2 ^ k → Builtin.bitAnd (a * 2 ^ k) y = 0
  | 0, a, y, h0, h1 => by
    have : y = 0 := by simp at h1; omega
    subst this
    have := kbt_mask (a * 2 ^ 0) 0
    simpa [Int.emod_one] using this
  | k + 1, a, y, h0, h1 => by
    have e : a * 2 ^ (k + 1) = 2 * (a * 2 ^ k) := by rw [Int.pow_succ]; simp only [Int.mul_comm, Int.mul_left_comm]
    have e2 : (2 : Int) ^ (k + 1) = 2 * 2 ^ k := by rw [Int.pow_succ]; omega
    rw [kbt_halves, e]
    have e3 : 2 * (a * 2 ^ k) / 2 = a * 2 ^ k := by omega
    have e4 : ¬ (2 * (a * 2 ^ k) % 2 = 1 ∧ y % 2 = 1) := by omega
    rw [e3, if_neg e4, and_low k a (y / 2) (by omega) (by omega)]
    omega
theorem or_low (v n : Nat) (h : n < 64) : Builtin.bitOr ((v : Int) * 2 ^ (6 : Int).toNat) (n : Int) = ((v * 64 + n : Nat) : Int) := by
  have := and_low 6 (v : Int) (n : Int) (by omega) (by omega)
  have e : (2 : Int) ^ (6 : Int).toNat = 2 ^ 6 := by decide
  rw [e, bitOr_and, this]
  omega
theorem bits_fit {v t : Nat} (h : v < 64 ^ (t + 1)) (ht : t ≤ 200) : (Builtin.Int.intBits (v : Int) : Int) + 6 ≤ 2 ^ 27 := by
  have h1 : Builtin.Int.intBits (v : Int) ≤ 1206 := intBits_le_iff.mpr (by
    show v < 2 ^ 1206
    refine Nat.lt_of_lt_of_le h ?_
    calc 64 ^ (t + 1) ≤ 64 ^ 201 := Nat.pow_le_pow_right (by decide) (by omega)
      _ = 2 ^ 1206 := by decide)
  have e : (2 : Int) ^ 27 = 134217728 := by decide
  omega
local macro_rules | `(tactic| walk_at "inplaceOp LShift int int") => `(tactic| (k_here; with_reducible refine ilshift_int ?_ ?_ ?_; exact (by decide); assumption))
def VarR (b : Array UInt8) (tb : Tok) (c : Nat → UInt8) (it : Addr) (i r : Nat) (news : List (Addr × Obj)) (s0 : Shared) (k : Nat) (m : Str → Option Value) (nx : List (Addr × Obj)) (s : Shared) : Prop :=
  ∃ t v o' tv tc, k = r - t ∧ t ≤ r ∧ nx = (it, o') :: news ∧ ByIter o' b tb (i + t + 1) ∧ m "val" = some (.int (v : Nat) tv) ∧ m "b" = some (.int ((c t).toNat : Nat) tc) ∧ m "iterator" = some (.ref it) ∧ 64 ^ t ≤ v ∧ v < 64 ^ (t + 1) ∧
    s.gens = s0.gens ∧ s.os = s0.os
theorem and63 (n : Nat) : Builtin.bitAnd (n : Int) 63 = ((n % 64 : Nat) : Int) := by
  have := kbt_mask (n : Int) 6
  have e : (2 : Int) ^ 6 = 64 := by decide
  rw [e] at this
  rw [show (63 : Int) = 64 - 1 by decide, this]
  omega
theorem and64 {n : Nat} (h1 : 64 ≤ n) (h2 : n < 128) : Builtin.bitAnd (n : Int) 64 = 64 := by
  have := kbt_bit (n : Int) 6
  have e : (2 : Int) ^ 6 = 64 := by decide
  rw [e] at this
  rw [this]
  omega
theorem and64' {n : Nat} (h : n < 64) : Builtin.bitAnd (n : Int) 64 = 0 := by
  have := kbt_bit (n : Int) 6
  have e : (2 : Int) ^ 6 = 64 := by decide
  rw [e] at this
  rw [this]
  omega
theorem varint_spec {w : World} {p : Program} {loose : List Str} {mean : ExcName → Option Value} {mg mb : Str → Option Value}
    {dp un : Nat} {gd : Option (List Code)} {cn : Str} {cs : Scope} {a : Addr} {ccd : Value} {cl : List (Str × Addr)} {outer : List Env} {A₀ : Around} {base h₀ : Heap} {L : Addr} {m : Str → Option Value} {news : List (Addr × Obj)} {s : Shared} {it : Addr} {io : Obj} {b : Array UInt8} {tb : Tok} {i r : Nat} {c : Nat → UInt8}
    {Q E : Value → Shared → Prop} (B : Below A₀ base outer h₀) (F : Fr h₀ L s.heap m) (X : (Look.hd.heap_39 w.params).In h₀) (N : News h₀ L s.heap ((it, io) :: news)) (T : Top p loose mean mg mb h₀) (hk : cs.kind = .function)
    (hd : dp + 20 < recursionLimit) (hu : un + 20 < cLine) (hne : ∀ p ∈ news, p.1 ≠ it) (hio : ByIter io b tb i) (hr : r ≤ 200) (hb : ∀ j, j ≤ r → b[i + j]? = some (c j)) (hc : ∀ j, j < r → 64 < (c j).toNat ∧ (c j).toNat < 128) (hcr : (c r).toNat = 32)
    (hret : ∀ v o' s' t', s'.gens = s.gens → s'.os = s.os → 64 ^ r ≤ v → v < 64 ^ (r + 1) → Fr h₀ L s'.heap m → News h₀ L s'.heap ((it, o') :: news) → ByIter o' b tb (i + r + 1) → Q (.int (v : Nat) t') s') :
    wpAny (model PySem.Challenge.rw_xp0002_01.row.prog w) (ktrTop dp un gd cn cs L a ccd cl outer) (call (.ref 42) [.ref it]) Q E s := by
  have h0 : b[i]? = some (c 0) := hb 0 (Nat.zero_le _)
  revert X; k_fill; intro X
  refine wpAny_call ?_
  k_dflt ktr_enter
  k_steps
  rename Fr h₀ L _ m => FG
  rename Fr _ _ _ _ => F1
  rename News _ _ _ _ => N1
  rename ByIter _ b tb (i + 1) => i1
  rename_i gg LL hx0 BB XX TT tk0 hx1 o1 hx2 hx3
  refine wpAny_While ?_
  rw [and63] at F1
  refine while_walk (VarR b tb c it i r news s) r F1 N1 ?h0 ?turn
  case h0 =>
    have h1 : 1 ≤ (c 0).toNat % 64 ∧ (c 0).toNat % 64 < 64 := by
      by_cases h : 0 < r
      · have := hc 0 h
        omega
      · have h : r = 0 := by omega
        rw [h] at hcr
        omega
    exact ⟨0, (c 0).toNat % 64, _, _, _, rfl, Nat.zero_le _, rfl, i1, rfl, rfl, rfl, h1.1, h1.2, rfl, rfl⟩
  case turn =>
    rintro k m₁ nx s₁ ⟨t, v, o', tv, tc, rfl, htr, rfl, hio1, hm1, hm2, hm3, hv1, hv2, hgens, hos⟩ F2 N2
    replace F2 : Fr gg LL s₁.heap _ := F2
    replace N2 : News gg LL s₁.heap _ := N2
    have F3 := fr_put (fr_put (fr_put F2 (y := PySem.Str.ofString "iterator") hm3) (y := PySem.Str.ofString "b") ((if_neg (by decide)).trans hm2)) (y := PySem.Str.ofString "val") ((if_neg (by decide)).trans ((if_neg (by decide)).trans hm1))
    clear F2

    by_cases ht : t < r
    · have hct := hc t ht
      have hx : b[i + t + 1]? = some (c (t + 1)) := hb (t + 1) ht
      k_steps
      refine WhlIf.yes (by rw [and64 (by omega) hct.2]; rfl) ?_
      have hfit := bits_fit hv2 (by omega)
      k_steps
      rename ByIter _ b tb (i + t + 1 + 1) => i9
      rename Fr gg LL _ _ => F9
      rename News gg LL _ _ => N9
      rw [and63, or_low _ _ (Nat.mod_lt _ (by decide))] at F9
      have hm : (c (t + 1)).toNat % 64 < 64 := Nat.mod_lt _ (by decide)
      exact ⟨r - (t + 1), by omega, _, _, F9, N9, ⟨t + 1, v * 64 + (c (t + 1)).toNat % 64, _, _, _, rfl, ht, rfl, i9, rfl, rfl, rfl, by rw [Nat.pow_succ]; omega, by rw [Nat.pow_succ]; omega, hgens, hos⟩⟩
    · have htr' : t = r := by omega
      subst htr'
      k_steps
      refine WhlIf.no (by rw [and64' (by omega)]; rfl) ?_
      k_steps
      rename Fr h₀ L _ _ => F9
      rename News h₀ L _ _ => N9
      exact hret _ _ _ _ hgens hos hv1 hv2 F9 N9 hio1
end Mine
end
section -- V2
open PySem PySem.Spec PySem.Calls PyProof.Rows PySem.W
set_option maxRecDepth 100000
set_option maxHeartbeats 8000000
namespace Mine
theorem quiet_V2 : True := by
  w_top off
  trivial
local macro_rules | `(tactic| k_steps) => `(tactic| repeat' ((fail_if_success (with_reducible show wpAny _ _ (exec (Stmt.While _ _ _ _) _) _ _ _)); (first | (k_unfold; (try dsimp only)) | (k_end; kc_close) | walk1 | (dsimp only; walk1) | (leave1; walk_say "STEP leave1"; (try dsimp only)) | fail "no step")))
local macro_rules | `(tactic| walk_at "call builtin:iter") => `(tactic| (k_here; (with_reducible show wpAny _ _ (call (Value.builtin "iter") [Value.bytes _ _]) _ _ _); k_dflt (refine' iter_by ?F ?N ?_; (case F => k_asm); (case N => k_asm)); intro D' h' o' F' N' l1 i'; (try k_lt l1); (try dsimp only)))
local macro_rules | `(tactic| walk_at "call builtin:next") => `(tactic| (k_here; k_dflt (refine' next_stop ?hh ?F ?N ?U ?i ?x ?_; (case hh => rfl); (case F => k_asm); (case N => k_asm); (case U => k_updF); (case i => assumption); (case x => assumption)); intro h' o' h'' e' F' N' M'; (try dsimp only at N'); (try dsimp only)))
/-- the runs: how many letters stand right ahead of each blank -/
def runsOf : Nat → List Nat → List Nat
  | _, [] => []
  | n, o :: l => if o < 64 then n :: runsOf 0 l else runsOf (n + 1) l
theorem oc_get {tape : List Nat} {k o : Nat} (h : tape[k]? = some o) (ho : o < 256) : (oc tape)[k]? = some (UInt8.ofNat o) ∧ (UInt8.ofNat o).toNat = o := by
  have e : (UInt8.ofNat o).toNat = o := by rw [UInt8.toNat_ofNat']; omega
  refine ⟨?_, e⟩
  unfold oc byteArr
  simp [h]
theorem runsOf_len : ∀ (l : List Nat) (n : Nat), (runsOf n l).length ≤ l.length
  | [], _ => Nat.le_refl _
  | o :: l, n => by
    unfold runsOf
    by_cases h : o < 64
    · rw [if_pos h]
      have := runsOf_len l 0
      simp only [List.length_cons]
      omega
    · rw [if_neg h]
      have := runsOf_len l (n + 1)
      simp only [List.length_cons]
      omega
theorem oc_none {tape : List Nat} {k : Nat} (h : tape.length ≤ k) : (oc tape)[k]? = none := by
  unfold oc byteArr
  simp [h]
theorem span_run : ∀ (l : List Nat) (n : Nat), (∀ o ∈ l, o = 32 ∨ (64 < o ∧ o < 128)) → (∃ pre, l = pre ++ [32]) →
    ∃ r, r < l.length ∧ (∀ j, j < r → ∃ o, l[j]? = some o ∧ 64 < o ∧ o < 128) ∧ l[r]? = some 32 ∧ runsOf n l = (n + r) :: runsOf 0 (l.drop (r + 1))
  | [], _, _, h => by obtain ⟨pre, h⟩ := h; simp at h
  | o :: l, n, h, he => by
    rcases h o (.head _) with rfl | ho
    · exact ⟨0, by simp, fun j hj => by omega, rfl, rfl⟩
    · have he' : ∃ pre, l = pre ++ [32] := by
        obtain ⟨pre, e⟩ := he
        cases pre with
        | nil => simp at e; omega
        | cons a pre => simp at e; exact ⟨pre, e.2⟩
      obtain ⟨r, h1, h2, h3, h4⟩ := span_run l (n + 1) (fun x hx => h x (.tail _ hx)) he'
      refine ⟨r + 1, by simp; omega, fun j hj => ?_, by simpa using h3, ?_⟩
      · cases j with
        | zero => exact ⟨o, rfl, ho⟩
        | succ j => simpa using h2 j (by omega)
      · show (if o < 64 then _ else _) = _
        rw [if_neg (by omega), h4]
        simp only [List.drop_succ_cons]
        congr 1
        omega
theorem drop_end {tape : List Nat} {i : Nat} (hend : ∃ pre, tape = pre ++ [32]) (hi : i < tape.length) : ∃ pre, tape.drop i = pre ++ [32] := by
  obtain ⟨pre, rfl⟩ := hend
  exact ⟨pre.drop i, by rw [List.drop_append_of_le_length]; simp at hi; omega⟩
theorem fdiv64 (v : Nat) : (v : Int).fdiv 64 = ((v / 64 : Nat) : Int) := by
  rw [Int.fdiv_eq_ediv_of_nonneg _ (by decide)]
  omega
local macro_rules | `(tactic| walk_at "inplaceOp FloorDiv int int") => `(tactic| (k_here; with_reducible refine ifloordiv_int ?_ ?_ (Or.inl (PyProof.noPylong_of_log2 (by decide +kernel))); exact (by decide)))
local macro_rules | `(tactic| walk_at "call ref") => `(tactic| (k_here; k_dflt (refine' varint_spec ?k1 ?k2 ?k3 ?k4 ?k5 ?kh ?kd ?ku ?kn ?ki ?kr ?kb ?kc ?kz ?_; (case kh => exact rfl); (case k4 => k_asm); (case ki => assumption); (case kb => assumption); (case kc => assumption); (case kz => assumption); (case kr => assumption); (case k1 => k_asm); (case k2 => k_asm); (case k3 => k_asm); (case k5 => k_asm); (case kn => assumption); (case kd => k_room); (case ku => k_room)); intro v' o' s' t' e1' e2' v1' v2' F' N' i'; (try dsimp only)))
theorem news_swap {h₀ h : Heap} {L : Addr} {a b : Addr × Obj} {l : List (Addr × Obj)} (N : News h₀ L h (a :: b :: l)) : News h₀ L h (b :: a :: l) := news_sub N fun p hp => by
  rcases List.mem_cons.mp hp with e | hp
  · exact .tail _ (List.mem_cons.mpr (.inl e))
  · rcases List.mem_cons.mp hp with e | hp
    · exact List.mem_cons.mpr (.inl e)
    · exact .tail _ (.tail _ hp)
def ReadR (b : Array UInt8) (tb : Tok) (tape : List Nat) (it rr : Addr) (news : List (Addr × Obj)) (s0 : Shared) (k : Nat) (m : Str → Option Value) (nx : List (Addr × Obj)) (s : Shared) : Prop :=
  ∃ i vs nr o' rs, k = tape.length - i ∧ i ≤ tape.length ∧ nx = (it, o') :: (rr, listOf vs nr) :: news ∧ ByIter o' b tb i ∧ m "octets" = some (.ref it) ∧ m "runs" = some (.ref rr) ∧ IntsAre vs.toList (rs.map fun (o : Nat) => (o : Int)) ∧
    rs ++ runsOf 0 (tape.drop i) = runsOf 0 tape ∧ s.gens = s0.gens ∧ s.os = s0.os
def InR (r : Nat) (it rr : Addr) (nx0 : List (Addr × Obj)) (s0 : Shared) (k : Nat) (m : Str → Option Value) (nx : List (Addr × Obj)) (s : Shared) : Prop :=
  ∃ t v tn tr, k = r - t ∧ t ≤ r ∧ nx = nx0 ∧ m "number" = some (.int (v : Nat) tn) ∧ m "run" = some (.int (t : Nat) tr) ∧ m "runs" = some (.ref rr) ∧ m "octets" = some (.ref it) ∧ 64 ^ (r - t) ≤ v ∧ v < 64 ^ (r - t + 1) ∧ s.gens = s0.gens ∧ s.os = s0.os
theorem read_spec {w : World} {p : Program} {loose : List Str} {mean : ExcName → Option Value} {mg mb : Str → Option Value}
    {dp un : Nat} {gd : Option (List Code)} {cn : Str} {cs : Scope} {a : Addr} {ccd : Value} {cl : List (Str × Addr)} {A₀ : Around} {base h₀ : Heap} {L : Addr} {m : Str → Option Value} {news : List (Addr × Obj)} {s : Shared} {tape : List Nat} {tb : Tok}
    {Q E : Value → Shared → Prop} (B : Below A₀ base [] h₀) (F : Fr h₀ L s.heap m) (X : (Look.hd.heap_39 w.params).In h₀) (N : News h₀ L s.heap news) (T : Top p loose mean mg mb h₀) (XB : (Look.hd.heap_39 w.params).In base) (TB : Top p loose mean mg mb base) (hk : cs.kind = .function)
    (hd : dp + 40 < recursionLimit) (hu : un + 40 < cLine) (hl : tape.length ≤ 200) (ht : ∀ o ∈ tape, o = 32 ∨ (64 < o ∧ o < 128)) (hend : ∃ pre, tape = pre ++ [32])
    (hret : ∀ s' r vs nr, s'.gens = s.gens → s'.os = s.os → IntsAre vs.toList ((runsOf 0 tape).map fun (o : Nat) => (o : Int)) → (∀ p ∈ news, @LT.lt Nat _ p.1 r) → Fr h₀ L s'.heap m → News h₀ L s'.heap ((r, listOf vs nr) :: news) → Q (.ref r) s') :
    wpAny (model PySem.Challenge.rw_xp0002_01.row.prog w) (ktrTop dp un gd cn cs L a ccd cl []) (call (.ref 147) [.bytes (oc tape) tb]) Q E s := by
  revert X; k_fill; intro X
  refine wpAny_call ?_
  k_dflt (refine' code_defX0 ?k1 ?k2 ?k3 ?k4 ?k5 ?kA ?kF ?kK ?k6 ?k7 ?k8 ?k9 ?kB ?_ ?c2 ?c3 ?c4 ?c5; (case kA => exact rfl); (case kF => exact rfl); (case kK => assumption); (case k2 => k_asm); (case k1 => k_asm); (case k3 => k_asm); (case k4 => k_asm); (case k5 => k_asm); (case k6 => k_is); (case k7 => k_is); (case k8 => k_room); (case k9 => exact BindsTo.of_eq rfl); (case c5 => decide); (case kB => exact locs rfl); (case c2 => exact rfl); (case c3 => exact rfl); (case c4 => exact rfl); k_whole; intro gg LL h1 FG F' N' BB XX TT DD; (try dsimp only); (try k_fold))
  k_steps
  rename Fr h₀ L _ m => FG
  rename Fr _ _ _ _ => F1
  rename News _ _ _ _ => N1
  rename_i tk0 it hx0 o0 l0 i0 hx1 tk1 rr hx2 l1 hx3
  refine wpAny_While ?_
  refine while_walk (ReadR (oc tape) tb tape it rr news s) tape.length F1 (news_swap N1) ?h0 ?turn
  case h0 => exact ⟨0, _, _, _, [], rfl, Nat.zero_le _, rfl, i0, rfl, rfl, .nil, rfl, rfl, rfl⟩
  case turn =>
    rintro k m₁ nx s₁ ⟨i, vs, nr, o', rs, rfl, hil, rfl, hio, hm1, hm2, hints, hruns, hgens, hos⟩ F2 N2
    replace F2 : Fr gg LL s₁.heap _ := F2
    replace N2 : News gg LL s₁.heap _ := N2
    have F3 := fr_put (fr_put F2 (y := PySem.Str.ofString "octets") hm1) (y := PySem.Str.ofString "runs") ((if_neg (by decide)).trans hm2)
    clear F2
    have hri : @LT.lt Nat _ it rr := l1.1
    have hnr : ∀ p ∈ news, @LT.lt Nat _ p.1 it := l0
    by_cases hi : i < tape.length
    · obtain ⟨r, h1, h2, h3, h4⟩ := span_run (tape.drop i) 0 (fun o ho => ht o (List.mem_of_mem_drop ho)) (drop_end hend hi)
      have h1' : r < tape.length - i := by simpa using h1
      have hr : r ≤ 200 := by omega
      have hb : ∀ j, j ≤ r → (oc tape)[i + j]? = some ((fun j => UInt8.ofNat (tape.getD (i + j) 0)) j) := fun j hj => by
        have hlt : i + j < tape.length := by omega
        have e : tape[i + j]? = some (tape.getD (i + j) 0) := by simp [List.getD, hlt]
        have := ht (tape.getD (i + j) 0) (List.mem_of_getElem? e)
        exact (oc_get e (by omega)).1
      have hc : ∀ j, j < r → 64 < ((fun j => UInt8.ofNat (tape.getD (i + j) 0)) j).toNat ∧ ((fun j => UInt8.ofNat (tape.getD (i + j) 0)) j).toNat < 128 := fun j hj => by
        obtain ⟨o, ho, h5⟩ := h2 j hj
        rw [List.getElem?_drop] at ho
        have e : tape.getD (i + j) 0 = o := by simp [List.getD, ho]
        dsimp only
        rw [e, (oc_get ho (by omega)).2]
        exact h5
      have hcr : ((fun j => UInt8.ofNat (tape.getD (i + j) 0)) r).toNat = 32 := by
        rw [List.getElem?_drop] at h3
        have e : tape.getD (i + r) 0 = 32 := by simp [List.getD, h3]
        dsimp only
        rw [e]
        rfl
      revert hb hc hcr
      generalize (fun j => UInt8.ofNat (tape.getD (i + j) 0)) = c
      intro hb hc hcr
      have hne : ∀ p ∈ (rr, listOf vs nr) :: news, p.1 ≠ it := fun p hp => (List.mem_cons.mp hp).elim (fun e => by rw [e]; exact Nat.ne_of_gt hri) fun hp => Nat.ne_of_lt (l0 p hp)
      k_steps
      rename ByIter _ _ _ (i + r + 1) => i9
      rename Fr gg LL _ _ => F4
      rename News gg LL _ _ => N4
      rename_i v4 o4 s4 t4 e41 e42 v41 v42 hx4 hx5
      refine wpAny_While ?_
      refine while_walk (InR r it rr ((it, o4) :: (rr, listOf vs nr) :: news) s₁) r F4 N4 ?h1 ?turn1
      case h1 => exact ⟨0, v4, _, _, rfl, Nat.zero_le _, rfl, rfl, rfl, rfl, rfl, v41, v42, e41, e42⟩
      case turn1 =>
        clear F4 N4
        rintro k m₂ nx s₂ ⟨t, v, tn, tr, rfl, htr, rfl, hn1, hn2, hn3, hn4, hv1, hv2, hgens2, hos2⟩ F5 N5
        replace F5 : Fr gg LL s₂.heap _ := F5
        replace N5 : News gg LL s₂.heap _ := N5
        have F6 := fr_put (fr_put (fr_put (fr_put F5 (y := PySem.Str.ofString "octets") hn4) (y := PySem.Str.ofString "runs") ((if_neg (by decide)).trans hn3)) (y := PySem.Str.ofString "run") ((if_neg (by decide)).trans ((if_neg (by decide)).trans hn2))) (y := PySem.Str.ofString "number") ((if_neg (by decide)).trans ((if_neg (by decide)).trans ((if_neg (by decide)).trans hn1)))
        clear F5
        by_cases htl : t < r
        · obtain ⟨d, hd'⟩ : ∃ d, r - t = d + 1 := ⟨r - t - 1, by omega⟩
          have hd2 : r - (t + 1) = d := by omega
          rw [hd'] at hv1 hv2
          have hbig : 64 ≤ v := Nat.le_trans (by rw [Nat.pow_succ]; have : 0 < 64 ^ d := Nat.pow_pos (by decide); omega) hv1
          k_steps
          refine WhlIf.yes (decide_eq_true (by omega)) ?_
          k_steps
          rename Fr gg LL _ _ => F9
          rename News gg LL _ _ => N9
          rw [fdiv64] at F9
          refine ⟨r - (t + 1), by omega, _, _, F9, N9, ⟨t + 1, v / 64, _, _, rfl, htl, rfl, rfl, rfl, rfl, rfl, ?_, ?_, hgens2, hos2⟩⟩
          · rw [hd2]
            exact (Nat.le_div_iff_mul_le (by decide)).mpr (by rw [← Nat.pow_succ]; exact hv1)
          · rw [hd2]
            exact (Nat.div_lt_iff_lt_mul (by decide)).mpr (by rw [← Nat.pow_succ]; exact hv2)
        · have e : t = r := by omega
          subst e
          have hsm : v < 64 := by simpa using hv2
          have hvs : vs.size ≤ sizeLine := by
            have h5 := hints.length
            have h6 := runsOf_len tape 0
            rw [← hruns] at h6
            simp only [Array.length_toList, List.length_map, List.length_append] at h5 h6
            simp only [sizeLine]
            omega
          k_steps
          refine WhlIf.no (decide_eq_false (by omega)) ?_
          k_steps
          rename Fr gg LL _ _ => F9
          rename News gg LL _ _ => N9
          refine ⟨tape.length - (i + t + 1), by omega, _, _, F9, N9, ⟨i + t + 1, _, _, o4, rs ++ [t], rfl, by omega, rfl, i9, rfl, rfl, ints_snoc hints, ?_, hgens2.trans hgens, hos2.trans hos⟩⟩
          rw [← hruns, h4, List.drop_drop, List.append_assoc, Nat.zero_add]
          rfl
    · have hx : (oc tape)[i]? = none := oc_none (by omega)
      have hdr : tape.drop i = [] := List.drop_eq_nil_of_le (by omega)
      rw [hdr] at hruns
      have hruns' : rs = runsOf 0 tape := by simpa [runsOf] using hruns
      subst hruns'
      k_steps
      dsimp only [WTurn]
      k_steps
      rename Fr h₀ L _ _ => F9
      rename News h₀ L _ _ => N9
      exact hret _ _ _ _ hgens hos hints (fun p hp => Nat.lt_trans (l0 p hp) hri) F9 (fun p hp => N9 p (.tail _ hp))
end Mine
end
section -- L2
open PySem PySem.Spec PySem.Calls PyProof.Rows PySem.W
set_option maxRecDepth 100000
set_option maxHeartbeats 4000000
namespace Mine
theorem quiet_L2 : True := by
  w_top off
  trivial
section
variable {prog : Program} {w : World} {A : Around} {s : Shared} {env : Env} {h₀ : Heap}
theorem list_walks (hh : A.handled = none) (I l : Addr) (its : Array Value) (hl : l ≠ I) : Walks prog w A I [I, l] [I] its.size (fun i v => its[i]? = some v) (fun i h => h.IsListIter I l i ∧ h.IsList l its) where
  sub := fun b hb => by rw [List.mem_singleton.mp hb]; exact .head _
  frame := fun _ _ _ st hk => ⟨let ⟨o, ho, r⟩ := st.1; ⟨o, hk I (.head _) o ho, r⟩, let ⟨o, ho, r⟩ := st.2; ⟨o, hk l (.tail _ (.head _)) o ho, r⟩⟩
  item := fun i s Q E hi st hQ => by
    refine wpAny_pyNext_list_item st.1 st.2 (x := its[i]) (by simp [hi]) fun h' hit' hs' => ?_
    exact hQ _ h' _ (by simp [hi]) ⟨hit', st.2.extBut hs'.extBut hl⟩ fun b o hb e => hs'.extBut b o (fun h => hb (by simp [h])) e
  done := fun s Q E st hQ => wpAny_pyNext_list_end hh st.1 st.2 (by simp) fun h' he' => hQ h' s.toks fun b o hb e => he' b o (fun h => hb (by simp [h])) e
  self := fun _ _ _ _ st hQ => wpAny_pyIter_listiter st.1 hQ
/-- a for loop over a list on the ledger, by an invariant -/
theorem for_list {x : Str} {px : Pos} {body : List Stmt} {I l : Addr} {lo : Obj} {its : Array Value} {c : Nat} {m : Str → Option Value} {nx₀ : List (Addr × Obj)} {Q : Flow → Shared → Prop} {X : Value → Shared → Prop}
    (hh : A.handled = none) (hlo : lo.cls = .type "list") (hld : lo.data = .seq its c) (hx : env.kindOf x = some .local)
    (hp : (env.scope.kind == .class || (env.scope.kind == .module && env.locals != env.globals)) = false)
    (hL : env.locals ≠ I) (hI0 : h₀.get? I = none) (hst : s.heap.IsListIter I l 0) (F : Fr h₀ env.locals s.heap m) (N : News h₀ env.locals s.heap nx₀) (hn : ∀ p ∈ nx₀, p.1 ≠ I)
    (R : Nat → (Str → Option Value) → List (Addr × Obj) → Shared → Prop) (hRl : ∀ i m nx s, R i m nx s → (l, lo) ∈ nx) (hRt : ∀ i m nx s h tk, R i m nx s → R i m nx { s with heap := h, toks := tk }) (h0 : R 0 m nx₀ s)
    (turn : ∀ i v m₁ nx s₁ oI, its[i]? = some v → R i m₁ nx s₁ → (∀ p ∈ nx, p.1 ≠ I) → Fr h₀ env.locals s₁.heap (fun y => if y = x then some v else m₁ y) → News h₀ env.locals s₁.heap ((I, oI) :: nx) →
      wpAny (model prog w) A (execs body env) (TurnPost h₀ env.locals I oI (R (i + 1))) (fun _ _ => False) s₁)
    (done : ∀ m₁ nx s₁, R its.size m₁ nx s₁ → Fr h₀ env.locals s₁.heap m₁ → News h₀ env.locals s₁.heap nx → Q .next s₁) :
    codeAny (model prog w) A (.forLoop (.Name x px) (.ref I) body [] env) (fun r s' => match r with | .ok f => Q f s' | .error e => X e s') s := by
  have hlI : l ≠ I := hn _ (hRl _ _ _ _ h0)
  have W := list_walks (prog := prog) (w := w) hh I l its hlI
  have isl : ∀ (nx : List (Addr × Obj)) (h : Heap), News h₀ env.locals h nx → (l, lo) ∈ nx → h.IsList l its := fun nx h N hm => ⟨lo, (N _ hm).1, hlo, c, hld⟩
  have old : ∀ b o, h₀.get? b = some o → b ≠ I := fun b o e q => by rw [q, hI0] at e; cases e
  refine codeAny_forLoop (fun k s' => ∃ m' nx i, s'.heap.IsListIter I l i ∧ Fr h₀ env.locals s'.heap m' ∧ News h₀ env.locals s'.heap nx ∧ (∀ p ∈ nx, p.1 ≠ I) ∧ R i m' nx s' ∧ i ≤ its.size ∧ k = its.size + 1 - i) ?_ (its.size + 1)
    ⟨m, nx₀, 0, hst, F, N, hn, h0, Nat.zero_le _, rfl⟩
  rintro k s' ⟨m', nx, i, hst', F', N', hn', hR, hi, rfl⟩
  have next : ∀ h₁ : Heap, (∀ b o, b ∉ [I] → s'.heap.get? b = some o → h₁.get? b = some o) → Fr h₀ env.locals h₁ m' ∧ News h₀ env.locals h₁ nx := fun h₁ hk₁ =>
    ⟨⟨F'.ns.at' fun o e => hk₁ _ o (fun q => hL (List.mem_singleton.mp q)) e, fun b o e => hk₁ b o (fun q => old b o e (List.mem_singleton.mp q)) (F'.keep b o e), F'.above⟩,
      fun p hp' => ⟨hk₁ _ _ (fun q => hn' p hp' (List.mem_singleton.mp q)) (N' p hp').1, (N' p hp').2⟩⟩
  by_cases hlt : i < its.size
  · refine W.item i _ _ _ hlt ⟨hst', isl _ _ N' (hRl _ _ _ _ hR)⟩ fun v h₁ tk₁ hP hst₁ hk₁ => ?_
    obtain ⟨F₁, N₁⟩ := next h₁ hk₁
    refine wpAny_assign_Name (wpAny_storeName_local hx F₁.ns (fun h₂ hn₂ hs₂ => ?_) hp)
    have F₂ := F₁.set hn₂ hs₂
    obtain ⟨oI, hoI, hoIc, hoId⟩ := hst₁.1
    have hoI₂ : h₂.get? I = some oI := (hs₂.2 I (Ne.symm hL)).trans hoI
    have N₂ : News h₀ env.locals h₂ ((I, oI) :: nx) := fun p hp' => by
      rcases List.mem_cons.mp hp' with rfl | hp'
      · exact ⟨hoI₂, Ne.symm hL, hI0⟩
      · exact N₁.set hs₂ p hp'
    refine wpAny_mono (turn i v m' nx _ oI hP (hRt i m' nx s' h₂ (tk₁ + 1) hR) hn' F₂ N₂) (fun f s₃ h₃ => ?_) fun _ _ e => e.elim
    obtain ⟨hf, m₂, nx₂, F₃, N₃, hn₃, hR₃⟩ := h₃
    have hgo : ∃ k', k' < its.size + 1 - i ∧ ∃ m' nx i, s₃.heap.IsListIter I l i ∧ Fr h₀ env.locals s₃.heap m' ∧ News h₀ env.locals s₃.heap nx ∧ (∀ p ∈ nx, p.1 ≠ I) ∧ R i m' nx s₃ ∧ i ≤ its.size ∧ k' = its.size + 1 - i :=
      ⟨its.size + 1 - (i + 1), by omega, m₂, nx₂, i + 1, ⟨oI, (N₃ _ (.head _)).1, hoIc, hoId⟩, F₃, fun p hp' => N₃ p (.tail _ hp'), hn₃, hR₃, hlt, rfl⟩
    rcases hf with rfl | rfl <;> exact hgo
  · have hin : i = its.size := by omega
    subst hin
    refine W.done _ _ _ ⟨hst', isl _ _ N' (hRl _ _ _ _ hR)⟩ fun h₁ tk₁ hk₁ => wpAny_execs_nil ?_
    obtain ⟨F₁, N₁⟩ := next h₁ hk₁
    exact done _ _ _ (hRt _ m' nx s' h₁ tk₁ hR) F₁ N₁
/-- a for loop over a list on the ledger, from its head on -/
theorem for_listK {x : Str} {px : Pos} {body : List Stmt} {l : Addr} {its : Array Value} {c : Nat} {m : Str → Option Value} {nx₀ : List (Addr × Obj)} {E : Value → Shared → Prop} {Q : Flow → Shared → Prop} {X : Value → Shared → Prop}
    (hh : A.handled = none) (hx : env.kindOf x = some .local)
    (hp : (env.scope.kind == .class || (env.scope.kind == .module && env.locals != env.globals)) = false)
    (F : Fr h₀ env.locals s.heap m) (N : News h₀ env.locals s.heap nx₀) (hl : (l, listOf its c) ∈ nx₀)
    (R : Nat → (Str → Option Value) → List (Addr × Obj) → Shared → Prop) (hRl : ∀ i m nx s, R i m nx s → (l, listOf its c) ∈ nx) (hRt : ∀ i m nx s h tk, R i m nx s → R i m nx { s with heap := h, toks := tk }) (h0 : R 0 m nx₀ s)
    (turn : ∀ i v m₁ nx s₁ I oI, its[i]? = some v → R i m₁ nx s₁ → (∀ p ∈ nx₀, @LT.lt Nat _ p.1 I) → (∀ p ∈ nx, @Ne Nat p.1 I) → Fr h₀ env.locals s₁.heap (fun y => if y = x then some v else m₁ y) → News h₀ env.locals s₁.heap ((I, oI) :: nx) →
      wpAny (model prog w) A (execs body env) (TurnPost h₀ env.locals I oI (R (i + 1))) (fun _ _ => False) s₁)
    (done : ∀ m₁ nx s₁, R its.size m₁ nx s₁ → Fr h₀ env.locals s₁.heap m₁ → News h₀ env.locals s₁.heap nx → Q .next s₁) :
    wpAny (model prog w) A (pyIter (.ref l)) (fun it s₂ => codeAny (model prog w) A (.forLoop (.Name x px) it body [] env) (fun r s' => match r with | .ok f => Q f s' | .error e => X e s') s₂) E s := by
  refine wpAny_pyIter_list ⟨_, (N _ hl).1, rfl, c, rfl⟩ ?_
  have hI : ∀ p ∈ nx₀, p.1 < s.heap.objs.size := fun p hp => Heap.lt_size (N p hp).1
  have hLI : env.locals < s.heap.objs.size := F.ns.lt
  refine for_list (lo := listOf its c) hh rfl rfl hx hp (Nat.ne_of_lt hLI) (Heap.get?_none_of_le (Nat.le_trans F.above (Nat.le_of_lt hLI))) ⟨_, Heap.get?_push_size _ rfl, rfl, rfl⟩ (F.push _)
    (fun p hp => ⟨Heap.get?_push_of_some _ (N p hp).1, (N p hp).2⟩) (fun p hp => Nat.ne_of_lt (hI p hp)) R hRl hRt (hRt _ _ _ _ _ _ h0) (fun i v m₁ nx s₁ oI hv hR hn' F' N' => ?_) done
  exact turn i v m₁ nx s₁ _ oI hv hR hI hn' F' N'
end
section
variable {prog : Program} {w : World} {A : Around} {s : Shared} {env : Env} {h₀ : Heap} {L : Addr} {m : Str → Option Value} {scope : Scope} {cl : List (Str × Addr)} {elt ct : PySem.Expr} {x : Str} {S : List (Addr × Obj) → Prop} {P : Nat → Value → Prop} {Fin : List Value → List (Addr × Obj) → Prop} {n : Nat}
/-- a comprehension by an invariant over the turn's number, the elements so far and a ledger -/
theorem comp_walk (R : Nat → List Value → List (Addr × Obj) → Prop)
    (turn : ∀ i v ys nx I oI C oC D m₂ h tk (E' : Value → Shared → Prop), i < n → P i v → R i ys nx → LCg.NsObj oC m₂ → m₂ x = some v → Fr h₀ L h m → News h₀ L h ((I, oI) :: (C, oC) :: (D, LCg.lst ys) :: nx) → LCg.Off3 I C D nx → ((@Ne Nat I C) ∧ (@Ne Nat I D) ∧ (@Ne Nat C D)) →
      wpAny (model prog w) A (eval elt (compEnvC scope cl C env)) (LCg.CompEnd h₀ L m { s with heap := h, toks := tk } I oI C oC D (LCg.lst ys) S (fun y nx' => R (i + 1) (ys ++ [y]) nx')) E' { s with heap := h, toks := tk })
    (fin : ∀ ys nx, R n ys nx → Fin ys nx) : ∀ k i ys nx, k + i = n → R i ys nx → LCg.CompRest prog w A h₀ L m env elt x scope cl s S P Fin k i ys nx
  | 0, i, ys, nx, e, hR => LCg.CompRest.zero (fin ys nx (by rw [← e, Nat.zero_add]; exact hR))
  | k + 1, i, ys, nx, e, hR => LCg.CompRest.succ fun v I oI C oC D m₂ h tk E' hP hC hx F N off ne =>
    wpAny_mono (turn i v ys nx I oI C oC D m₂ h tk E' (by omega) hP hR hC hx F N off ne)
      (fun y s' h' => by
        obtain ⟨h₁, t₁, nx', e', F', N', o', hS, hR'⟩ := h'
        exact ⟨h₁, t₁, nx', e', F', N', o', hS, comp_walk R turn fin k (i + 1) _ _ (by omega) hR'⟩) fun _ _ q => q
theorem compT_walk (R : Nat → List Value → List (Addr × Obj) → Prop)
    (turn : ∀ i v ys nx I oI C oC D m₂ h tk (E' : Value → Shared → Prop), i < n → P i v → R i ys nx → LCg.NsObj oC m₂ → m₂ x = some v → Fr h₀ L h m → News h₀ L h ((I, oI) :: (C, oC) :: (D, LCg.lst ys) :: nx) → LCg.Off3 I C D nx → ((@Ne Nat I C) ∧ (@Ne Nat I D) ∧ (@Ne Nat C D)) →
      wpAny (model prog w) A (isTrue ct (compEnvC scope cl C env) (eval ct (compEnvC scope cl C env))) (fun ok s' => WhlIf ok
        (wpAny (model prog w) A (eval elt (compEnvC scope cl C env)) (LCg.CompEnd h₀ L m { s with heap := h, toks := tk } I oI C oC D (LCg.lst ys) S (fun y nx' => R (i + 1) (ys ++ [y]) nx')) E' s')
        (LCg.CompEnd h₀ L m { s with heap := h, toks := tk } I oI C oC D (LCg.lst ys) S (fun _ nx' => R (i + 1) ys nx') Value.none s')) E' { s with heap := h, toks := tk })
    (fin : ∀ ys nx, R n ys nx → Fin ys nx) : ∀ k i ys nx, k + i = n → R i ys nx → LCt.CompRestT prog w A h₀ L m env ct elt x scope cl s S P Fin k i ys nx
  | 0, i, ys, nx, e, hR => LCt.CompRestT.zero (fin ys nx (by rw [← e, Nat.zero_add]; exact hR))
  | k + 1, i, ys, nx, e, hR => LCt.CompRestT.succ fun v I oI C oC D m₂ h tk E' hP hC hx F N off ne =>
    wpAny_mono (turn i v ys nx I oI C oC D m₂ h tk E' (by omega) hP hR hC hx F N off ne)
      (fun ok s' h' => by
        cases ok with
        | false =>
          unfold WhlIf at h'
          rw [if_neg Bool.false_ne_true] at h' ⊢
          obtain ⟨h₁, t₁, nx', e', F', N', o', hS, hR'⟩ := h'
          exact ⟨h₁, t₁, nx', e', F', N', o', hS, compT_walk R turn fin k (i + 1) _ _ (by omega) hR'⟩
        | true =>
          unfold WhlIf at h'
          rw [if_pos rfl] at h' ⊢
          refine wpAny_mono h' (fun y s₂ h₂ => ?_) fun _ _ q => q
          obtain ⟨h₁, t₁, nx', e', F', N', o', hS, hR'⟩ := h₂
          exact ⟨h₁, t₁, nx', e', F', N', o', hS, compT_walk R turn fin k (i + 1) _ _ (by omega) hR'⟩) fun _ _ q => q
end
end Mine
end
section -- Y1
open PySem PySem.Spec PySem.Calls PyProof.Rows PySem.W
set_option maxRecDepth 100000
set_option maxHeartbeats 8000000
namespace Mine
theorem quiet_Y1 : True := by
  w_top off
  trivial
local macro_rules | `(tactic| k_steps) => `(tactic| repeat' ((fail_if_success (with_reducible show wpAny _ _ (exec (Stmt.While _ _ _ _) _) _ _ _)); (first | (k_unfold; (try dsimp only)) | (k_end; kc_close) | walk1 | (dsimp only; walk1) | (leave1; walk_say "STEP leave1"; (try dsimp only)) | fail "no step")))
/-- a layer worn off: each run loses a letter and the blank behind it -/
def wear : Nat → List Nat → List Nat
  | p, [] => [p]
  | p, r :: l => if 0 < r then wear (p + (r - 1)) l else p :: wear 0 l
def posCount (l : List Nat) : Nat := (l.filter fun r => decide (0 < r)).length
def layersF : Nat → List Nat → List Nat
  | 0, _ => []
  | f + 1, rs => if rs.sum = 0 then [] else posCount rs :: layersF f (wear 0 rs)
def layersL (rs : List Nat) : List Nat := layersF rs.sum rs
theorem posCount_cons (r : Nat) (l : List Nat) : posCount (r :: l) = (if 0 < r then 1 else 0) + posCount l := by
  unfold posCount
  by_cases h : 0 < r
  · simp [List.filter_cons, h]; omega
  · simp [List.filter_cons, h]
theorem wear_sum : ∀ (l : List Nat) (p : Nat), (wear p l).sum + posCount l = p + l.sum
  | [], p => by simp [wear, posCount]
  | r :: l, p => by
    rw [posCount_cons]
    unfold wear
    by_cases h : 0 < r
    · rw [if_pos h, if_pos h]
      have := wear_sum l (p + (r - 1))
      simp only [List.sum_cons]
      omega
    · rw [if_neg h, if_neg h]
      have := wear_sum l 0
      simp only [List.sum_cons]
      omega
theorem posCount_pos : ∀ (l : List Nat), 0 < l.sum → 0 < posCount l
  | [], h => by simp at h
  | r :: l, h => by
    rw [posCount_cons]
    by_cases hr : 0 < r
    · rw [if_pos hr]; omega
    · rw [if_neg hr]
      have := posCount_pos l (by simp only [List.sum_cons] at h; omega)
      omega
theorem wear_len : ∀ (l : List Nat) (p : Nat), (wear p l).length + posCount l = l.length + 1
  | [], p => by simp [wear, posCount]
  | r :: l, p => by
    rw [posCount_cons]
    unfold wear
    by_cases h : 0 < r
    · rw [if_pos h, if_pos h]
      have := wear_len l (p + (r - 1))
      simp only [List.length_cons]
      omega
    · rw [if_neg h, if_neg h]
      have := wear_len l 0
      simp only [List.length_cons]
      omega
theorem layersF_fuel : ∀ (f : Nat) (rs : List Nat), rs.sum ≤ f → layersF f rs = layersF rs.sum rs
  | 0, rs, h => by rw [show rs.sum = 0 by omega]
  | f + 1, rs, h => by
    by_cases h0 : rs.sum = 0
    · rw [h0]
      show (if rs.sum = 0 then _ else _) = _
      rw [if_pos h0]
      rfl
    · obtain ⟨g, hg⟩ : ∃ g, rs.sum = g + 1 := ⟨rs.sum - 1, by omega⟩
      rw [hg]
      show (if rs.sum = 0 then _ else _) = (if rs.sum = 0 then _ else _)
      rw [if_neg h0, if_neg h0]
      have h1 := wear_sum rs 0
      have h2 := posCount_pos rs (by omega)
      rw [layersF_fuel f _ (by omega), layersF_fuel g _ (by omega)]
theorem layers_step {rs : List Nat} (h : 0 < rs.sum) : layersL rs = posCount rs :: layersL (wear 0 rs) := by
  obtain ⟨g, hg⟩ : ∃ g, rs.sum = g + 1 := ⟨rs.sum - 1, by omega⟩
  have h1 := wear_sum rs 0
  have h2 := posCount_pos rs h
  unfold layersL
  rw [hg]
  show (if rs.sum = 0 then _ else _) = _
  rw [if_neg (by omega), layersF_fuel g _ (by omega)]
theorem layers_done {rs : List Nat} (h : rs.sum = 0) : layersL rs = [] := by
  unfold layersL
  rw [h]
  rfl
theorem sum_cast : ∀ ns : List Nat, (ns.map fun (o : Nat) => (o : Int)).sum = ((ns.sum : Nat) : Int)
  | [] => rfl
  | n :: l => by rw [List.map_cons, List.sum_cons, sum_cast l, List.sum_cons]; omega
section
variable {prog : Program} {w : World} {A : Around} {E : Value → Shared → Prop} {s : Shared} {h₀ : Heap} {L l : Addr} {m : Str → Option Value} {news : List (Addr × Obj)} {vs : Array Value} {n : Nat} {ns : List Nat} {Q : Value → Shared → Prop}
theorem sum_nat (hh : A.handled = none) (F : Fr h₀ L s.heap m) (N : News h₀ L s.heap news) (hm : (l, listOf vs n) ∈ news) (hi : IntsAre vs.toList (ns.map fun (o : Nat) => (o : Int)))
    (h : ∀ h' tk t', Fr h₀ L h' m → News h₀ L h' news → Q (.int (ns.sum : Nat) t') { s with heap := h', toks := tk }) : wpAny (model prog w) A (call (.builtin "sum") [.ref l]) Q E s := by
  refine sumK hh F N (vs := vs.toList) ⟨_, (N _ hm).1, rfl, _, rfl⟩ hi fun h' tk t' F' N' => ?_
  rw [sum_cast]
  exact h h' tk t' F' N'
end
theorem posCount_snoc (l : List Nat) (r : Nat) : posCount (l ++ [r]) = posCount l + (if 0 < r then 1 else 0) := by
  unfold posCount
  by_cases h : 0 < r
  · simp [List.filter_append, h]
  · simp [List.filter_append, h]
theorem ints_at {vs : Array Value} {rs : List Nat} {i : Nat} {v : Value} (hi : IntsAre vs.toList (rs.map fun (o : Nat) => (o : Int))) (h : vs[i]? = some v) : ∃ r t, rs[i]? = some r ∧ v = .int (r : Nat) t := by
  obtain ⟨k, t, rfl, hk⟩ := IntsAre.at hi i v (by simpa using h)
  rw [List.getElem?_map] at hk
  cases hr : rs[i]? with
  | none => rw [hr] at hk; cases hk
  | some r =>
    rw [hr] at hk
    cases hk
    exact ⟨r, t, rfl, rfl⟩
theorem len_lst {prog : Program} {w : World} {A : Around} {E : Value → Shared → Prop} {s : Shared} {h₀ : Heap} {L l : Addr} {news : List (Addr × Obj)} {ys : List Value} {k : Nat} {Q : Value → Shared → Prop}
    (N : News h₀ L s.heap news) (hm : (l, LCg.lst ys) ∈ news) (hk : ys.length = k) (hb : k ≤ 100000) (h : ∀ t' tk, Q (.int (k : Nat) t') { s with toks := tk }) : wpAny (model prog w) A (call (.builtin "len") [.ref l]) Q E s := by
  have e : ys.toArray.size = k := by simp [hk]
  refine PyProof.Rows.len_list (items := ys.toArray) ⟨_, (N _ hm).1, rfl, _, rfl⟩ (by rw [e]; omega) ?_
  rw [e]
  exact h _ _
theorem layersF_len : ∀ (f : Nat) (rs : List Nat), (layersF f rs).length ≤ f
  | 0, _ => Nat.le_refl _
  | f + 1, rs => by
    show (if rs.sum = 0 then _ else _ : List Nat).length ≤ _
    by_cases h : rs.sum = 0
    · rw [if_pos h]; simp
    · rw [if_neg h]
      have := layersF_len f (wear 0 rs)
      simp only [List.length_cons]
      omega
def LayR (ll : Addr) (news : List (Addr × Obj)) (rs0 : List Nat) (s0 : Shared) (k : Nat) (m : Str → Option Value) (nx : List (Addr × Obj)) (s : Shared) : Prop :=
  ∃ rs ls rl vs nr lvs ln junk, k = rs.sum ∧ nx = (ll, listOf lvs ln) :: junk ∧ (rl, listOf vs nr) ∈ junk ∧ (∀ q ∈ news, q ∈ junk) ∧ (∀ q ∈ junk, q.1 ≠ ll) ∧ m "runs" = some (.ref rl) ∧ m "layers" = some (.ref ll) ∧
    IntsAre vs.toList (rs.map fun (o : Nat) => (o : Int)) ∧ IntsAre lvs.toList (ls.map fun (o : Nat) => (o : Int)) ∧ rs.length ≤ 200 ∧ rs.sum ≤ 200 ∧ ls ++ layersL rs = layersL rs0 ∧ s.gens = s0.gens ∧ s.os = s0.os
local macro_rules | `(tactic| walk_at "exec For Name Name cons nil") => `(tactic| (k_here; with_unfolding_all refine wpAny_For ?_))
def WearR (wa rl ll : Addr) (rs ls : List Nat) (lo : Obj) (news : List (Addr × Obj)) (s0 : Shared) (i : Nat) (m : Str → Option Value) (nx : List (Addr × Obj)) (s : Shared) : Prop :=
  ∃ pile tp ws wvs wn lvs ln junk, nx = (wa, listOf wvs wn) :: (ll, listOf lvs ln) :: junk ∧ (rl, lo) ∈ junk ∧ (∀ q ∈ news, q ∈ junk) ∧ (∀ q ∈ junk, q.1 ≠ ll) ∧ (∀ q ∈ junk, q.1 ≠ wa) ∧ m "pile" = some (.int (pile : Nat) tp) ∧ m "worn" = some (.ref wa) ∧ m "layers" = some (.ref ll) ∧
    IntsAre wvs.toList (ws.map fun (o : Nat) => (o : Int)) ∧ IntsAre lvs.toList (ls.map fun (o : Nat) => (o : Int)) ∧ ws ++ wear pile (rs.drop i) = wear 0 rs ∧ s.gens = s0.gens ∧ s.os = s0.os
local macro_rules | `(tactic| k_all) => `(tactic| assumption)
local macro_rules | `(tactic| walk_at "call builtin:sum") => `(tactic| (k_here; k_dflt (refine' sum_nat ?h ?F ?N ?m ?i ?_; (case h => rfl); (case N => k_asm); (case m => k_mem); (case i => assumption); (case F => k_asm)); intro h' tk' t' F' N'; (try dsimp only)))
local macro_rules | `(tactic| walk_at "call builtin:len") => `(tactic| (k_here; k_dflt (refine' len_lst ?N ?m ?k ?b ?_; (case N => k_asm); (case m => k_mem); (case k => assumption); (case b => omega)); intro t' tk'; (try dsimp only)))
local macro_rules | `(tactic| walk_at "eval ListComp") => `(tactic| (k_here; k_dflt (refine LCt.ListComp_T (F₀ := by k_asm) (by with_unfolding_all rfl) (by decide) (by rfl) (by decide) (by rfl) ?_)))
local macro_rules | `(tactic| walk_at "CompSrcT") => `(tactic| (k_here; k_dflt (refine LCt.CompSrcT.ledger (by rfl) (by k_asm) (by k_asm) (by k_mem) (by assumption) ?_; intro g')))
theorem layers_spec {w : World} {p : Program} {loose : List Str} {mean : ExcName → Option Value} {mg mb : Str → Option Value}
    {dp un : Nat} {gd : Option (List Code)} {cn : Str} {cs : Scope} {a : Addr} {ccd : Value} {cl : List (Str × Addr)} {outer : List Env} {A₀ : Around} {base h₀ : Heap} {L : Addr} {m : Str → Option Value} {news : List (Addr × Obj)} {s : Shared} {r0 : Addr} {vs0 : Array Value} {n0 : Nat} {rs0 : List Nat}
    {Q E : Value → Shared → Prop} (B : Below A₀ base outer h₀) (F : Fr h₀ L s.heap m) (X : (Look.hd.heap_39 w.params).In h₀) (N : News h₀ L s.heap news) (T : Top p loose mean mg mb h₀) (hk : cs.kind = .function)
    (hd : dp + 40 < recursionLimit) (hu : un + 40 < cLine) (hl : rs0.length ≤ 200) (hs0 : rs0.sum ≤ 200) (hr0 : (r0, listOf vs0 n0) ∈ news) (hi0 : IntsAre vs0.toList (rs0.map fun (o : Nat) => (o : Int)))
    (hret : ∀ s' r vs nr, s'.gens = s.gens → s'.os = s.os → IntsAre vs.toList ((layersL rs0).map fun (o : Nat) => (o : Int)) → (∀ p ∈ news, @LT.lt Nat _ p.1 r) → Fr h₀ L s'.heap m → News h₀ L s'.heap ((r, listOf vs nr) :: news) → Q (.ref r) s') :
    wpAny (model PySem.Challenge.rw_xp0002_01.row.prog w) (ktrTop dp un gd cn cs L a ccd cl outer) (call (.ref 152) [.ref r0]) Q E s := by
  revert X; k_fill; intro X
  refine wpAny_call ?_
  k_dflt ktr_enter
  k_steps
  rename Fr h₀ L _ m => FG
  rename Fr _ _ _ _ => F1
  rename News _ _ _ _ => N1
  rename Below _ _ _ _ => BB
  rename_i gg LL hx0 XX TT tk0 ll hx1 l1 hx2
  refine wpAny_While ?_
  refine while_walk (LayR ll news rs0 s) rs0.sum F1 N1 ?h0 ?turn
  case h0 => exact ⟨rs0, [], r0, vs0, n0, _, _, news, rfl, rfl, hr0, fun q hq => hq, fun q hq => Nat.ne_of_lt (l1 q hq), rfl, rfl, hi0, .nil, hl, hs0, rfl, rfl, rfl⟩
  case turn =>
    rintro k m₁ nx s₁ ⟨rs, ls, rl, vs, nr, lvs, ln, junk, rfl, rfl, hrl, hnews, hjl, hm1, hm2, hi1, hi2, hlen, hsum, hlay, hgens, hos⟩ F2 N2
    replace F2 : Fr gg LL s₁.heap _ := F2
    replace N2 : News gg LL s₁.heap _ := N2
    have F3 := fr_put (fr_put F2 (y := PySem.Str.ofString "layers") hm2) (y := PySem.Str.ofString "runs") ((if_neg (by decide)).trans hm1)
    clear F2
    by_cases hz : 0 < rs.sum
    · have hvs : vs.size ≤ sizeLine := by
        have h5 := hi1.length
        simp only [Array.length_toList, List.length_map] at h5
        simp only [sizeLine]
        omega
      k_steps
      refine WhlIf.yes (decide_eq_true (by omega)) ?_
      k_steps
      refine compT_walk (fun i ys nx => nx = (ll, listOf lvs ln) :: junk ∧ ys.length = posCount (rs.take i)) ?turn ?fin _ _ _ _ (Nat.add_zero _) ⟨rfl, rfl⟩
      case turn =>
        rintro i v ys nx I oI C oC D m₂ h₂ tk₂ E' hi hP ⟨rfl, hys⟩ hC hx F4 N4 off ne
        obtain ⟨r, tr, hr, rfl⟩ := ints_at hi1 hP
        have htake : rs.take (i + 1) = rs.take i ++ [r] := by rw [List.take_add_one, hr]; rfl
        by_cases hr0 : 0 < r
        · k_steps
          refine WhlIf.yes (decide_eq_true (by omega)) ?_
          k_steps
          rename Fr gg LL _ _ => F9
          rename News gg LL _ _ => N9
          exact LCg.CompEnd.intro F9 N9 ((ll, listOf lvs ln) :: junk) (fun p hp => hp) off (Or.inr ⟨_, .tail _ hrl, rfl, _, rfl⟩) ⟨rfl, by rw [htake, posCount_snoc, if_pos hr0, List.length_append, hys]; rfl⟩
        · k_steps
          refine WhlIf.no (decide_eq_false (by omega)) ?_
          k_steps
          rename Fr gg LL _ _ => F9
          rename News gg LL _ _ => N9
          exact LCg.CompEnd.intro F9 N9 ((ll, listOf lvs ln) :: junk) (fun p hp => hp) off (Or.inr ⟨_, .tail _ hrl, rfl, _, rfl⟩) ⟨rfl, by rw [htake, posCount_snoc, if_neg hr0, hys]; rfl⟩
      case fin =>
        rintro ys nx ⟨rfl, hys⟩
        have hpc : posCount rs ≤ rs.length := by
          have := wear_len rs 0
          have := posCount_pos rs hz
          unfold posCount
          exact List.length_filter_le _ _
        have htk : rs.take vs.size = rs := List.take_of_length_le (by
          have h5 := hi1.length
          simp only [Array.length_toList, List.length_map] at h5
          omega)
        rw [htk] at hys
        have hlvs : lvs.size ≤ sizeLine := by
          have h5 := hi2.length
          have h6 := layersF_len rs0.sum rs0
          have h7 : (ls ++ layersL rs).length = (layersL rs0).length := by rw [hlay]
          unfold layersL at h7
          simp only [Array.length_toList, List.length_map, List.length_append] at h5 h7
          simp only [sizeLine]
          omega
        unfold LCg.FinE
        intro D h5 tk5 F5 N5 o1
        have hDl : @Ne Nat D ll := Ne.symm o1.1
        k_steps
        rename Fr gg LL _ _ => F6
        rename News gg LL _ _ => N6
        rename_i t9 tk9 hx5 hx6 wa hx7 l7 hx8 hx9
        have hwl : @LT.lt Nat _ ll wa := l7.2.1
        have hjw : ∀ q ∈ junk, q.1 ≠ wa := fun q hq => Nat.ne_of_lt (lt_of_all l7.2.2 q hq)
        have hi3 : IntsAre (lvs.push (.int (posCount rs : Nat) t9)).toList ((ls ++ [posCount rs]).map fun (o : Nat) => (o : Int)) := ints_snoc hi2
        refine for_listK rfl rfl rfl F6 (news_sub N6 (l' := (wa, listOf #[] 0) :: (ll, listOf (lvs.push (.int (posCount rs : Nat) t9)) (ln + 1)) :: junk) (fun p hp => by
          rcases List.mem_cons.mp hp with e | hp
          · exact List.mem_cons.mpr (.inl e)
          · exact .tail _ (.tail _ hp))) (.tail _ (.tail _ hrl)) (WearR wa rl ll rs (ls ++ [posCount rs]) (listOf vs nr) news s₁) ?hRl ?hRt ?h0 ?turn ?done
        case hRl =>
          rintro i m nx s ⟨_, _, _, _, _, _, _, _, rfl, h, _⟩
          exact .tail _ (.tail _ h)
        case hRt => exact fun _ _ _ _ _ _ h => h
        case h0 => exact ⟨0, _, [], _, _, _, _, junk, rfl, hrl, hnews, hjl, hjw, rfl, rfl, rfl, .nil, hi3, rfl, rfl, rfl⟩
        case turn =>
          clear F6 N6
          rintro i v m₂ nx s₂ I oI hv ⟨pile, tp, ws, wvs, wn, lvs2, ln2, junk2, rfl, hrl2, hnews2, hjl2, hjw2, hp1, hp2, hp3, hi5, hi6, hwear, hg2, ho2⟩ _ hnI F7 N7
          replace F7 : Fr gg LL s₂.heap _ := F7
          replace N7 : News gg LL s₂.heap _ := N7
          have F8 := fr_put (fr_put (fr_put F7 (y := PySem.Str.ofString "layers") ((if_neg (by decide)).trans hp3)) (y := PySem.Str.ofString "worn") ((if_neg (by decide)).trans ((if_neg (by decide)).trans hp2))) (y := PySem.Str.ofString "pile") ((if_neg (by decide)).trans ((if_neg (by decide)).trans ((if_neg (by decide)).trans hp1)))
          clear F7
          obtain ⟨r, tr, hr, rfl⟩ := ints_at hi1 hv
          have hdrop : rs.drop i = r :: rs.drop (i + 1) := by
            obtain ⟨hlt, rfl⟩ := List.getElem?_eq_some_iff.mp hr
            exact List.drop_eq_getElem_cons hlt
          have hIw : @Ne Nat I wa := Ne.symm (hnI _ (.head _))
          have hIl : @Ne Nat I ll := Ne.symm (hnI _ (.tail _ (.head _)))
          have hIj : ∀ p ∈ junk2, p.1 ≠ I := fun p hp => hnI _ (.tail _ (.tail _ hp))
          have hwvs : wvs.size ≤ sizeLine := by
            have h5 := hi5.length
            have h6 := wear_len rs 0
            rw [← hwear] at h6
            simp only [Array.length_toList, List.length_map, List.length_append] at h5 h6
            simp only [sizeLine]
            omega
          rw [hdrop] at hwear
          by_cases hr0 : 0 < r
          · have hwear' : ws ++ wear (pile + (r - 1)) (rs.drop (i + 1)) = wear 0 rs := by
              rw [← hwear]
              show _ = ws ++ (if 0 < r then _ else _)
              rw [if_pos hr0]
            k_steps
            rename Fr gg LL _ _ => F9
            rename News gg LL _ _ => N9
            rw [show (pile : Int) + ((r : Int) - 1) = ((pile + (r - 1) : Nat) : Int) by omega] at F9
            exact ⟨.inl rfl, _, _, F9, N9, hnI, ⟨pile + (r - 1), _, ws, _, _, _, _, junk2, rfl, hrl2, hnews2, hjl2, hjw2, rfl, rfl, rfl, hi5, hi6, hwear', hg2, ho2⟩⟩
          · have hwear' : (ws ++ [pile]) ++ wear 0 (rs.drop (i + 1)) = wear 0 rs := by
              rw [← hwear]
              show _ = ws ++ (if 0 < r then _ else _)
              rw [if_neg hr0, List.append_assoc]
              rfl
            k_steps
            rename Fr gg LL _ _ => F9
            rename News gg LL _ _ => N9
            exact ⟨.inl rfl, _, _, F9, N9, fun p hp => by
              rcases List.mem_cons.mp hp with rfl | hp
              · exact Ne.symm hIw
              · rcases List.mem_cons.mp hp with rfl | hp
                · exact Ne.symm hIl
                · exact hIj p hp, ⟨0, _, ws ++ [pile], _, _, _, _, junk2, rfl, hrl2, hnews2, hjl2, hjw2, rfl, rfl, rfl, ints_snoc hi5, hi6, hwear', hg2, ho2⟩⟩
        case done =>
          clear F6 N6
          rintro m₂ nx s₂ ⟨pile, tp, ws, wvs, wn, lvs2, ln2, junk2, rfl, hrl2, hnews2, hjl2, hjw2, hp1, hp2, hp3, hi5, hi6, hwear, hg2, ho2⟩ F7 N7
          replace F7 : Fr gg LL s₂.heap _ := F7
          replace N7 : News gg LL s₂.heap _ := N7
          have F8 := fr_put (fr_put (fr_put F7 (y := PySem.Str.ofString "layers") hp3) (y := PySem.Str.ofString "worn") ((if_neg (by decide)).trans hp2)) (y := PySem.Str.ofString "pile") ((if_neg (by decide)).trans ((if_neg (by decide)).trans hp1))
          clear F7
          have hdn : rs.drop vs.size = [] := List.drop_eq_nil_of_le (by
            have h5 := hi1.length
            simp only [Array.length_toList, List.length_map] at h5
            omega)
          rw [hdn] at hwear
          have hwear' : ws ++ [pile] = wear 0 rs := hwear
          have hwvs : wvs.size ≤ sizeLine := by
            have h5 := hi5.length
            have h6 := wear_len rs 0
            rw [← hwear] at h6
            simp only [Array.length_toList, List.length_map, List.length_append] at h5 h6
            simp only [sizeLine]
            omega
          dsimp only
          k_steps
          rename Fr gg LL _ _ => F9
          rename News gg LL _ _ => N9
          have h8 := wear_sum rs 0
          have h9 := posCount_pos rs hz
          have h10 := wear_len rs 0
          refine ⟨(wear 0 rs).sum, by omega, _, _, F9, news_swap N9, ⟨wear 0 rs, ls ++ [posCount rs], wa, _, _, _, _, _, rfl, rfl, .head _, fun q hq => .tail _ (hnews2 q hq), fun q hq => ?_, rfl, rfl, by rw [← hwear']; exact ints_snoc hi5, hi6, by omega, by omega, by rw [← hlay, layers_step hz, List.append_assoc]; rfl, hg2.trans hgens, ho2.trans hos⟩⟩
          rcases List.mem_cons.mp hq with rfl | hq
          · exact Nat.ne_of_gt hwl
          · exact hjl2 q hq
    · k_steps
      refine WhlIf.no (decide_eq_false (by omega)) ?_
      k_steps
      rename Fr h₀ L _ _ => F9
      rename News h₀ L _ _ => N9
      have hz0 : rs.sum = 0 := by omega
      rw [layers_done hz0, List.append_nil] at hlay
      subst hlay
      exact hret _ _ _ _ hgens hos hi2 l1 F9 (fun p hp => N9 p (by rcases List.mem_cons.mp hp with e | hp; exact List.mem_cons.mpr (.inl e); exact .tail _ (hnews p hp)))
end Mine
end
section -- G0
open PySem PySem.Spec PySem.Calls PyProof.Rows PySem.W
set_option maxRecDepth 100000
set_option maxHeartbeats 4000000
namespace Mine
theorem quiet_G0 : True := by
  w_top off
  trivial
/-- a decoder at work -/
def isDec : Code → Bool
  | .builtin id _ => Builtin.Bytes.decodersThatHold.contains id
  | _ => false
def Clean (l : List (Code × Pos)) : Prop := ∀ x ∈ l, isDec x.1 = false
/-- wpAny over the contexts in which no decoder is at work -/
def wpG {α : Type} (M : Model) (A : Around) (t : Sem α) (Q : α → Shared → Prop) (E : Value → Shared → Prop) (s : Shared) : Prop :=
  ∀ (Γ : PySem.Ctx) p, Γ.In A → isDec Γ.code = false → Clean Γ.below → Sem.wp M Γ t (fun a _ s' => Q a s') (fun e _ s' => E e s') p s
def codeG (M : Model) (A : Around) (c : Code) (R : Result → Shared → Prop) (s : Shared) : Prop :=
  ∀ (Γ : PySem.Ctx) p, Γ.code = c → Γ.Below A → Clean Γ.below → wpCode M Γ R p s
section
variable {α β : Type} {M : Model} {A : Around} {E : Value → Shared → Prop} {s : Shared}
theorem wpG_of {t : Sem α} {Q : α → Shared → Prop} (h : wpAny M A t Q E s) : wpG M A t Q E s := fun Γ p hΓ _ _ => h Γ p hΓ
theorem codeG_of {c : Code} {R : Result → Shared → Prop} (h : codeAny M A c R s) : codeG M A c R s := fun Γ p e hΓ _ => h Γ p e hΓ
theorem wpG_mono {t : Sem α} {Q Q' : α → Shared → Prop} {E' : Value → Shared → Prop} (h : wpG M A t Q E s) (hQ : ∀ a s, Q a s → Q' a s) (hE : ∀ e s, E e s → E' e s) : wpG M A t Q' E' s :=
  fun Γ p hΓ h1 h2 => Sem.wp_mono M Γ t (fun a _ s => hQ a s) (fun e _ s => hE e s) p s (h Γ p hΓ h1 h2)
theorem wpG_bind {m : Sem α} {f : α → Sem β} {Q : β → Shared → Prop} (h : wpG M A m (fun a s' => wpG M A (f a) Q E s') E s) : wpG M A (m >>= f) Q E s := fun Γ p hΓ h1 h2 => by
  rw [Sem.wp_bind']
  exact Sem.wp_mono M Γ m (fun a p' s' h' => h' Γ p' hΓ h1 h2) (fun _ _ _ h' => h') p s (h Γ p hΓ h1 h2)
theorem wpG_bindA {m : Sem α} {f : α → Sem β} {Q : β → Shared → Prop} (h : wpAny M A m (fun a s' => wpG M A (f a) Q E s') E s) : wpG M A (m >>= f) Q E s := wpG_bind (wpG_of h)
theorem wpG_pure {a : α} {Q : α → Shared → Prop} (h : Q a s) : wpG M A (pure a) Q E s := fun _ _ _ _ _ => h
theorem wpG_holding {vs : List Value} {m : Sem α} {Q : α → Shared → Prop} (h : wpG M A m Q E s) : wpG M A (holding vs m) Q E s :=
  fun Γ p hΓ h1 h2 => by rw [Sem.wp_holding]; exact h Γ p hΓ h1 h2
theorem wpG_onRaise {m : Sem α} {k : Value → Sem Unit} {Q : α → Shared → Prop} (h : wpG M A m Q (fun e s' => wpAny M A (k e) (fun _ s'' => E e s'') E s') s) : wpG M A (m.onRaise k) Q E s := fun Γ p hΓ h1 h2 => by
  rw [Sem.wp_onRaise]
  exact Sem.wp_mono M Γ m (fun _ _ _ h' => h') (fun e p' s' h' => h' Γ p' hΓ) p s (h Γ p hΓ h1 h2)
theorem wpG_call {f : Value} {pos : List Value} {kw : List (Str × Value)} {Q : Value → Shared → Prop}
    (hc : codeG M A (.call f ⟨pos, kw⟩) (fun r s' => match r with | .ok (.ret v) => Q v s' | .ok _ => False | .error e => E e s') s) : wpG M A (call f pos kw) Q E s := fun Γ p hΓ h1 h2 => by
  show Sem.wp M Γ (runValue _) _ _ p s
  rw [Sem.wp_runValue]
  refine hc _ p rfl (hΓ.enter _ none p (by intro x; cases x)) fun x hx => ?_
  rcases List.mem_cons.mp hx with rfl | hx
  · exact h1
  · exact h2 x hx
theorem codeG_of_tree {c : Code} {R : Result → Shared → Prop} (hc' : isDec c = false)
    (h : wpG M (A.under c) (M.den c) (fun fin s' => match fin with | .done f => R (.ok f) s' | .again c' => c'.quiet = true ∧ codeG M A c' R s')
      (fun e s' => R (.error e) s') s) : codeG M A c R s := fun Γ p hc hΓ h2 => by
  rw [wpCode_iff_wp, hc]
  refine Sem.wp_mono M Γ _ (fun fin p' s' h' => ?_) (fun _ _ _ h' => h') p s (h Γ p (hc ▸ hΓ.in) (by rw [hc]; exact hc') h2)
  cases fin with
  | done f => exact h'
  | again c' => exact ⟨h'.1, h'.2 (Γ.goto c') p' rfl (hΓ.goto c') h2⟩
theorem codeG_of_treeA {c : Code} {R : Result → Shared → Prop}
    (h : wpAny M (A.under c) (M.den c) (fun fin s' => match fin with | .done f => R (.ok f) s' | .again c' => c'.quiet = true ∧ codeG M A c' R s')
      (fun e s' => R (.error e) s') s) : codeG M A c R s := fun Γ p hc hΓ h2 => by
  rw [wpCode_iff_wp, hc]
  refine Sem.wp_mono M Γ _ (fun fin p' s' h' => ?_) (fun _ _ _ h' => h') p s (h Γ p (hc ▸ hΓ.in))
  cases fin with
  | done f => exact h'
  | again c' => exact ⟨h'.1, h'.2 (Γ.goto c') p' rfl (hΓ.goto c') h2⟩
theorem codeG_mono {c : Code} {R R' : Result → Shared → Prop} (h : codeG M A c R s) (hR : ∀ r s, R r s → R' r s) : codeG M A c R' s :=
  fun Γ p hc hΓ h2 => wpCode_mono hR (h Γ p hc hΓ h2)
end
section
variable {prog : Program} {w : World} {A : Around} {E : Value → Shared → Prop} {R : Result → Shared → Prop} {s : Shared}
theorem codeG_func {body : List Stmt} {env : Env}
    (h : wpG (model prog w) (A.deeper env) (execs body env) (fun f s' => R (.ok (.ret (match f with | .ret v => v | _ => .none))) s')
      (fun e s' => wpAny (model prog w) (A.deeper env) (leaving env e) (fun _ s'' => R (.error e) s'') (fun e' s'' => R (.error e') s'') s') s) :
    codeG (model prog w) A (.func body env) R s := by
  refine codeG_of_tree rfl ?_
  show wpG _ (A.deeper env) (do point; match ← (execs body env).onRaise (leaving env) with | .ret v => ret v | _ => ret .none) _ _ s
  refine wpG_bindA (wpAny_point (wpG_bind (wpG_onRaise (wpG_mono h (fun f s' h' => ?_) fun _ _ h' => h'))))
  cases f <;> exact wpG_pure h'
theorem codeG_call_function {a : Addr} {args : Args} {o : Obj} {fd : FuncData} {body : List Stmt} (hroom : A.depth < recursionLimit)
    (ho : s.heap.get? a = some o)
    (hd' : o.data = .func fd) (hco : fd.scope.isCoroutine = false) (hgen : fd.scope.isGenerator = false) (hbody : fd.body = .stmts body) (hcd : s.heap.CodeRec fd.code fd.qualname)
    (h : wpAny (model prog w) A.in1 (bindArgs fd args) (fun binds s₁ =>
      wpAny (model prog w) A.in1 (newFunctionEnv fd.scope fd.globals fd.closure binds (fd.qualname ++ ".<locals>.") (some a) fd.code none fd.builtins)
        (fun env s₂ => s₂.heap.NoLimit ∧ codeG (model prog w) A (.func body env) R s₂) (fun e s' => R (.error e) s') s₁) (fun e s' => R (.error e) s') s) :
    codeG (model prog w) A (.call (.ref a) args) R s := by
  refine codeG_of_treeA ?_
  show wpAny _ A.in1 (callAny (.ref a) args) _ _ s
  simp only [callAny]
  refine wpAny_bind (wpAny_load ho ?_)
  obtain ⟨c, oc, vs, tq, hc, hoc, hdc, hq⟩ := hcd
  simp only [hd', callFunction, hco, hgen, hbody, hc]
  rw [hc] at h
  refine wpAny_bind (m := field (.ref c) 1) (wpAny_field hoc hdc hq (wpAny_bind (wpAny_pure ?_)))
  exact wpAny_bind (wpAny_mono h (fun binds s₁ h₁ => wpAny_bind (wpAny_mono h₁ (fun env s₂ h₂ => wpAny_bind (wpAny_enterFrame h₂.1 hroom
    (wpAny_pure (And.intro rfl h₂.2)))) fun _ _ h' => h')) fun _ _ h' => h')
end
section
variable {prog : Program} {w : World} {A₀ A : Around} {s : Shared} {base h₀ : Heap} {outer : List Env} {L : Addr} {m : Str → Option Value} {env : Env} {news : List (Addr × Obj)} {K : Frag} {p : Program} {loose : List Str} {mean : ExcName → Option Value} {mg mb : Str → Option Value}
  {R : Result → Shared → Prop} {name qual : Str} {params : Arguments} {body : List Stmt} {scope : Scope} {dV kV doc pm cdv ct oc : Value} {an od : Option Addr} {osl : Array (Option Value)} {f : Addr} {args : Args} {binds : List (Str × Value)}
theorem code_defG (B : Below A₀ base outer h₀) (F : Fr h₀ L s.heap m) (X₀ : K.In h₀) (N : News h₀ L s.heap news) (T : Top p loose mean mg mb h₀) (hA : A.frames = some (env :: outer)) (hf : env.frame = some L) (hke : env.scope.kind = .function)
    (ho : K.lookup f = some ⟨oc, od, .func (fnOf name qual params body scope dV kV doc pm an cdv ct), osl⟩) (hcd : codeIn K cdv qual = true) (hroom : A.depth < recursionLimit)
    (hbind : BindsTo s (fnOf name qual params body scope dV kV doc pm an cdv ct) args binds) (hloc : ∀ y ∈ binds, scope.names.lookup y.1 = some .local)
    (h : ∀ g L' h₁, Fr h₀ L g m → Fr g L' h₁ (fun y => binds.reverse.lookup y) → News g L' h₁ news → Below A base (env :: outer) g → K.In g → Top p loose mean mg mb g →
      wpG (model prog w) (A.deeper (envOf qual scope L' f cdv)) (execs body (envOf qual scope L' f cdv))
        (fun fl s' => LeaveK h₀ L m g R (match fl with | .ret v => v | _ => .none) s')
        (fun e s' => wpAny (model prog w) (A.deeper (envOf qual scope L' f cdv)) (leaving (envOf qual scope L' f cdv) e) (fun _ s'' => R (.error e) s'') (fun e' s'' => R (.error e') s'') s')
        { s with heap := h₁, toks := s.toks + binds.length })
    (hco : scope.isCoroutine = false) (hgen : scope.isGenerator = false) (hk : scope.kind = .function)
    (hcell : ∀ x ∈ scope.names, x.2 ≠ .cell) : codeG (model prog w) A (.call (.ref f) args) R s := by
  have X := X₀.keeps F.keep
  obtain ⟨FG, BG, st, lv⟩ := groundX (R := R) B F N hA hf hke
  refine codeG_call_function hroom (X _ _ ho) rfl hco hgen rfl (codeRec_of X hcd) (hbind _ _ _ _ ?_)
  refine wpAny_newFunctionEnv hcell hloc (fun h₁ hns₀ hsb₀ => ⟨(T.nolimit.keeps F.keep).fresh _ hsb₀, codeG_func ?_⟩) hk
  have hk₁ : ∀ b o, s.heap.get? b = some o → h₁.get? b = some o := fun b o e => hsb₀.extBut b o (Nat.ne_of_lt (Heap.lt_size e)) (Heap.get?_push_of_some _ e)
  exact wpG_mono (h _ s.heap.objs.size h₁ FG ⟨hns₀, fun b o e => hk₁ b o (of_hideAll _ e), Nat.le_of_eq (hideAll_size _ _)⟩
    (fun p hp => ⟨hk₁ _ _ (N p hp).1, Nat.ne_of_lt (Heap.lt_size (N p hp).1), hideAll_none _ (List.mem_map_of_mem hp)⟩) BG (X₀.keeps st) (T.keeps st)) (fun fl s' hl => lv _ _ hl) fun _ _ y => y
end
end Mine
end
section -- G1
open PySem PySem.Spec PySem.Calls PyProof.Rows PySem.W
set_option maxRecDepth 1000000
set_option maxHeartbeats 8000000
namespace Mine
theorem quiet_G1 : True := by
  w_top off
  trivial
theorem ba_mro : mroOf (.type "bytearray") = pure [.type "bytearray", .type "object"] := by rw [mroOf_type]; kernel_rfl
theorem ba_lookup_new : typeLookup (.type "bytearray") "__new__" = pure (some (.builtin "bytearray.__new__")) := by rw [typeLookup_type, builtinLookup_eq_fast]; kernel_rfl
theorem ba_sub : isSubtype (.type "bytearray") (.type "bytearray") = pure true := by rw [isSubtype_type]; kernel_rfl
theorem ba_slot_init : Slot "bytearray" "__init__" "bytearray.__init__" :=
  .of (owner := "bytearray") (n := "__init__") (by rw [typeLookup_type, builtinLookup_eq_fast]; kernel_rfl) (by decide +kernel) (by decide +kernel) (by decide +kernel)
    (by first | exact .inl (by decide +kernel) | exact .inr (by decide +kernel)) ba_sub
theorem ba_called : TypeCalled "bytearray" "bytearray.__new__" "bytearray.__init__" :=
  ⟨by decide +kernel, by decide +kernel, ⟨_, _, ba_mro⟩, madeBy_type ba_mro ba_lookup_new (by decide +kernel), by decide +kernel, ba_sub, ba_slot_init⟩
theorem ba_typeCall (a : Value) : checkTypeCall "bytearray" ⟨[a], []⟩ = pure () := by kernel_rfl
theorem ba_newCall (a : Value) : checkBuiltinCall "bytearray.__new__" ⟨[.type "bytearray", a], []⟩ = pure () := by kernel_rfl
theorem ba_entry_new : entryFor table "bytearray.__new__" = some Builtin.«list.__new__» := entryFor_alias (id' := "list.__new__") (by kernel_rfl) (by first | rfl | decide +kernel) (by decide +kernel) (by kernel_rfl)
theorem ba_entry_init : entryFor table "bytearray.__init__" = some Builtin.«bytearray.__init__» := by first | exact entryFor_of_fast (by kernel_rfl) | exact entryFor_of_tree (by kernel_rfl)
theorem ba_plain_new : plainId "bytearray.__new__" = true := by decide +kernel
set_option maxHeartbeats 4000000 in
theorem ba_owner : ("bytearray.__new__".splitOn ".__new__").headD "" = "bytearray" := by simp +decide [String.splitOn, String.splitOnAux]
theorem ba_bind (v : Value) : Builtin.Bytes.bindOptional "bytearray.__init__" "bytearray" ["source", "encoding", "errors"] [v] [] = pure [some v, none, none] := by kernel_rfl
theorem ba_args (o a : Value) : argsOk "bytearray.__init__" ⟨[o, a], []⟩ := by unfold argsOk; kernel_rfl
theorem ba_look_release : typeLookup (.type "bytearray") "__release_buffer__" = pure (some (.builtin "bytearray.__release_buffer__")) := by rw [typeLookup_type, builtinLookup_eq_fast]; kernel_rfl
section
variable {prog : Program} {w : World} {A : Around} {E : Value → Shared → Prop} {s : Shared}
theorem code_ba_new (a : Value) {Q₁ : Value → Shared → Prop}
    (h : Q₁ (.ref s.heap.objs.size) { s with heap := s.heap.push { cls := .type "bytearray", data := .bytearray #[] } }) :
    codeAny (model prog w) A (.call (.builtin "bytearray.__new__") ⟨[.type "bytearray", a], []⟩) (wants Q₁ E) s := by
  refine codeAny_of_tree ?_
  show wpAny _ A.in1 (do checkBuiltinCall "bytearray.__new__" ⟨[.type "bytearray", a], []⟩; again (.builtin "bytearray.__new__" ⟨[.type "bytearray", a], []⟩)) _ _ s
  refine wpAny_bind (wpAny_of_eq (ba_newCall a) (wpAny_pure ⟨plainId_quiet ba_plain_new _, codeAny_builtin_stack ba_entry_new rfl fun p st => ?_⟩))
  rw [Around.under_plainId ba_plain_new _]
  have hsub := ba_sub
  have hown := ba_owner
  obtain ⟨hp, g, d, tk, os⟩ := s
  simp only [hown]
  wp_walk
  exact h
end
end Mine
end
section -- G2
open PySem PySem.Spec PySem.Calls PyProof.Rows PySem.W
set_option maxRecDepth 1000000
set_option maxHeartbeats 8000000
namespace Mine
theorem quiet_G2 : True := by
  w_top off
  trivial
theorem ba_asStr (i : Int) (t : Tok) : asStr? (.int i t) = pure none := rfl
theorem ba_attempt (i : Int) (t : Tok) : (asIndex (.int i t)).attempt = pure (Except.ok i) := rfl
theorem ba_int_index : typeLookup (.type "int") "__index__" = pure (some (.builtin "int.__index__")) := by rw [typeLookup_type, builtinLookup_eq_fast]; kernel_rfl
theorem ba_special (i : Int) (t : Tok) : specialOf (.int i t) (Str.ofString "__index__") = pure (some (.builtin "int.__index__")) := by
  have e : specialOf (.int i t) (Str.ofString "__index__") = typeLookup (.type "int") (Str.ofString "__index__") := rfl
  rw [e]
  exact ba_int_index
section
variable {prog : Program} {w : World} {A : Around} {E : Value → Shared → Prop} {s : Shared}
theorem not_exported {a : Addr} {Q : Bool → Shared → Prop} (hg : A.guards = some []) (h : Q false s) : wpG (model prog w) A (Builtin.Bytes.exported (.ref a)) Q E s := fun Γ p hΓ h1 h2 => by
  have hno : guardsOf ((Γ.code, p) :: Γ.below) = [] := by rw [guardsOf_cons]; exact hΓ.2.2.2.1 _ hg
  have key : ∀ x ∈ (Γ.code, p) :: Γ.below, x.1.isGuard = false ∧ isDec x.1 = false := fun x hx => by
    refine ⟨?_, ?_⟩
    · cases hq : x.1.isGuard with
      | false => rfl
      | true =>
        have : x.1 ∈ guardsOf ((Γ.code, p) :: Γ.below) := List.mem_filter.mpr ⟨List.mem_map_of_mem hx, hq⟩
        rw [hno] at this
        exact absurd this List.not_mem_nil
    · rcases List.mem_cons.mp hx with rfl | hx
      · exact h1
      · exact h2 x hx
  unfold Builtin.Bytes.exported
  show Q (List.any ((Γ.code, p) :: Γ.below) _) s
  rw [List.any_eq_false.mpr fun x hx => ?_]
  · exact h
  · obtain ⟨hgd, hdc⟩ := key x hx
    obtain ⟨c, q⟩ := x
    dsimp only at hgd hdc
    split
    · rename_i e; cases e; exact absurd (show guardIds.contains "bytearray.__contains__" = false from hgd) (by decide +kernel)
    · rename_i e; cases e; exact absurd (show guardIds.contains "bytearray.__mod__" = false from hgd) (by decide +kernel)
    · rename_i e; cases e; exact absurd (show guardIds.contains "bytearray.__rmod__" = false from hgd) (by decide +kernel)
    · rename_i e; cases e; exact absurd (show guardIds.contains "_struct.pack_into.held" = false from hgd) (by decide +kernel)
    · rename_i e; cases e; exact absurd (show guardIds.contains "bytearray.find.held" = false from hgd) (by decide +kernel)
    · rename_i e
      cases e
      have hdc' : Builtin.Bytes.decodersThatHold.contains _ = false := hdc
      rw [hdc', Bool.and_false]
      exact Bool.false_ne_true
    · exact Bool.false_ne_true
theorem no_release {a : Addr} {Q : Bool → Shared → Prop} (hT : s.TypeIs (.ref a) "bytearray") (h : Q false s) : wpAny (model prog w) A (Builtin.Bytes.ownRelease (.ref a)) Q E s := by
  unfold Builtin.Bytes.ownRelease Builtin.Bytes.slotIsOwn
  refine wpAny_bind (wpAny_bind (wpAny_specialOf hT ba_look_release ?_))
  dsimp only
  rw [if_neg (by decide +kernel)]
  refine wpAny_mono (wpAny_isInstance (b := true) hT ?_ ?_ (Q := fun b s' => b = true ∧ s' = s)) (fun b s' hb => ?_) fun _ _ e => e
  · rw [show String.dropRight "bytearray.__release_buffer__" ("__release_buffer__".length + 1) = "bytearray" by decide +kernel]
    exact ba_sub
  · exact ⟨rfl, rfl⟩
  · obtain ⟨rfl, rfl⟩ := hb
    exact wpAny_pure h
theorem ba_write {a : Addr} {b : Array UInt8} {f : Array UInt8 → Array UInt8} {Q : Unit → Shared → Prop} (ha : s.heap.get? a = some { cls := .type "bytearray", data := .bytearray b }) (hz : (f b).size ≤ sizeLine)
    (h : ∀ h', h'.get? a = some { cls := .type "bytearray", data := .bytearray (f b) } → Heap.SameBut a s.heap h' → Q () { s with heap := h' }) : wpAny (model prog w) A (Builtin.Bytes.write (.ref a) f) Q E s := by
  show wpAny _ _ (updateBytearray a f) _ _ _
  unfold updateBytearray
  refine wpAny_bind (wpAny_load ha ?_)
  show wpAny _ _ (update a (Obj.mapBytearray f) >>= fun _ => lookBehind a) _ _ _
  refine wpAny_bind (wpAny_update ha ?_)
  have h2 : (s.heap.update a (Obj.mapBytearray f)).get? a = some { cls := .type "bytearray", data := .bytearray (f b) } := Heap.get?_update_self (Obj.mapBytearray f) ha rfl
  refine wpAny_lookBehind h2 ?_ (h _ h2 (Heap.SameBut.update ..))
  show (if (f b).size > sizeLine then some "bytearray:memory" else none) = none
  rw [if_neg (by omega)]
theorem ba_init {a : Addr} {n : Nat} {t : Tok} {Q : Fin → Shared → Prop} (hg : A.guards = some []) (hn : n ≤ 100000) (ha : s.heap.get? a = some { cls := .type "bytearray", data := .bytearray #[] })
    (h : ∀ h' tk, h'.get? a = some { cls := .type "bytearray", data := .bytearray (Array.replicate n 0) } → (∀ b o, b ≠ a → s.heap.get? b = some o → h'.get? b = some o) → Q (.done (.ret .none)) { s with heap := h', toks := tk }) :
    wpG (model prog w) A (Builtin.«bytearray.__init__» ⟨[.ref a, .int (n : Int) t], []⟩) Q E s := by
  have hT : s.TypeIs (.ref a) "bytearray" := ⟨_, ha, rfl⟩
  unfold Builtin.«bytearray.__init__»
  dsimp only
  refine wpG_bindA (no_release hT ?_)
  rw [if_neg Bool.false_ne_true, ba_bind]
  refine wpG_bindA (wpAny_pure ?_)
  dsimp only
  refine wpG_bindA (wpAny_of_eq (a := ()) rfl ?_)
  refine wpG_bindA (wpAny_of_eq (a := ()) rfl ?_)
  refine wpG_bind ?_
  show wpG _ _ (Builtin.Bytes.exported (.ref a) >>= _) _ _ _
  refine wpG_bind (not_exported hg (wpG_of ?_))
  show wpAny _ _ (Builtin.Bytes.exportsOf (.ref a) >>= fun b => pure (decide (b > 0))) _ _ _
  refine wpAny_bind ?_
  unfold Builtin.Bytes.exportsOf
  refine wpAny_bind (wpAny_load ha ?_)
  refine wpAny_pure (wpAny_pure ?_)
  rw [if_neg (by decide)]
  refine wpG_of ?_
  refine wpAny_bind (ba_write ha (by show (0 : Nat) ≤ sizeLine; exact Nat.zero_le _) fun h1 e1 x1 => ?_)
  rw [ba_asStr, pure_bind]
  simp only [Option.isSome_none, Bool.false_eq_true, if_false, pure_bind]
  rw [ba_special, pure_bind]
  simp only [Option.isSome_some, if_true]
  rw [ba_attempt, pure_bind]
  dsimp only
  with_reducible refine wpAny_ite_split (fun hc => ?_) fun _ => ?_
  · exfalso
    have hf : Builtin.Bytes.fitsIndex (n : Int) = true := by
      unfold Builtin.Bytes.fitsIndex
      rw [Bool.and_eq_true]
      exact ⟨decide_eq_true (by omega), decide_eq_true (by omega)⟩
    rw [hf] at hc
    exact Bool.false_ne_true hc
  with_reducible refine wpAny_ite_split (fun hc => ?_) fun _ => ?_
  · exfalso; omega
  with_reducible refine wpAny_ite_split (fun hc => ?_) fun _ => ?_
  · exfalso
    have := eq_of_beq hc
    omega
  with_reducible refine wpAny_ite_split (fun hc => ?_) fun _ => ?_
  · exfalso
    unfold Builtin.Bytes.tooLong at hc
    have := of_decide_eq_true hc
    rw [Int.toNat_natCast, sizeLine_eq] at this
    omega
  refine wpAny_bind (wpAny_rule ?_)
  with_reducible refine wpAny_ite_split (fun hc => ?_) fun hc => ?_
  · refine wpAny_bind (ba_write (s := { s with heap := h1 }) e1 (by rw [Array.size_replicate, Int.toNat_natCast, sizeLine_eq]; omega) fun h2 e2 x2 => ?_)
    refine wpAny_pure (h h2 _ (by rw [e2, Int.toNat_natCast]) fun b o hb e => ?_)
    exact x2.extBut b o hb (x1.extBut b o hb e)
  · have hn0 : n = 0 := by omega
    subst hn0
    refine wpAny_pure (h h1 _ e1 fun b o hb e => x1.extBut b o hb e)
end
end Mine
end
section -- G3
open PySem PySem.Spec PySem.Calls PyProof.Rows PySem.W
set_option maxRecDepth 1000000
set_option maxHeartbeats 8000000
namespace Mine
theorem quiet_G3 : True := by
  w_top off
  trivial
theorem ba_nodec (args : Args) : isDec (.builtin "bytearray.__init__" args) = false := (by decide +kernel : Builtin.Bytes.decodersThatHold.contains "bytearray.__init__" = false)
theorem wpG_ifneg {α : Type} {M : Model} {A : Around} {E : Value → Shared → Prop} {s : Shared} {c : Prop} [Decidable c] {a b : Sem α} {Q : α → Shared → Prop} (hc : ¬ c) (h : wpG M A b Q E s) : wpG M A (if c then a else b) Q E s := by
  rw [if_neg hc]; exact h
section
variable {prog : Program} {w : World} {A : Around} {E : Value → Shared → Prop} {s : Shared}
theorem ba_call {n : Nat} {t : Tok} {Q : Value → Shared → Prop} (hg : A.guards = some []) (hn : n ≤ 100000)
    (h : ∀ h' tk, h'.get? s.heap.objs.size = some { cls := .type "bytearray", data := .bytearray (Array.replicate n 0) } → (∀ b o, s.heap.get? b = some o → h'.get? b = some o) → Q (.ref s.heap.objs.size) { s with heap := h', toks := tk }) :
    wpG (model prog w) A (call (.type "bytearray") [.int (n : Int) t]) Q E s := by
  refine wpG_call (codeG_of_treeA ?_)
  show wpAny _ _ (callAny (.type "bytearray") _) _ _ _
  simp only [callAny]
  refine wpAny_pure ⟨Code.quiet_builtin _ (by decide +kernel), codeG_of_tree rfl ?_⟩
  show wpG _ _ (match entryFor table "type.__call__" with | some b => b ⟨[.type "bytearray", .int n t], []⟩ | none => unsupported ((withoutEnding? "type.__call__" "#data").getD "type.__call__")) _ _ s
  rw [F.entry_type_call]
  dsimp only
  have h1 := ba_called.notType
  have h2 := ba_called.canCreate
  have hmade := ba_called.made
  unfold Builtin.«type.__call__»
  simp only [h1, h2, ba_typeCall, ba_mro, hmade, pure_bind, List.isEmpty_cons, Bool.false_eq_true, if_false]
  have hgu : (A.under (Code.builtin "type.__call__" { pos := [Value.type "bytearray", Value.int (↑n) t] })).guards = some [] := by
    rw [Around.under_plain (weight_type_call_type "bytearray" [Value.int (↑n) t] []) rfl]; exact hg
  revert hgu
  generalize A.under (Code.builtin "type.__call__" { pos := [Value.type "bytearray", Value.int (↑n) t] }) = A1
  intro hgu
  refine wpG_bindA (wpAny_holding (wpAny_call (codeAny_mono (code_ba_new (E := E) (Q₁ := fun v s₁ => v = .ref s.heap.objs.size ∧ s₁ = { s with heap := s.heap.push { cls := .type "bytearray", data := .bytearray #[] } }) (.int n t) ⟨rfl, rfl⟩) fun r s₁ hr => ?_)))
  cases r with
  | error e => exact hr
  | ok fl =>
    cases fl with
    | ret obj =>
      obtain ⟨rfl, rfl⟩ := hr
      have hT : ({ s with heap := s.heap.push { cls := .type "bytearray", data := .bytearray #[] } } : Shared).TypeIs (.ref s.heap.objs.size) "bytearray" := ⟨_, Heap.get?_push_size _ rfl, rfl⟩
      refine wpG_bindA (wpAny_isInstance hT ba_sub ?_)
      simp only [Bool.not_true, Bool.false_eq_true, if_false]
      refine wpG_bind (wpG_holding ?_)
      simp only [callSpecial?]
      refine wpG_bindA (wpAny_specialOf hT ba_slot_init.lookup ?_)
      simp only [ba_slot_init.bind]
      refine wpG_holding (wpG_bindA (wpAny_pure (wpG_bind (wpG_call (codeG_of_treeA ?_)))))
      show wpAny _ A1.in1 (do checkBuiltinCall "bytearray.__init__" _; again (.builtin "bytearray.__init__" _)) _ _ _
      refine wpAny_bind (ba_slot_init.check _ _ _ _ _ _ _ _ hT (ba_args _ _) (wpAny_pure ⟨plainId_quiet ba_slot_init.plain _, codeG_of_tree (ba_nodec _) ?_⟩))
      show wpG _ _ (match entryFor table "bytearray.__init__" with | some b => b ⟨[.ref s.heap.objs.size, .int n t], []⟩ | none => unsupported ((withoutEnding? "bytearray.__init__" "#data").getD "bytearray.__init__")) _ _ _
      rw [ba_entry_init, Around.under_plainId ba_slot_init.plain _]
      dsimp only
      refine ba_init (A := A1.in1) hgu hn (Heap.get?_push_size _ rfl) fun h' tk e k => ?_
      show wpG _ A1 (pure (some Value.none)) _ _ _
      refine wpG_pure ?_
      dsimp only
      with_reducible refine wpG_ifneg ?_ ?_
      · decide
      · exact wpG_pure (h h' tk e fun b o e' => k b o (Nat.ne_of_lt (Heap.lt_size e')) (Heap.get?_push_of_some _ e'))
    | _ => exact hr.elim
end
end Mine
end
section -- G4
open PySem PySem.Spec PySem.Calls PyProof.Rows PySem.W
set_option maxRecDepth 100000
set_option maxHeartbeats 8000000
namespace Mine
theorem quiet_G4 : True := by
  w_top off
  trivial
theorem ba_no_bytes : typeLookup (.type "bytearray") "__bytes__" = pure none := by rw [typeLookup_type, builtinLookup_eq_fast]; kernel_rfl
theorem ba_no_index : typeLookup (.type "bytearray") "__index__" = pure none := by rw [typeLookup_type, builtinLookup_eq_fast]; kernel_rfl
theorem ba_look_buffer : typeLookup (.type "bytearray") "__buffer__" = pure (some (.builtin "bytearray.__buffer__")) := by rw [typeLookup_type, builtinLookup_eq_fast]; kernel_rfl
theorem ba_slot_set : Slot "bytearray" "__setitem__" "bytearray.__setitem__" :=
  .of (owner := "bytearray") (n := "__setitem__") (by rw [typeLookup_type, builtinLookup_eq_fast]; kernel_rfl) (by decide +kernel) (by decide +kernel) (by decide +kernel)
    (by first | exact .inl (by decide +kernel) | exact .inr (by decide +kernel)) ba_sub
theorem ba_entry_set : entryFor table "bytearray.__setitem__" = some Builtin.«bytearray.__setitem__» := by first | exact entryFor_of_fast (by kernel_rfl) | exact entryFor_of_tree (by kernel_rfl)
theorem ba_args_set (a b c : Value) : argsOk "bytearray.__setitem__" ⟨[a, b, c], []⟩ := by unfold argsOk; kernel_rfl
section
variable {prog : Program} {w : World} {A : Around} {E : Value → Shared → Prop} {s : Shared}
theorem ba_payload {a : Addr} {b : Array UInt8} {Q : Array UInt8 → Shared → Prop} (ha : s.heap.get? a = some { cls := .type "bytearray", data := .bytearray b }) (h : Q b s) : wpAny (model prog w) A (Builtin.Bytes.payload (.ref a)) Q E s := by
  unfold Builtin.Bytes.payload Builtin.Bytes.payload?
  refine wpAny_bind (wpAny_bind (wpAny_load ha ?_))
  exact wpAny_pure (wpAny_pure h)
theorem ba_subscript (i : Nat) (t : Tok) (hi : i ≤ 100000) : Builtin.Bytes.subscript? (.int (i : Int) t) = pure (some (i : Int)) := by
  unfold Builtin.Bytes.subscript?
  rw [ba_special, pure_bind]
  simp only [Option.isNone_some, Bool.false_eq_true, if_false]
  have e : asIndex (.int (i : Int) t) = pure (i : Int) := rfl
  rw [e, pure_bind]
  have hf : Builtin.Bytes.fitsIndex (i : Int) = true := by
    unfold Builtin.Bytes.fitsIndex
    rw [Bool.and_eq_true]
    exact ⟨decide_eq_true (by omega), decide_eq_true (by omega)⟩
  rw [hf]
  rfl
theorem ba_set {a : Addr} {b : Array UInt8} {i v : Nat} {t u : Tok} {Q : Unit → Shared → Prop} (ha : s.heap.get? a = some { cls := .type "bytearray", data := .bytearray b }) (hi : i < b.size) (hb : b.size ≤ 100000) (hv : v < 256)
    (h : ∀ h', h'.get? a = some { cls := .type "bytearray", data := .bytearray (b.setIfInBounds i (UInt8.ofNat v)) } → Heap.SameBut a s.heap h' → Q () { s with heap := h' }) : wpAny (model prog w) A (setItem (.ref a) (.int (i : Int) t) (.int (v : Int) u)) Q E s := by
  have hT : s.TypeIs (.ref a) "bytearray" := ⟨_, ha, rfl⟩
  unfold setItem
  with_reducible refine wpAny_holding ?_
  refine wpAny_bind (wpAny_sequenceKey hT (by decide) ?_)
  refine wpAny_bind (wpAny_callSpecial?_slot (name := Str.ofString "__setitem__") hT ba_slot_set
    (wpAny_call_entry ba_slot_set hT ba_entry_set ?_ (ba_args_set _ _ _)))
  unfold Builtin.«bytearray.__setitem__»
  dsimp only [List.isEmpty_nil]
  rw [if_neg (by decide), ba_subscript i t (by omega)]
  rw [pure_bind]
  dsimp only
  unfold Builtin.Bytes.byteValue
  have e : asIndex (.int (v : Int) u) = pure (v : Int) := rfl
  rw [e, pure_bind]
  have hlt : ((decide ((v : Int) < 0) || decide ((v : Int) ≥ 256)) = true) = False := by simp; omega
  simp only [hlt, if_false, pure_bind]
  refine wpAny_bind (ba_payload ha ?_)
  have hs : seqIndex? (i : Int) b.size = some i := by
    unfold seqIndex?
    dsimp only
    rw [if_neg (show ¬ ((i : Int) < 0) by omega)]
    have hc : (decide (0 ≤ (i : Int)) && decide ((i : Int) < (b.size : Int))) = true := by
      rw [Bool.and_eq_true]
      exact ⟨decide_eq_true (by omega), decide_eq_true (by omega)⟩
    rw [if_pos hc, Int.toNat_natCast]
  rw [hs]
  dsimp only
  refine wpAny_bind (ba_write ha (by rw [Array.size_setIfInBounds, sizeLine_eq]; omega) fun h1 e1 x1 => ?_)
  refine wpAny_pure ⟨.none, rfl, wpAny_pure (h h1 ?_ x1)⟩
  rw [e1]
  rfl
theorem ba_buffer {a : Addr} {b : Array UInt8} {id : String} {f : Bool} {Q : Option (Array UInt8) → Shared → Prop} (ha : s.heap.get? a = some { cls := .type "bytearray", data := .bytearray b }) (h : Q (some b) s) : wpAny (model prog w) A (Builtin.Bytes.buffer? id (.ref a) f) Q E s := by
  have hT : s.TypeIs (.ref a) "bytearray" := ⟨_, ha, rfl⟩
  unfold Builtin.Bytes.buffer?
  refine wpAny_bind (wpAny_specialOf hT ba_look_buffer ?_)
  dsimp only
  refine wpAny_bind ?_
  unfold Builtin.Bytes.slotIsOwn
  refine wpAny_bind (wpAny_specialOf hT ba_look_buffer ?_)
  dsimp only
  rw [if_neg (by decide +kernel)]
  rw [show String.dropRight "bytearray.__buffer__" ("__buffer__".length + 1) = "bytearray" by decide +kernel]
  refine wpAny_isInstance hT ba_sub ?_
  rw [if_neg (by decide)]
  refine wpAny_bind (wpAny_specialOf hT ba_look_buffer ?_)
  refine wpAny_bind (no_release hT ?_)
  rw [if_neg Bool.false_ne_true]
  exact wpAny_bind (ba_payload ha (wpAny_pure h))
theorem ba_bytes {a : Addr} {b : Array UInt8} {Q : Value → Shared → Prop} (ha : s.heap.get? a = some { cls := .type "bytearray", data := .bytearray b }) (hb : b.size ≤ 100000)
    (h : ∀ t k, Q (.bytes b t) { s with toks := k }) : wpAny (model prog w) A (call (.type "bytes") [.ref a]) Q E s := by
  have hT : s.TypeIs (.ref a) "bytearray" := ⟨_, ha, rfl⟩
  refine callType_codes (Q₁ := fun obj s₁ => s₁.TypeIs obj "bytes" ∧ Q obj s₁) F.bm_called (F.bm_typeCall _) F.entry_object_init ?_ fun obj s₁ h₁ =>
    ⟨h₁.1, F.args_object_init_2 obj _, object_init_meets F.bm_called.init.lookup F.bm_called.made (by decide) prog w A.in1 _ s₁ ⟨h₁.1, rfl, h₁.2⟩⟩
  refine codeAny_of_tree ?_
  show wpAny _ A.in1.in1 (do checkBuiltinCall "bytes.__new__" ⟨[.type "bytes", .ref a], []⟩; again (.builtin "bytes.__new__" ⟨[.type "bytes", .ref a], []⟩)) _ _ s
  refine wpAny_bind (wpAny_of_eq (F.bm_newCall _) (wpAny_pure ⟨plainId_quiet F.bm_plain _, codeAny_builtin F.bm_entry ?_⟩))
  rw [Around.under_plainId F.bm_plain _]
  unfold Builtin.«bytes.__new__»
  refine wpAny_bind (wpAny_of_eq (a := true) rfl ?_)
  refine bm_if_false rfl ?_
  refine wpAny_bind (wpAny_of_eq F.bm_sub ?_)
  refine bm_if_false rfl ?_
  refine wpAny_bind (wpAny_of_eq (F.bm_bind _) ?_)
  refine wpAny_bind (wpAny_of_eq (a := ()) rfl ?_)
  refine wpAny_bind (wpAny_of_eq (a := ()) rfl ?_)
  refine bm_if_false rfl ?_
  refine wpAny_bind (wpAny_specialOf hT ba_no_bytes ?_)
  refine wpAny_bind (wpAny_bind ?_)
  show wpAny _ _ (load a >>= _) _ _ _
  refine wpAny_bind (wpAny_load ha ?_)
  refine wpAny_pure (wpAny_pure ?_)
  refine bm_if_false rfl ?_
  refine wpAny_bind (wpAny_specialOf hT ba_no_index ?_)
  refine bm_if_true rfl ?_
  first
    | show wpAny _ _ (Builtin.Bytes.buffer? "bytes.__new__" (.ref a) true >>= _) _ _ _
    | (refine wpAny_bind ?_; show wpAny _ _ (Builtin.Bytes.buffer? "bytes.__new__" (.ref a) true >>= _) _ _ _)
  refine wpAny_bind (ba_buffer ha ?_)
  dsimp only
  refine wpAny_bind (wpAny_rule ?_)
  refine wpAny_bind (wpAny_mkBytes ?_ (by rw [sizeLine_eq]; omega))
  show wpAny _ _ (if (Value.type "bytes" == Value.type "bytes") = true then _ else _) _ _ _
  refine bm_if_true (by decide) ?_
  first
    | exact wpAny_pure ⟨typeIs_bytes _ _ _, h _ _⟩
    | exact wpAny_bind (wpAny_pure (wpAny_pure ⟨typeIs_bytes _ _ _, h _ _⟩))
end
end Mine
end
section -- G5
open PySem PySem.Spec PySem.Calls PyProof.Rows PySem.W
set_option maxRecDepth 100000
set_option maxHeartbeats 4000000
namespace Mine
theorem quiet_G5 : True := by
  w_top off
  trivial
section
variable {M : Model} {A : Around} {E : Value → Shared → Prop} {s : Shared} {env : Env}
theorem wpG_execs_cons {st : Stmt} {rest : List Stmt} {Q : Flow → Shared → Prop}
    (h : wpG M A (exec st env) (fun f s' => match f with | .next => wpG M A (execs rest env) Q E s' | f => Q f s') E s) : wpG M A (execs (st :: rest) env) Q E s := by
  rw [execs_cons]
  refine wpG_bind (wpG_mono h (fun f s' h' => ?_) fun _ _ e => e)
  cases f <;> first | exact h' | exact wpG_pure h'
theorem wpG_execs_consA {st : Stmt} {rest : List Stmt} {Q : Flow → Shared → Prop}
    (h : wpAny M A (exec st env) (fun f s' => match f with | .next => wpG M A (execs rest env) Q E s' | f => Q f s') E s) : wpG M A (execs (st :: rest) env) Q E s := wpG_execs_cons (wpG_of h)
theorem wpG_Assign_Name {x : Str} {pos' : Pos} {value : PySem.Expr} {pos : Pos} {Q : Flow → Shared → Prop}
    (h : wpG M A (eval value env) (fun v s₁ => wpAny M A (storeName env x v) (fun _ => Q .next) E s₁) E s)
    (hs : swapsWith value (some (.Name x pos')) pos.line env = pure false := by rfl) :
    wpG M A (exec (.Assign [.Name x pos'] value pos) env) Q E s := fun Γ p hΓ h1 h2 => by
  simp only [exec_Assign_Name env x pos' value pos hs, Sem.wp_bind', Sem.wp_cmd_standAt, Sem.wp_bindName, Sem.wp_pure']
  exact Sem.wp_mono M Γ _ (fun v _ s₁ h₁ => h₁ Γ _ hΓ) (fun _ _ _ h' => h') _ _ (h Γ _ hΓ h1 h2)
theorem wpG_Return {e : PySem.Expr} {pos : Pos} {Q : Flow → Shared → Prop} (h : wpG M A (eval e env) (fun v => Q (.ret v)) E s) :
    wpG M A (exec (.Return (some e) pos) env) Q E s := fun Γ p hΓ h1 h2 => by
  simp only [exec_Return_some, Sem.wp_bind', Sem.wp_cmd_standAt, Sem.wp_pure']; exact h Γ _ hΓ h1 h2
theorem wpG_keep {α : Type} {vs : List Value} {m : Sem α} {Q : α → Shared → Prop} (h : wpG M A m Q E s) : wpG M A (m.keep vs) Q E s :=
  fun Γ p hΓ h1 h2 => by rw [Sem.wp_keep]; exact h Γ p hΓ h1 h2
theorem callG_type {pos : Pos} {T : String} {first : List Value} {args : List (Bool × Sem Value)} {Q : Value → Shared → Prop} (hplain : args.any (·.1) = false)
    (h : wpAny M A (evalArgs (.type T) true args []) (fun a s₁ => wpG M A (call (.type T) (first ++ a.pos) a.kw) Q E s₁) E s) :
    wpG M A (callWith pos (.type T) first args []) Q E s := by
  unfold callWith
  refine wpG_bindA (wpAny_holding (wpAny_mono h (fun a s₁ h₁ => wpG_bindA (wpAny_standAt ?_)) fun _ _ x => x))
  simp only [hplain, List.any_nil, Bool.or_false]
  refine wpG_bindA (wpAny_pure ?_)
  exact wpG_bind (wpG_mono h₁ (fun r s₂ hr => wpG_bindA (wpAny_holding (wpAny_point (wpG_pure hr)))) fun _ _ x => x)
theorem callG_function {pos : Pos} {a : Addr} {o : Obj} {fd : FuncData} {first : List Value} {args : List (Bool × Sem Value)} {Q : Value → Shared → Prop}
    (h : wpAny M A (evalArgs (.ref a) true args []) (fun x s₁ => (s₁.heap.get? a = some o ∧ o.data = .func fd) ∧ wpG M A (call (.ref a) (first ++ x.pos) x.kw) Q E s₁) E s) :
    wpG M A (callWith pos (.ref a) first args []) Q E s := by
  unfold callWith
  refine wpG_bindA (wpAny_holding (wpAny_mono h (fun x s₁ h₁ => wpG_bindA (wpAny_standAt ?_)) fun _ _ x => x))
  have tail : ∀ {t : Sem Value}, wpG M A t Q E s₁ → wpG M A (t >>= fun r => holding [r] point >>= fun _ => pure r) Q E s₁ :=
    fun ht => wpG_bind (wpG_mono ht (fun r s₂ hr => wpG_bindA (wpAny_holding (wpAny_point (wpG_pure hr)))) fun _ _ x => x)
  cases hs : args.any (·.1) <;> simp only [List.any_nil, Bool.or_false] <;>
    refine wpG_bindA (m := keeperOf (.ref a)) ?_ <;> unfold keeperOf <;>
    refine wpAny_bind (wpAny_load h₁.1.1 ?_) <;> rw [h₁.1.2] <;> refine wpAny_pure ?_
  · dsimp only
    split <;> first
      | exact tail h₁.2
      | exact tail (by unfold callMarked; exact wpG_keep h₁.2)
  · first
      | exact tail (by unfold callMarked; exact wpG_keep h₁.2)
      | exact tail h₁.2
theorem callG_Name {x : Str} {p pos : Pos} {args : List PySem.Expr} {Q : Value → Shared → Prop}
    (h : wpAny M A (eval (.Name x p) env) (fun f s₁ => wpG M A (callWith pos f [] (backTo pos (starEach args env)) []) Q E s₁) E s) :
    wpG M A (eval (.Call (.Name x p) args [] pos) env) Q E s := wpG_bindA h
theorem callG_type1 {pos : Pos} {T : String} {e : PySem.Expr} {rest : List PySem.Expr} {Q : Value → Shared → Prop}
    (h : wpAny M A (spliced (backTo pos (starEach (e :: rest) env))) (fun vs s₁ => wpG M A (call (.type T) vs) Q E s₁) E s)
    (he : starEach (e :: rest) env = (false, eval e env) :: starEach rest env := by rfl)
    (hplain : (backTo pos (starEach rest env)).any (·.1) = false := by rfl) :
    wpG M A (callWith pos (.type T) [] (backTo pos (starEach (e :: rest) env)) []) Q E s := by
  rw [he] at h ⊢
  exact callG_type (by show (false || (backTo pos (starEach rest env)).any (·.1)) = false; rw [hplain]; rfl) (evalArgs_plain h)
theorem callG_def {pos : Pos} {f : Addr} {o : Obj} {fd : FuncData} {e : PySem.Expr} {rest : List PySem.Expr} {Q : Value → Shared → Prop} (hdat : o.data = .func fd)
    (h : wpAny M A (spliced (backTo pos (starEach (e :: rest) env))) (fun vs s₁ => s₁.heap.get? f = some o ∧ wpG M A (call (.ref f) vs) Q E s₁) E s)
    (he : starEach (e :: rest) env = (false, eval e env) :: starEach rest env := by rfl) :
    wpG M A (callWith pos (.ref f) [] (backTo pos (starEach (e :: rest) env)) []) Q E s := by
  rw [he] at h ⊢
  exact callG_function (o := o) (fd := fd) (evalArgs_plain (wpAny_mono h (fun vs s₁ h₁ => ⟨⟨h₁.1, hdat⟩, h₁.2⟩) fun _ _ x => x))
end
end Mine
end
section -- Z1
open PySem PySem.Spec PySem.Calls PyProof.Rows PySem.W
set_option maxRecDepth 100000
set_option maxHeartbeats 8000000
namespace Mine
theorem quiet_Z1 : True := by
  w_top off
  trivial
local macro_rules | `(tactic| k_steps) => `(tactic| repeat' ((fail_if_success (with_reducible show wpAny _ _ (exec (Stmt.While _ _ _ _) _) _ _ _)); (fail_if_success (with_reducible show wpG _ _ _ _ _ _)); (first | (k_unfold; (try dsimp only)) | (k_end; kc_close) | walk1 | (dsimp only; walk1) | (leave1; walk_say "STEP leave1"; (try dsimp only)) | fail "no step")))
local macro_rules | `(tactic| k_all) => `(tactic| assumption)
local macro_rules | `(tactic| walk_at "exec For Name Call cons nil") => `(tactic| (k_here; with_unfolding_all refine wpAny_For ?_))
abbrev baObj (b : Array UInt8) : Obj := { cls := .type "bytearray", data := .bytearray b }
section
variable {prog : Program} {w : World} {A : Around} {E : Value → Shared → Prop} {s : Shared} {env : Env} {h₀ : Heap}
theorem for_rangeK {x : Str} {px : Pos} {body : List Stmt} {r : Addr} {a b c : Int} {t u v : Tok} {n : Nat} {m : Str → Option Value} {nx₀ : List (Addr × Obj)} {Q : Flow → Shared → Prop} {X : Value → Shared → Prop}
    (hh : A.handled = none) (hr : IsRange s.heap r a b c t u v) (hsm : Builtin.Range.small a b c = true) (hn : Builtin.Range.rangeSize a b c = ((n : Nat) : Int)) (hx : env.kindOf x = some .local)
    (hp : (env.scope.kind == .class || (env.scope.kind == .module && env.locals != env.globals)) = false)
    (F : Fr h₀ env.locals s.heap m) (N : News h₀ env.locals s.heap nx₀)
    (R : Nat → (Str → Option Value) → List (Addr × Obj) → Shared → Prop) (hRt : ∀ i m nx s h tk, R i m nx s → R i m nx { s with heap := h, toks := tk }) (h0 : R 0 m nx₀ s)
    (turn : ∀ i tk m₁ nx s₁ I oI, i < n → R i m₁ nx s₁ → (∀ p ∈ nx₀, @LT.lt Nat _ p.1 I) → (∀ p ∈ nx, @Ne Nat p.1 I) → Fr h₀ env.locals s₁.heap (fun y => if y = x then some (.int (a + (i : Int) * c) tk) else m₁ y) → News h₀ env.locals s₁.heap ((I, oI) :: nx) →
      wpAny (model prog w) A (execs body env) (TurnPost h₀ env.locals I oI (R (i + 1))) (fun _ _ => False) s₁)
    (done : ∀ m₁ nx s₁, R n m₁ nx s₁ → Fr h₀ env.locals s₁.heap m₁ → News h₀ env.locals s₁.heap nx → Q .next s₁) :
    wpAny (model prog w) A (pyIter (.ref r)) (fun it s₂ => codeAny (model prog w) A (.forLoop (.Name x px) it body [] env) (fun r s' => match r with | .ok f => Q f s' | .error e => X e s') s₂) E s := by
  refine wpAny_pyIter_range hr hsm ?_
  have hI : ∀ p ∈ nx₀, p.1 < s.heap.objs.size := fun p hp => Heap.lt_size (N p hp).1
  have hLI : env.locals < s.heap.objs.size := F.ns.lt
  refine for_walk (Walks.range hh _ a c n) (fun i h st => ⟨_, st⟩) hx hp (Nat.ne_of_lt hLI) (Heap.get?_none_of_le (Nat.le_trans F.above (Nat.le_of_lt hLI))) ?_ (F.push _)
    (fun p hp => ⟨Heap.get?_push_of_some _ (N p hp).1, (N p hp).2⟩) (fun p hp => Nat.ne_of_lt (hI p hp)) R hRt (hRt _ _ _ _ _ _ h0) (fun i v m₁ nx s₁ oI hi hv hR hn' F' N' => ?_) done
  · rw [hn]
    show (s.heap.push _).get? _ = _
    rw [Heap.get?_push_size _ rfl]
    simp [rawInt]
  · obtain ⟨tk, rfl⟩ := hv
    exact turn i tk m₁ nx s₁ _ oI hi hR hI hn' F' N'
end
theorem item_oc {prog : Program} {w : World} {A : Around} {E : Value → Shared → Prop} {s : Shared} {tape : List Nat} {value slice : PySem.Expr} {i : Int} {t u : Tok} {Q : Value → Shared → Prop} (hl : tape.length ≤ 200) (ht : ∀ o ∈ tape, o < 256) (h0 : 0 ≤ i) (h1 : i < (tape.length : Int))
    (h : ∀ t' k, Q (.int (tape.getD i.toNat 0 : Nat) t') { s with toks := k })
    (hs : subscripted slice false (.bytes (oc tape) t) (.int i u) = operate [.bytes (oc tape) t, .int i u] (getItem (.bytes (oc tape) t) (.int i u)) := by with_unfolding_all rfl)
    (hg : ∀ r, letTemporaryGo value (.bytes (oc tape) t) r = pure () := by intro _; with_unfolding_all rfl) : wpAny (model prog w) A (subscriptTail value slice (.bytes (oc tape) t) (.int i u)) Q E s := by
  have hk : KBw.bInts (oc tape) = tape.map fun (o : Nat) => (o : Int) := KBa.ints_make fun n hn => by
    obtain ⟨o, ho, rfl⟩ := List.mem_map.mp hn
    have := ht o ho
    omega
  refine KBw.item_K hk (by simp; omega) h0 (by simpa using h1) (fun t' k _ _ => ?_) hs hg
  have e : (tape.map fun (o : Nat) => (o : Int)).getD i.toNat 0 = ((tape.getD i.toNat 0 : Nat) : Int) := by
    simp only [List.getD, List.getElem?_map]
    cases tape[i.toNat]? <;> rfl
  rw [e]
  exact h t' k
theorem ba_setK {prog : Program} {w : World} {A : Around} {E : Value → Shared → Prop} {s : Shared} {h₀ : Heap} {L a : Addr} {m : Str → Option Value} {news news' : List (Addr × Obj)} {b : Array UInt8} {i : Int} {v : Nat} {t u : Tok} {Q : Unit → Shared → Prop}
    (F : Fr h₀ L s.heap m) (N : News h₀ L s.heap news) (U : Upd a (baObj b) (baObj (b.setIfInBounds i.toNat (UInt8.ofNat v))) news news') (h0 : 0 ≤ i) (h1 : i < (b.size : Int)) (hb : b.size ≤ 100000) (hv : v < 256)
    (h : ∀ h', Fr h₀ L h' m → News h₀ L h' news' → Q () { s with heap := h' }) : wpAny (model prog w) A (setItem (.ref a) (.int i t) (.int (v : Nat) u)) Q E s := by
  obtain ⟨pre, post, hl, hl', e1, e2⟩ := U.split
  have hmem : (a, baObj b) ∈ news := by rw [hl]; exact List.mem_append_right _ (.head _)
  have hm := N _ hmem
  obtain ⟨k, rfl⟩ := Int.eq_ofNat_of_zero_le h0
  refine ba_set hm.1 (by omega) hb hv fun h' hx hs => h h' (F.change hs hm.2.1 hm.2.2) ?_
  rw [hl']
  exact (show News h₀ L s.heap (pre ++ (a, baObj b) :: post) from hl ▸ N).setIn e1 e2 hs hx
theorem rsize1 (n : Nat) : Builtin.Range.rangeSize 0 (n : Int) 1 = ((n : Nat) : Int) := by
  unfold Builtin.Range.rangeSize
  by_cases h : 0 < n
  · rw [if_pos (by decide), if_pos (by omega)]; omega
  · rw [if_pos (by decide), if_neg (by omega)]; omega
theorem rsizeN (n : Nat) (h : 0 < n) : Builtin.Range.rangeSize 0 (n : Int) (n : Int) = ((1 : Nat) : Int) := by
  unfold Builtin.Range.rangeSize
  rw [if_pos (by omega), if_pos (by omega)]
  have : ((n : Int) - 0 - 1) / (n : Int) = 0 := Int.ediv_eq_zero_of_lt (by omega) (by omega)
  rw [this]
  rfl
local macro_rules | `(tactic| walk_at "subscriptTail") => `(tactic| (k_here; k_dflt (refine' item_oc ?k1 ?k2 ?k3 ?k4 ?_; (case k1 => assumption); (case k2 => assumption); (case k3 => omega); (case k4 => omega)); intro t' k'; (try dsimp only)))
local macro_rules | `(tactic| walk_at "setItem ref int") => `(tactic| (k_here; k_dflt (refine' ba_setK ?k1 ?k2 ?k3 ?k4 ?k5 ?k6 ?k7 ?_; (case k2 => k_asm); (case k3 => k_upd); (case k1 => k_asm); (case k4 => omega); (case k5 => omega); (case k6 => omega); (case k7 => assumption)); intro h' F' N'; (try dsimp only at N'); (try dsimp only)))
def OutR (tape : List Nat) (tb t2 : Tok) (ba : Addr) (news : List (Addr × Obj)) (s0 : Shared) (i : Nat) (m : Str → Option Value) (nx : List (Addr × Obj)) (s : Shared) : Prop :=
  ∃ b, nx = (ba, baObj b) :: news ∧ b.size = tape.length ∧ (i = 1 → b = oc tape.reverse) ∧ m "data" = some (.bytes (oc tape) tb) ∧ m "width" = some (.int (tape.length : Nat) t2) ∧ m "swapped_data" = some (.ref ba) ∧ s.gens = s0.gens ∧ s.os = s0.os
def SwapR (tape : List Nat) (tb t2 : Tok) (ba : Addr) (news : List (Addr × Obj)) (s0 : Shared) (j : Nat) (m : Str → Option Value) (nx : List (Addr × Obj)) (s : Shared) : Prop :=
  ∃ b ti, nx = (ba, baObj b) :: news ∧ b.size = tape.length ∧ (∀ k, k < j → b[tape.length - 1 - k]? = some (UInt8.ofNat (tape.getD k 0))) ∧ m "data" = some (.bytes (oc tape) tb) ∧ m "width" = some (.int (tape.length : Nat) t2) ∧ m "swapped_data" = some (.ref ba) ∧ m "i" = some (.int 0 ti) ∧ s.gens = s0.gens ∧ s.os = s0.os
theorem fits_long {x : Int} (h0 : 0 ≤ x) (h1 : x ≤ 1000) : Builtin.Range.rangeFitsLong x = true := by
  unfold Builtin.Range.rangeFitsLong
  simp
  omega
theorem small_ok {b c : Nat} (hb : b ≤ 200) (hc : c ≤ 200) (hc0 : 0 < c) : Builtin.Range.small 0 (b : Int) (c : Int) = true := by
  unfold Builtin.Range.small
  simp only [Builtin.Range.rangeSize]
  rw [if_pos (show (c : Int) > 0 by omega)]
  have hq : 0 ≤ (if (0 : Int) < (b : Int) then ((b : Int) - 0 - 1) / (c : Int) + 1 else 0) ∧ (if (0 : Int) < (b : Int) then ((b : Int) - 0 - 1) / (c : Int) + 1 else 0) ≤ 1000 := by
    by_cases h : (0 : Int) < b
    · rw [if_pos h]
      have h1 : ((b : Int) - 0 - 1) / (c : Int) ≤ (b : Int) - 0 - 1 := Int.ediv_le_self _ (by omega)
      have h2 : 0 ≤ ((b : Int) - 0 - 1) / (c : Int) := Int.ediv_nonneg (by omega) (by omega)
      exact ⟨by omega, by omega⟩
    · rw [if_neg h]
      exact ⟨by decide, by decide⟩
  rw [fits_long (by decide) (by decide), fits_long (by omega) (by omega), fits_long (by omega) (by omega), fits_long hq.1 hq.2, if_pos (show (c : Int) > 0 by omega), fits_long (by omega) (by omega), Bool.or_true]
  rfl
theorem ba_bytesK {prog : Program} {w : World} {A : Around} {E : Value → Shared → Prop} {s : Shared} {h₀ : Heap} {L a : Addr} {news : List (Addr × Obj)} {b : Array UInt8} {Q : Value → Shared → Prop} (N : News h₀ L s.heap news) (hm : (a, baObj b) ∈ news) (hb : b.size ≤ 100000)
    (h : ∀ t k, Q (.bytes b t) { s with toks := k }) : wpAny (model prog w) A (call (.type "bytes") [.ref a]) Q E s := ba_bytes (N _ hm).1 hb h
local macro_rules | `(tactic| walk_at "call type:bytes") => `(tactic| (k_here; k_dflt (refine' ba_bytesK ?k1 ?k2 ?k3 ?_; (case k1 => k_asm); (case k2 => k_mem); (case k3 => omega)); intro t' k'; (try dsimp only)))
theorem set_step {tape : List Nat} {b : Array UInt8} {j : Nat} {q r : Int} (hj : j < tape.length) (hs : b.size = tape.length) (h : ∀ k, k < j → b[tape.length - 1 - k]? = some (UInt8.ofNat (tape.getD k 0))) (hq : q.toNat = tape.length - 1 - j) (hr : r.toNat = j) :
    ∀ k, k < j + 1 → (b.setIfInBounds q.toNat (UInt8.ofNat (tape.getD r.toNat 0)))[tape.length - 1 - k]? = some (UInt8.ofNat (tape.getD k 0)) := fun k hk => by
  rw [hq, hr, Array.getElem?_setIfInBounds]
  by_cases e : k = j
  · subst e
    rw [if_pos rfl, if_pos (by omega)]
  · rw [if_neg (by omega)]
    exact h k (by omega)
theorem swapped {tape : List Nat} {b : Array UInt8} (hs : b.size = tape.length) (h : ∀ k, k < tape.length → b[tape.length - 1 - k]? = some (UInt8.ofNat (tape.getD k 0))) : b = oc tape.reverse := by
  have hz : (oc tape.reverse).size = tape.length := by rw [oc_size, List.length_reverse]
  refine Array.ext (by rw [hs, hz]) fun i h1 h2 => ?_
  have h3 := h (tape.length - 1 - i) (by omega)
  rw [show tape.length - 1 - (tape.length - 1 - i) = i by omega] at h3
  have e1 : b[i] = UInt8.ofNat (tape.getD (tape.length - 1 - i) 0) := by
    rw [Array.getElem?_eq_getElem h1] at h3
    exact Option.some.inj h3
  rw [e1]
  unfold oc byteArr
  have hl : tape.length - 1 - i < tape.length := by omega
  simp [List.getD, hl]
theorem byteswap_spec {w : World} {p : Program} {loose : List Str} {mean : ExcName → Option Value} {mg mb : Str → Option Value}
    {dp un : Nat} {cn : Str} {cs : Scope} {a : Addr} {ccd : Value} {cl : List (Str × Addr)} {outer : List Env} {A₀ : Around} {base h₀ : Heap} {L : Addr} {m : Str → Option Value} {news : List (Addr × Obj)} {s : Shared} {tape : List Nat} {tb t2 : Tok}
    {Q E : Value → Shared → Prop} (B : Below A₀ base outer h₀) (F : Fr h₀ L s.heap m) (X : (Look.hd.heap_39 w.params).In h₀) (N : News h₀ L s.heap news) (T : Top p loose mean mg mb h₀) (hk : cs.kind = .function)
    (hd : dp + 40 < recursionLimit) (hu : un + 40 < cLine) (hl : tape.length ≤ 200) (hl0 : 0 < tape.length) (hto : ∀ o ∈ tape, o < 256)
    (hret : ∀ s' t', s'.gens = s.gens → s'.os = s.os → Fr h₀ L s'.heap m → News h₀ L s'.heap news → Q (.bytes (oc tape.reverse) t') s') :
    wpG (model PySem.Challenge.rw_xp0002_01.row.prog w) (ktrTop dp un (some []) cn cs L a ccd cl outer) (call (.ref 133) [.bytes (oc tape) tb, .int (tape.length : Int) t2]) Q E s := by
  have hbs := oc_size tape
  revert X; k_fill; intro X
  refine wpG_call ?_
  k_dflt (refine' code_defG ?k1 ?k2 ?k3 ?k4 ?k5 ?kA ?kF ?kK ?k6 ?k7 ?k8 ?k9 ?kB ?_ ?c2 ?c3 ?c4 ?c5; (case kA => exact rfl); (case kF => exact rfl); (case kK => assumption); (case k1 => k_asm); (case k2 => k_asm); (case k3 => k_asm); (case k4 => k_asm); (case k5 => k_asm); (case k6 => k_is); (case k7 => k_is); (case k8 => k_room); (case k9 => exact BindsTo.of_eq rfl); (case c5 => decide); (case kB => exact locs rfl); (case c2 => exact rfl); (case c3 => exact rfl); (case c4 => exact rfl); k_whole; intro gg LL h1 FG F' N' BB XX TT; (try dsimp only))
  refine wpG_execs_cons (wpG_Assign_Name (callG_Name ?_))
  k_steps
  refine callG_type1 ?_
  k_steps
  rename Fr h₀ L gg m => FG
  rename Fr gg LL _ _ => F1
  rw [hbs]
  refine ba_call rfl (by omega) fun h2 tk2 hb2 hk2 => ?_
  dsimp only at hb2 hk2
  have F2 := F1.keeps hk2
  have hLI : LL < h1.objs.size := F1.ns.lt
  have N2 : News gg LL h2 ((h1.objs.size, baObj (Array.replicate tape.length 0)) :: news) := fun p hp => by
    rcases List.mem_cons.mp hp with rfl | hp
    · exact ⟨hb2, Nat.ne_of_gt hLI, Heap.get?_none_of_le (Nat.le_trans F1.above (Nat.le_of_lt hLI))⟩
    · exact ⟨hk2 _ _ (N' p hp).1, (N' p hp).2⟩
  have hlt : ∀ p ∈ news, @LT.lt Nat _ p.1 h1.objs.size := fun p hp => Heap.lt_size (N' p hp).1
  revert N2 hlt
  generalize h1.objs.size = ba
  intro N2 hlt
  clear N' F1 hb2 hk2
  k_steps
  refine wpG_of ?_
  k_steps
  rename IsRange _ _ _ _ _ _ _ _ => hr3
  rename Fr gg LL _ _ => F3
  rename News gg LL _ _ => N3
  rw [hbs] at hr3
  refine for_rangeK rfl hr3 (small_ok hl hl hl0) (rsizeN _ hl0) rfl rfl F3 N3 (OutR tape tb t2 ba news s) ?hRt ?h0 ?turn ?done
  case hRt => exact fun _ _ _ _ _ _ h => h
  case h0 => exact ⟨_, rfl, Array.size_replicate, fun h => absurd h (by decide), rfl, rfl, rfl, rfl, rfl⟩
  case turn =>
    clear F3 N3
    rintro i tk m₁ nx s₁ I oI hi ⟨b, rfl, hbz, _, hm1, hm2, hm3, hg1, ho1⟩ hI0 hnI F4 N4
    obtain rfl : i = 0 := by omega
    replace F4 : Fr gg LL s₁.heap _ := F4
    replace N4 : News gg LL s₁.heap _ := N4
    rw [show (0 : Int) + ((0 : Nat) : Int) * (tape.length : Int) = 0 by simp] at F4
    have F5 := fr_put (fr_put (fr_put F4 (y := PySem.Str.ofString "data") ((if_neg (by decide)).trans hm1)) (y := PySem.Str.ofString "width") ((if_neg (by decide)).trans ((if_neg (by decide)).trans hm2))) (y := PySem.Str.ofString "swapped_data") ((if_neg (by decide)).trans ((if_neg (by decide)).trans ((if_neg (by decide)).trans hm3)))
    clear F4
    have hIb : @Ne Nat I ba := Ne.symm (hnI _ (.head _))
    have hIn : ∀ p ∈ news, p.1 ≠ I := fun p hp => hnI _ (.tail _ hp)
    have hbn : ∀ p ∈ news, p.1 ≠ ba := fun p hp => Nat.ne_of_lt (hlt p hp)
    k_steps
    rename IsRange _ _ _ _ _ _ _ _ => hr4
    rename Fr gg LL _ _ => F6
    rename News gg LL _ _ => N6
    refine for_rangeK rfl hr4 (show Builtin.Range.small 0 (tape.length : Int) 1 = true from small_ok (c := 1) hl (by decide) (by decide)) (rsize1 _) rfl rfl F6 N6 (fun j m nx s' => ∃ nx', nx = (I, oI) :: nx' ∧ SwapR tape tb t2 ba news s j m nx' s') ?hRt2 ?h02 ?turn2 ?done2
    case hRt2 => exact fun _ _ _ _ _ _ h => h
    case h02 => exact ⟨_, rfl, b, _, rfl, hbz, fun k hk => absurd hk (Nat.not_lt_zero _), rfl, rfl, rfl, rfl, hg1, ho1⟩
    case turn2 =>
      clear F6 N6
      rintro j tj m₂ nx s₂ J oJ hj ⟨nx', rfl, b, ti, rfl, hbz, hset, hn1, hn2, hn3, hn4, hg2, ho2⟩ hJ0 hnJ F7 N7
      replace F7 : Fr gg LL s₂.heap _ := F7
      replace N7 : News gg LL s₂.heap _ := N7
      rw [show (0 : Int) + (j : Int) * 1 = (j : Int) by omega] at F7
      have F8 := fr_put (fr_put (fr_put (fr_put F7 (y := PySem.Str.ofString "data") ((if_neg (by decide)).trans hn1)) (y := PySem.Str.ofString "width") ((if_neg (by decide)).trans ((if_neg (by decide)).trans hn2))) (y := PySem.Str.ofString "swapped_data") ((if_neg (by decide)).trans ((if_neg (by decide)).trans ((if_neg (by decide)).trans hn3)))) (y := PySem.Str.ofString "i") ((if_neg (by decide)).trans ((if_neg (by decide)).trans ((if_neg (by decide)).trans ((if_neg (by decide)).trans hn4))))
      clear F7
      have hJI : @Ne Nat J I := Ne.symm (hnJ _ (.head _))
      have hJb : @Ne Nat J ba := Ne.symm (hnJ _ (.tail _ (.head _)))
      have hv256 : tape.getD (0 + (j : Int)).toNat 0 < 256 := by
        have e : tape.getD (0 + (j : Int)).toNat 0 = tape[j] := by simp [List.getD, hj]
        rw [e]
        exact hto _ (List.getElem_mem hj)
      k_steps
      rename Fr gg LL _ _ => F9
      rename News gg LL _ _ => N9
      refine ⟨.inl rfl, _, _, F9, N9, fun p hp => ?_, ⟨_, rfl, _, ti, rfl, by rw [Array.size_setIfInBounds]; exact hbz, set_step hj hbz hset (by omega) (by omega), rfl, rfl, rfl, rfl, hg2, ho2⟩⟩
      rcases List.mem_cons.mp hp with rfl | hp
      · exact Ne.symm hJI
      · rcases List.mem_cons.mp hp with rfl | hp
        · exact Ne.symm hJb
        · exact hnJ _ (.tail _ (.tail _ hp))
    case done2 =>
      clear F6 N6
      rintro m₂ nx s₂ ⟨nx', rfl, b, ti, rfl, hbz, hset, hn1, hn2, hn3, hn4, hg2, ho2⟩ F7 N7
      replace F7 : Fr gg LL s₂.heap _ := F7
      replace N7 : News gg LL s₂.heap _ := N7
      dsimp only
      k_steps
      exact ⟨.inl rfl, _, _, F7, N7, fun p hp => (List.mem_cons.mp hp).elim (fun e => by rw [e]; exact Ne.symm hIb) fun hp => hIn p hp, ⟨b, rfl, hbz, fun _ => swapped hbz hset, hn1, hn2, hn3, hg2, ho2⟩⟩
  case done =>
    clear F3 N3
    rintro m₁ nx s₁ ⟨b, rfl, hbz, hb1, hm1, hm2, hm3, hg1, ho1⟩ F4 N4
    replace F4 : Fr gg LL s₁.heap _ := F4
    replace N4 : News gg LL s₁.heap _ := N4
    have F5 := fr_put F4 (y := PySem.Str.ofString "swapped_data") hm3
    clear F4
    have hb2 := hb1 rfl
    subst hb2
    have hz : (oc tape.reverse).size ≤ 100000 := by rw [oc_size, List.length_reverse]; omega
    dsimp only
    k_steps
    rename Fr h₀ L _ _ => F9
    rename News h₀ L _ _ => N9
    exact hret _ _ hg1 ho1 F9 fun p hp => N9 p (.tail _ hp)
end Mine
end
section -- HG2
open PySem PySem.Spec PySem.Calls PyProof.Rows PySem.W
set_option maxRecDepth 100000
set_option maxHeartbeats 4000000
namespace Mine
theorem quiet_HG2 : True := by
  w_top off
  trivial
theorem wp_of_G_done {M : Model} {A : Around} {Γ : PySem.Ctx} {t : Sem PySem.Fin} {R : Result → Shared → Prop} {s : Shared} (hin : Γ.In A) (h1 : isDec Γ.code = false) (h2 : Clean Γ.below)
    (h : wpG M A t (fun fin s' => ∃ f, fin = .done f ∧ R (.ok f) s') (fun e s' => R (.error e) s') s) (p : Pos) :
    Sem.wp M Γ t (Sem.finPost M Γ R) (fun e _ s' => R (.error e) s') p s := by
  refine Sem.wp_mono M Γ t (fun fin p' s' h' => ?_) (fun _ _ _ h' => h') p s (h Γ p hin h1 h2)
  obtain ⟨f, rfl, hf⟩ := h'
  exact hf
theorem thread_ends_G {prog : Program} {w : World} {t : Sem PySem.Fin} {s : Shared} {R : Result → Shared → Prop} (hreg : s.asleep)
    (h : wpG (model prog w) callerA t (fun fin s' => ∃ f, fin = .done f ∧ (R (.ok f) s' ∧ leftWithCleanup s'.gens = false)) (fun e s' => R (.error e) s' ∧ leftWithCleanup s'.gens = false) s) :
    ∃ n r s' s'', runN (denote table) prog w n s ⟨t, .builtin "claim.caller" {}, default, []⟩ = .halted (outcomeOf r) s' ∧
      schedN (denote table) prog w n (.single s ⟨t, .builtin "claim.caller" {}, default, []⟩) = .halted (outcomeOf r) s' ∧ s'.forget = s''.forget ∧ R r s'' := by
  obtain ⟨n, r, s₁, s₂, hs, hn, hfo, hR⟩ := wp_halts_full (M := model prog w) (R := R) hreg (wp_of_G_done (R := fun r s' => R r s' ∧ leftWithCleanup s'.gens = false) caller_in (by decide +kernel) (fun x hx => absurd hx List.not_mem_nil) h default)
  exact ⟨n, r, s₂, s₁, hn, hs, hfo, hR⟩
theorem callFrom_G {c : ClaimW} {tree : List Value → Sem PySem.Fin} {w : World} {s : Shared} {free : Addr → Prop} {gens : Prop} {kept : Heap → Prop} (hz : s.asleep) (hgens : s.gens = #[])
    (hspec : ∀ args, c.pre args = true → WData.layableAll args = true →
      ∀ ord : List DictEntry → List DictEntry, (∀ l, (ord l).Perm l) →
      ∃ vs s₁, layAllW c.records (classAt s.heap) w.params ord args s = some (vs, s₁) ∧
        wpG (model c.prog w) callerA (tree vs) (fun fin s' => ∃ f, fin = .done f ∧ (c.Ends s args vs s₁ (.ok f) s' ∧ s'.os = s.os ∧ AllBare s'.gens ∧ kept s'.heap))
          (fun e s' => c.Ends s args vs s₁ (.error e) s' ∧ s'.os = s.os ∧ AllBare s'.gens ∧ kept s'.heap) s₁) :
    c.CallFrom (fun vs => ⟨tree vs, .builtin "claim.caller" {}, default, []⟩) w free gens kept s := by
  intro args hpre hlay ord hord
  obtain ⟨vs, s₁, hlaid, hcode⟩ := hspec args hpre hlay ord hord
  have hal := layAllW_rest _ _ _ hlaid
  obtain ⟨k, r, s', s'', hrun, hsched, hfo, hcase, hos, hkp⟩ := thread_ends_G (prog := c.prog) (w := w) (t := tree vs) (s := s₁)
    (R := fun r s' => c.Ends s args vs s₁ r s' ∧ s'.os = s.os ∧ kept s'.heap)
    (Shared.asleep_of_life hal.2.2.2 hz)
    (wpG_mono hcode (by
      rintro fin s' ⟨f, e, h1, h2, h3, h4⟩
      exact ⟨f, e, ⟨h1, h2, h4⟩, leftWithCleanup_false_of_bare h3⟩) (by
      rintro e s' ⟨h1, h2, h3, h4⟩
      exact ⟨⟨h1, h2, h4⟩, leftWithCleanup_false_of_bare h3⟩))
  obtain ⟨eh, _, _, eo, _⟩ := Shared.forget_eq hfo
  have hcase := hcase.congr eh
  have hkp : kept s'.heap := by first | exact eh ▸ hkp | (rw [eh] at hkp; exact hkp) | (rw [← eh] at hkp; exact hkp)
  rw [← eo] at hos
  have hlife : s'.heap.life = s.heap.life := (runN_life _ _ _ hrun).trans hal.2.2.2
  refine ⟨vs, s₁, hlaid, k, _, s', hsched, ?_, (fun _ i x hx => by rw [hgens] at hx; simp at hx), hkp, by rw [hlife], Shared.rest_eq hos⟩
  rcases hcase with ⟨v, rfl, d1, d2, d3, d4, d5⟩ | ⟨e, ob, cls, rfl, d1, d2, d3, d4, d5⟩
  · exact .inl ⟨v, rfl, d1, d2, d3, fun b o y _ => d4 b o y, d5⟩
  · exact .inr ⟨e, ob, cls, rfl, d1, d2, d3, d4, fun b o y _ => d5 b o y⟩
theorem open_G {r : RowW} {run : Value → List Value → Sem Value} {tree : List Value → Sem PySem.Fin} {q : Program} {loose defs kps : List Str} {writes : Bool} {Xt : Shared → Bool} {XP : (Str → Option Value) → Heap → Prop} {α : Type} {Yf : Shared → α} {Ya : World → α} {YP : World → Heap → Prop} {N : Nat}
    (left : LeftO r.prog q loose Xt Yf Ya N) (hY : ∀ w s, Yf s = Ya w → YP w s.heap) (hYk : ∀ w h h', YP w h → (∀ b o, h.get? b = some o → h'.get? b = some o) → YP w h') (hX : ∀ s, Xt s = true → XP (s.heap.nsMap mainGlobals) s.heap) (hXk : ∀ mg h h', XP mg h → (∀ b o, h.get? b = some o → h'.get? b = some o) → XP mg h')
    (hRf : ∀ s, Xt s = true → RecFacts r.records s.heap) (hwr : (!writes || r.records.isEmpty) = true) (ok : (chainsOk q && opensWell r.prog && (frees r && r.within.isEmpty)) = true) (hb : r.prog.bare) (hw : r.promised)
    (ht : ∀ vs (w : World) (s : Shared) mg f (Q : PySem.Fin → Shared → Prop) (E : Value → Shared → Prop), s.heap.Ns mainGlobals mg → mg r.name = some f → wpG (model r.prog w) callerA (run f vs) (fun v s' => Q (.done (.ret v)) s') E s → wpG (model r.prog w) callerA (tree vs) Q E s)
    (pin : ∀ w s, s.heap.isNs mainGlobals = true → Ground q loose [] XP w s (s.heap.nsMap mainGlobals) (s.heap.nsMap builtinsNs) s.heap → ∀ n ∈ defs, isTheDefsW r.prog s.heap n)
    (call : ∀ (w : World) (s₀ s₁ : Shared) (mg mb : Str → Option Value), Ground q loose r.records XP w s₀ mg mb s₁.heap → YP w s₁.heap → ∀ (args : List WData) (vs : List Value) (as : List Addr),
      r.claim.pre args = true → WData.layableAll args = true → Laid r.records w s₀ s₁ args vs as → sysModules < s₀.heap.objs.size → ∃ f, mg r.name = some f ∧
        wpG (model r.prog w) callerA (run f vs) (fun v s' => GoodWG r.claim (classAt s₀.heap) (ExcName.means s₀.heap) args s₁ (.ok (.ret v)) s')
          (fun e s' => GoodWG r.claim (classAt s₀.heap) (ExcName.means s₀.heap) args s₁ (.error e) s') s₁) : r.claim.HoldsOpenBy (fun vs => ⟨tree vs, .builtin "claim.caller" {}, default, []⟩) defs kps writes := by
  obtain ⟨ok, k5⟩ := Bool.and_eq_true_iff.mp ok
  obtain ⟨hch, o1⟩ := Bool.and_eq_true_iff.mp ok
  obtain ⟨k5, k6⟩ := Bool.and_eq_true_iff.mp k5
  obtain ⟨hsame, hu, ha, hap, hm⟩ := frees_parts k5
  refine ⟨⟨hb, o1, by show r.makers.map _ = []; rw [hm]; rfl⟩, hw.witness, fun w => ⟨(left.behind hX hch w).1, fun s' hs' => ?_⟩⟩
  obtain ⟨s₀, hf, hg0, s, hT, hz, hgens, hg, G00, y⟩ := (left.behind (XP := fun mg h => XP mg h ∧ RecFacts r.records h) (fun s hs => ⟨hX s hs, hRf s hs⟩) hch w).2 s' hs'
  have G0 : Ground q loose [] XP w s (s.heap.nsMap mainGlobals) (s.heap.nsMap builtinsNs) s.heap := ⟨G00.T, G00.B, G00.D, G00.TE, G00.TD, G00.W, G00.X.1, G00.cls, G00.has, G00.apart, G00.once, G00.K⟩
  have RF := G00.X.2
  have hT' := hT
  refine ⟨s₀, hf, hg0, s, hT, pin w s hg G0, RF.1, RF.2.1, ?_⟩
  have hgens : s.gens = #[] := Array.eq_empty_of_size_eq_zero (beq_iff_eq.mp hgens)
  have G : Ground q loose r.records XP w s _ _ s.heap := RF.ground G0
  refine callFrom_G (c := r.claim) hz hgens fun args hpre hlay ord hord => ?_
  obtain ⟨⟨vs, s₁⟩, hlaid⟩ := Option.isSome_iff_exists.mp (layAllW_isSome (P := w.params) (ord := ord) G.has args r.args s (pre_splitW hpre).1)
  have keeps := layAllW_keeps _ _ _ hlaid
  have hal := layAllW_rest _ _ _ hlaid
  obtain ⟨as, hrd, hin, hold⟩ := reads_layAllW hord _ _ _ hlaid hlay s₁.heap (fun _ _ e => e)
  have L : Laid r.records w s s₁ args vs as := ⟨⟨ord, hord, hlaid⟩, hrd, hin, hold, keeps, hal.1.trans hgens, hal.2.2.1⟩
  have G₁ := G.keeps hXk keeps
  obtain ⟨f, hf, h⟩ := call w s s₁ _ _ G₁ (hYk _ _ _ (hY w s y) keeps) args vs as hpre hlay L G.low
  have hi := ident_freeW hu ha hap
  have hwi : r.claim.within = [] := List.isEmpty_iff.mp k6
  exact ⟨vs, s₁, hlaid, ht vs w s₁ _ f _ _ G₁.T.g hf (wpG_mono h (fun v s' g => ⟨_, rfl, have z := g.laid (c := r.claim) hsame hwi hi L; ⟨z.1, z.2.1, z.2.2, fun q => ⟨namesKept_of hT' hg kps keeps g.2.1.old, noTable hwr q⟩⟩⟩) fun e s' g => have z := g.laid (c := r.claim) hsame hwi hi L; ⟨z.1, z.2.1, z.2.2, fun q => ⟨namesKept_of hT' hg kps keeps g.2.1.old, noTable hwr q⟩⟩)⟩
abbrev WalkOG (q : Program) (loose : List Str) (XP : (Str → Option Value) → Heap → Prop) (YP : World → Heap → Prop) (r : RowW) (d : DefRec) (kwd : List (Str × Expr)) (run : Value → List Value → Sem Value) : Prop :=
  ∀ (w : World) (s₀ s₁ : Shared) (mg mb : Str → Option Value), Ground q loose r.records XP w s₀ mg mb s₁.heap → YP w s₁.heap → ∀ (a : Addr) (o : Obj) (pm cd doc dV kV : Value), s₁.heap.get? a = some o →
    o.data = .func { docDef d.name d.params d.body d.scope pm cd doc with defaults := dV, kwdefaults := kV } → s₁.heap.CodeRec cd d.name → Dflts mg s₁.heap d.params kwd dV kV → mg d.name = some (.ref a) → s₁.gens = #[] →
    ∀ (args : List WData) (vals : List Value) (as : List Addr), r.claim.pre args = true → WData.layableAll args = true → ReadsAllW r.records (classAt s₀.heap) s₁.heap vals args as → WellAll w.params s₁.heap vals args → (∀ a ∈ as, (a == sysModules) = false) →
      wpG (model r.prog w) callerA (run (.ref a) vals) (fun v s' => GoodWG r.claim (classAt s₀.heap) (ExcName.means s₀.heap) args s₁ (.ok (.ret v)) s')
        (fun e s' => GoodWG r.claim (classAt s₀.heap) (ExcName.means s₀.heap) args s₁ (.error e) s') s₁
/-- as LeftO, under another name: the head is then checked at once, not in pieces -/
abbrev LeftX (p q : Program) (loose : List Str) (Xt : Shared → Bool) {α : Type} (Yf : Shared → α) (Ya : World → α) (N : Nat) : Prop := LeftO p q loose Xt Yf Ya N
theorem PySem.W.holds_open {r : OpenRow} {q : Program} {loose : List Str} {Xt : Shared → Bool} {XP : (Str → Option Value) → Heap → Prop} {α : Type} {Yf : Shared → α} {Ya : World → α} {YP : World → Heap → Prop} {d : DefRec} {kwd : List (Str × Expr)} {N : Nat}
    (left : LeftX r.prog q loose Xt Yf Ya N) (hY : ∀ w s, Yf s = Ya w → YP w s.heap) (hYk : ∀ w h h', YP w h → (∀ b o, h.get? b = some o → h'.get? b = some o) → YP w h')
    (hX : ∀ s, Xt s = true → XP (s.heap.nsMap mainGlobals) s.heap) (hXk : ∀ mg h h', XP mg h → (∀ b o, h.get? b = some o → h'.get? b = some o) → XP mg h')
    (hdef : defOf q r.name = some (d, kwd)) (hp : r.prog.theDef r.name = some (d.params, d.body, d.scope)) (hk : kwWritten? d.params.kwonlyargs d.params.kw_defaults = some kwd) (hRf : ∀ s, Xt s = true → RecFacts r.records s.heap) (hwr : (!r.writes || r.records.isEmpty) = true)
    (k1 : r.wellSaid = true) (ok : (chainsOk q && opensWell r.prog && (frees r.toRowW && r.within.isEmpty)) = true) (hb : r.prog.bare) (hw : r.toRowW.promised)
    (call : WalkOG q loose XP YP r.toRowW d kwd fun f vs => PySem.call f vs) : r.Holds := by
  refine ⟨k1, hw, open_G (r := r.toRowW) (run := fun f vs => PySem.call f vs) (tree := fun vs => do match ← nsGet mainNs r.name with
      | some f => do ret (← PySem.call f vs)
      | none => unsupported "claim.caller:no-such-global") left hY hYk hX hXk hRf hwr ok hb hw
    (fun vs w s mg f Q E hg hf h => wpG_bindA (wpAny_nsGet hg (by rw [hf]; exact wpG_bind (wpG_mono h (fun _ _ x => wpG_pure x) fun _ _ x => x))))
    (fun w s hg G n hn => ?_) fun w s₀ s₁ mg mb G Y args vs as hpre hlay L low => ?_⟩
  · obtain rfl : n = r.name := by split at hn <;> simp_all
    exact pinned_of_view hg G hdef hp hk
  · obtain ⟨a, o, pm, cd, doc, dV, kV, h1, h2, h3, h4, h5⟩ := G.fn hdef
    exact ⟨.ref a, h1, call w s₀ s₁ mg mb G Y a o pm cd doc dV kV h2 h3 h4 h5 (defOf_name hdef ▸ h1) L.gens args vs as hpre hlay L.reads L.well (L.low low)⟩
end Mine
end
section -- HC
open PySem PySem.Spec PySem.Calls PyProof.Rows PySem.W
set_option maxRecDepth 100000
set_option maxHeartbeats 4000000
namespace Mine
theorem quiet_HC : True := by
  w_top off
  trivial
theorem call_cellsG {prog : Program} {w : World} {A : Around} {R : Result → Shared → Prop} {s : Shared} {name : Str} {params : Arguments} {body : List Stmt} {scope : Scope}
    {pm cd doc ct : Value} {an : Option Addr} {qual : Str} {a : Addr} {o : Obj} {args : List Value} {binds : List (Str × Value)}
    (hroom : A.depth < recursionLimit) (ho : s.heap.get? a = some o) (hdata : o.data = .func (fnX name qual params body scope [] .none .none doc pm an cd ct)) (hlim : s.heap.NoLimit) (hcd : s.heap.CodeRec cd qual)
    (hbind : BindsTo s (fnX name qual params body scope [] .none .none doc pm an cd ct) ⟨args, []⟩ binds)
    (hkind : ∀ n, ∀ x ∈ binds, scope.names.lookup x.1 = some .local ∨ (scope.names.lookup x.1 = some .cell ∧ ((cellsFrom n scope.names []).lookup x.1).isSome = true))
    (hnd : ((cellsFrom 0 scope.names []).map (·.1)).Nodup)
    (h : ∀ h₁ tk cells, Fr s.heap s.heap.objs.size h₁ (bindL (envOfC qual scope s.heap.objs.size a cd).kindOf binds fun _ => none) → News s.heap s.heap.objs.size h₁ cells →
      CellsAre (bindC (envOfC qual scope s.heap.objs.size a cd).kindOf binds fun _ => none) (cellsFrom (s.heap.objs.size + 1) scope.names []) cells →
      wpG (model prog w) (A.deeper (envOfC qual scope s.heap.objs.size a cd)) (execs body (envOfC qual scope s.heap.objs.size a cd))
        (fun f s' => R (.ok (.ret (match f with | .ret v => v | _ => .none))) s')
        (fun e s' => wpAny (model prog w) (A.deeper (envOfC qual scope s.heap.objs.size a cd)) (leaving (envOfC qual scope s.heap.objs.size a cd) e)
          (fun _ s'' => R (.error e) s'') (fun e' s'' => R (.error e') s'') s')
        { s with heap := h₁, toks := tk })
    (hco : scope.isCoroutine = false := by rfl) (hgen : scope.isGenerator = false := by rfl) (hk : scope.kind = .function := by rfl) :
    codeG (model prog w) A (.call (.ref a) ⟨args, []⟩) R s := by
  refine codeG_call_function hroom ho hdata hco hgen rfl hcd (hbind _ _ _ _ ?_)
  refine wpAny_newFunctionEnv_cells hk (hkind _) fun env' he s' x => ?_
  subst he
  refine ⟨hlim.keeps x.toInCall.keep, codeG_func ?_⟩
  obtain ⟨h₁, tk, rfl, _⟩ := x.done
  have hk₁ := x.toInCall.keep
  obtain ⟨cells, NC, Y⟩ := Cl.news (h₀ := s.heap) (Nat.le_refl _) fun n c hm => ⟨x.cell n c (lookup_of_mem_nodup (cellsFrom_names scope.names 0 (s.heap.objs.size + 1) [] [] rfl ▸ hnd) hm), x.above n c hm⟩
  exact h h₁ tk cells ⟨x.toInCall.ns, fun b o e => hk₁ b o e, Nat.le_refl _⟩ NC Y
end Mine
end
section -- P3
/-! what a carrier takes of runs; layers -/
set_option maxHeartbeats 4000000
namespace Mine
theorem quiet_P3 : True := by
  w_top off
  trivial
/-- what a carrier with k places and c letters aboard takes along the runs (each with its blank) -/
def takeR (k : Nat) : Nat → List Nat → Nat
  | _, [] => 0
  | c, r :: l => (min (c + r) k - c) + takeR k (min (c + r) k - 1) l
theorem min_more (a k r : Nat) : min (min a k + r) k = min (a + r) k := by
  rcases Nat.le_total a k with h | h
  · rw [Nat.min_eq_left h]
  · rw [Nat.min_eq_right h, Nat.min_eq_right (Nat.le_add_right k r), Nat.min_eq_right (Nat.le_trans h (Nat.le_add_right a r))]
theorem take_sum {m M c W P X : Nat} (h1 : c ≤ m) (h2 : m + 1 ≤ M) (ih : W + P = (M - 1 - c) + X) : W + (1 + P) = m - c + ((M - m) + X) := by omega
theorem take_sum0 {m c W P X : Nat} (h1 : c ≤ m) (ih : W + P = (m - 1 - (m - 1)) + X) : (m - c) + W + (0 + P) = m - c + ((m - m) + X) := by omega
theorem takeR_wear (k : Nat) : ∀ (rs : List Nat) (p c : Nat), c ≤ k → takeR k c (wear p rs) + posCount rs = (min (c + p) k - c) + takeR (k + 1) (min (c + p) k) rs
  | [], p, c, hc => by simp [wear, takeR, posCount]
  | 0 :: l, p, c, hc => by
    rw [posCount_cons]
    unfold wear
    have h1 : c ≤ min (c + p) k := Nat.le_min.mpr ⟨Nat.le_add_right _ _, hc⟩
    have h2 : min (c + p) k ≤ k := Nat.min_le_right _ _
    rw [if_neg (Nat.lt_irrefl 0), if_neg (Nat.lt_irrefl 0)]
    have ih := takeR_wear k l 0 (min (c + p) k - 1) (Nat.le_trans (Nat.sub_le _ _) h2)
    simp only [takeR, Nat.add_zero] at ih ⊢
    generalize min (c + p) k = m at ih h1 h2 ⊢
    rw [Nat.min_eq_left (Nat.le_succ_of_le h2)]
    rw [Nat.min_eq_left (Nat.le_trans (Nat.sub_le _ _) h2)] at ih
    exact take_sum0 h1 ih
  | (r + 1) :: l, p, c, hc => by
    rw [posCount_cons]
    unfold wear
    have h1 : c ≤ min (c + p) k := Nat.le_min.mpr ⟨Nat.le_add_right _ _, hc⟩
    have h2 : min (c + p) k ≤ k := Nat.min_le_right _ _
    rw [if_pos (Nat.succ_pos r), if_pos (Nat.succ_pos r)]
    have ih := takeR_wear k l (p + (r + 1 - 1)) c hc
    have e : min (min (c + p) k + (r + 1)) (k + 1) = min (c + (p + (r + 1 - 1))) k + 1 := by
      rw [Nat.add_sub_cancel, ← Nat.add_assoc c, ← min_more (c + p) k r, ← Nat.add_assoc, Nat.add_min_add_right]
    simp only [takeR] at ih ⊢
    have e2 : min (c + (p + (r + 1 - 1))) k = min (min (c + p) k + (r + 1)) (k + 1) - 1 := by rw [e]; rfl
    have h3 : min (c + p) k + 1 ≤ min (min (c + p) k + (r + 1)) (k + 1) := Nat.le_min.mpr ⟨Nat.add_le_add_left (Nat.succ_le_succ (Nat.zero_le r)) _, Nat.succ_le_succ h2⟩
    rw [e2] at ih
    exact take_sum h1 h3 ih
theorem takeR_none (k : Nat) : ∀ (rs : List Nat), rs.sum = 0 → takeR k 0 rs = 0
  | [], _ => rfl
  | r :: l, h => by
    simp only [List.sum_cons] at h
    have hr : r = 0 := by omega
    subst hr
    have e : min (0 + 0) k - 1 = 0 := by omega
    simp only [takeR]
    rw [e, takeR_none k l (by omega)]
    omega
theorem posCount_zero (rs : List Nat) (h : rs.sum = 0) : posCount rs = 0 := by
  have := wear_sum rs 0
  omega
theorem takeR_zero : ∀ (rs : List Nat) (c : Nat), takeR 0 c rs = 0
  | [], _ => rfl
  | r :: l, c => by
    simp only [takeR]
    rw [takeR_zero l]
    omega
/-- a carrier takes as many letters as the first layers add up to -/
theorem takeR_layers : ∀ (k : Nat) (rs : List Nat), takeR k 0 rs = ((layersL rs).take k).sum
  | 0, rs => by rw [takeR_zero]; rfl
  | k + 1, rs => by
    have h := takeR_wear k rs 0 0 (Nat.zero_le _)
    have e : min (0 + 0) k = 0 := by omega
    rw [e] at h
    by_cases hz : rs.sum = 0
    · rw [takeR_none _ _ hz, layers_done hz]
      rfl
    · rw [layers_step (by omega), List.take_succ_cons, List.sum_cons, ← takeR_layers k (wear 0 rs)]
      omega
/-- layers are told by what the carriers take -/
theorem layersF_pos : ∀ (f : Nat) (rs : List Nat), ∀ x ∈ layersF f rs, 0 < x
  | 0, _, _, h => by cases h
  | f + 1, rs, x, h => by
    have e : layersF (f + 1) rs = if rs.sum = 0 then [] else posCount rs :: layersF f (wear 0 rs) := rfl
    rw [e] at h
    by_cases hz : rs.sum = 0
    · rw [if_pos hz] at h; cases h
    · rw [if_neg hz] at h
      rcases List.mem_cons.mp h with rfl | h
      · exact posCount_pos rs (by omega)
      · exact layersF_pos f _ x h
theorem sums_tell : ∀ (a b : List Nat), (∀ x ∈ a, 0 < x) → (∀ x ∈ b, 0 < x) → (∀ k, (a.take k).sum = (b.take k).sum) → a = b
  | [], [], _, _, _ => rfl
  | [], y :: b, _, hb, h => by
    have := h 1
    have := hb y (.head _)
    simp at *
    omega
  | x :: a, [], ha, _, h => by
    have := h 1
    have := ha x (.head _)
    simp at *
    omega
  | x :: a, y :: b, ha, hb, h => by
    have h1 := h 1
    simp at h1
    subst h1
    congr 1
    refine sums_tell a b (fun z hz => ha z (.tail _ hz)) (fun z hz => hb z (.tail _ hz)) fun k => ?_
    have := h (k + 1)
    simp only [List.take_succ_cons, List.sum_cons] at this
    omega
theorem layers_told {a b : List Nat} (h : ∀ k, takeR k 0 a = takeR k 0 b) : layersL a = layersL b :=
  sums_tell _ _ (layersF_pos _ a) (layersF_pos _ b) fun k => by rw [← takeR_layers, ← takeR_layers, h k]
end Mine
end
section -- P4
/-! sweeps over octets and carriers over bits -/
set_option maxHeartbeats 4000000
namespace Mine
theorem quiet_P4 : True := by
  w_top off
  trivial
namespace Pl
def bits (l : List Nat) : List Bool := l.map fun o => decide (64 ≤ o)
theorem step_cstep {k : Nat} {st : List Nat} {o : Nat} (h : Letters st) : cstep k st.length (decide (64 ≤ o)) = ((stepS k st o).1.length, decide (64 ≤ (stepS k st o).2.1), (stepS k st o).2.2) := by
  by_cases ho : o < 64
  · have e : decide (64 ≤ o) = false := decide_eq_false (by omega)
    rw [e]
    cases st with
    | nil => simp [cstep, stepS, ho]
    | cons a r =>
      have ha : 64 ≤ a := h a (.head _)
      simp [cstep, stepS, ho, ha]
  · have e : decide (64 ≤ o) = true := decide_eq_true (by omega)
    rw [e]
    by_cases h2 : st.length < k
    · simp [cstep, stepS, ho, h2]
    · have ho2 : 64 ≤ o := by omega
      simp [cstep, stepS, ho, h2, ho2]
theorem go_crun (k : Nat) : ∀ (l st : List Nat), Letters st → (∀ o ∈ l, Ok o) → (crun k st.length (bits l)).1 = (go k st l).1.length ∧ (crun k st.length (bits l)).2.1 = bits (go k st l).2
  | [], st, _, _ => ⟨rfl, rfl⟩
  | o :: l, st, h, h3 => by
    have ho := h3 o (.head _)
    have ih := go_crun k l (stepS k st o).1 (step_letters h ho) fun x hx => h3 x (.tail _ hx)
    have e : bits (o :: l) = decide (64 ≤ o) :: bits l := rfl
    rw [e]
    simp only [crun, step_cstep h, go]
    refine ⟨ih.1, ?_⟩
    rw [ih.2]
    rfl
theorem fold_go (k : Nat) : ∀ (l st out : List Nat) (tk : Nat), Letters st → (∀ o ∈ l, Ok o) → l.foldl (stepA k) (st, out, tk) = ((go k st l).1, out ++ (go k st l).2, tk + (crun k st.length (bits l)).2.2)
  | [], st, out, tk, _, _ => by simp [go, bits, crun]
  | o :: l, st, out, tk, h, h3 => by
    have ho := h3 o (.head _)
    have e : bits (o :: l) = decide (64 ≤ o) :: bits l := rfl
    have e2 : stepA k (st, out, tk) o = ((stepS k st o).1, out ++ [(stepS k st o).2.1], tk + (stepS k st o).2.2) := rfl
    rw [List.foldl_cons, e2, fold_go k l _ _ _ (step_letters h ho) (fun x hx => h3 x (.tail _ hx)), e]
    simp only [crun, step_cstep h, go]
    simp [Nat.add_assoc]
theorem sweep_go {k : Nat} {l : List Nat} (h : ∀ o ∈ l, Ok o) : sweepS k l = ((go k [] l).1, (go k [] l).2, (crun k 0 (bits l)).2.2) := by
  have := fold_go k l [] [] 0 (fun _ h => nomatch h) h
  unfold sweepS
  rw [this]
  simp
theorem crun_runs (k : Nat) : ∀ (l : List Nat) (c n : Nat), c ≤ k → (min (c + n) k - c) + (crun k (min (c + n) k) (bits (l ++ [32]))).2.2 = takeR k c (runsOf n (l ++ [32]))
  | [], c, n, hc => by
    have e : bits ([] ++ [32]) = [false] := by decide
    have e2 : runsOf n ([] ++ [32]) = [n] := by simp [runsOf]
    rw [e, e2]
    simp only [crun, takeR, cstep]
    split <;> simp
  | o :: l, c, n, hc => by
    have e : bits (o :: l ++ [32]) = decide (64 ≤ o) :: bits (l ++ [32]) := rfl
    have e3 : o :: l ++ [32] = o :: (l ++ [32]) := rfl
    rw [e, e3]
    unfold runsOf
    by_cases ho : o < 64
    · rw [if_pos ho]
      have e2 : decide (64 ≤ o) = false := decide_eq_false (Nat.not_le.mpr ho)
      rw [e2]
      have hm : min (c + n) k ≤ k := Nat.min_le_right _ _
      have ih := crun_runs k l (min (c + n) k - 1) 0 (Nat.le_trans (Nat.sub_le _ _) hm)
      rw [Nat.add_zero, Nat.min_eq_left (Nat.le_trans (Nat.sub_le _ _) hm), Nat.sub_self, Nat.zero_add] at ih
      simp only [crun, takeR]
      rw [← ih]
      generalize min (c + n) k = m
      cases m with
      | zero =>
        have e5 : cstep k 0 false = (0, false, 0) := rfl
        rw [e5]
        simp
      | succ m =>
        have e5 : cstep k (m + 1) false = (m, true, 0) := rfl
        rw [e5]
        simp
    · rw [if_neg ho]
      have e2 : decide (64 ≤ o) = true := decide_eq_true (Nat.not_lt.mp ho)
      rw [e2]
      have ih := crun_runs k l c (n + 1) hc
      simp only [crun]
      rw [← ih]
      by_cases hk : c + n < k
      · have m1 : min (c + (n + 1)) k = c + n + 1 := Nat.min_eq_left hk
        rw [Nat.min_eq_left (Nat.le_of_lt hk), m1]
        have e5 : cstep k (c + n) true = (c + n + 1, false, 1) := by simp only [cstep]; rw [if_pos hk]
        rw [e5]
        dsimp only
        rw [Nat.add_assoc c n 1, Nat.add_sub_cancel_left, Nat.add_sub_cancel_left, Nat.add_assoc]
      · have m1 : min (c + (n + 1)) k = k := Nat.min_eq_right (Nat.le_succ_of_le (Nat.not_lt.mp hk))
        rw [Nat.min_eq_right (Nat.not_lt.mp hk), m1]
        have e5 : cstep k k true = (k, true, 0) := by simp only [cstep]; rw [if_neg (Nat.lt_irrefl k)]
        rw [e5]
        dsimp only
        rw [Nat.zero_add]
theorem taken_runs {k : Nat} {l : List Nat} (h : ∃ u, l = u ++ [32]) : (crun k 0 (bits l)).2.2 = takeR k 0 (runsOf 0 l) := by
  obtain ⟨u, rfl⟩ := h
  have := crun_runs k u 0 0 (Nat.zero_le _)
  have e : min (0 + 0) k = 0 := by omega
  rw [e] at this
  omega
theorem runs_bits : ∀ (a b : List Nat) (n : Nat), bits a = bits b → runsOf n a = runsOf n b
  | [], [], _, _ => rfl
  | [], _ :: _, _, h => by simp [bits] at h
  | _ :: _, [], _, h => by simp [bits] at h
  | x :: a, y :: b, n, h => by
    have h1 : decide (64 ≤ x) = decide (64 ≤ y) ∧ bits a = bits b := by
      have : decide (64 ≤ x) :: bits a = decide (64 ≤ y) :: bits b := h
      exact List.cons.inj this
    have h2 : (x < 64) ↔ (y < 64) := by
      have := decide_eq_decide.mp h1.1
      omega
    unfold runsOf
    by_cases hx : x < 64
    · rw [if_pos hx, if_pos (h2.mp hx), runs_bits a b 0 h1.2]
    · rw [if_neg hx, if_neg (fun hy => hx (h2.mpr hy)), runs_bits a b (n + 1) h1.2]
/-- a carrier over blanks alone lays its letters down -/
theorem go_blanks (k : Nat) : ∀ (n : Nat) (st : List Nat), st.length ≤ n → go k st (List.replicate n 32) = ([], st ++ List.replicate (n - st.length) 32)
  | 0, [], _ => rfl
  | n + 1, [], _ => by
    have ih := go_blanks k n [] (Nat.zero_le _)
    have e : stepS k [] 32 = ([], 32, 0) := rfl
    simp only [List.replicate_succ, go, e, ih]
    simp [List.replicate_succ]
  | n + 1, a :: r, h => by
    have ih := go_blanks k n r (by simp at h; omega)
    have e : stepS k (a :: r) 32 = (r, a, 0) := rfl
    simp only [List.replicate_succ, go, e, ih]
    simp
theorem go_len (k : Nat) : ∀ (l st : List Nat), st.length ≤ k → (go k st l).1.length ≤ k
  | [], _, h => h
  | o :: l, st, h => go_len k l _ (step_len h)
theorem go_sub (k : Nat) (P : Nat → Prop) (h32 : P 32) : ∀ (l st : List Nat), (∀ o ∈ st, P o) → (∀ o ∈ l, P o) → ∀ o ∈ (go k st l).2, P o
  | [], st, _, _, _, h => nomatch h
  | o :: l, st, h1, h2, x, hx => by
    have ho := h2 o (.head _)
    have hs : (∀ y ∈ (stepS k st o).1, P y) ∧ P (stepS k st o).2.1 := by
      unfold stepS
      split
      · cases st with
        | nil => exact ⟨h1, h32⟩
        | cons a r => exact ⟨fun y hy => h1 y (.tail _ hy), h1 a (.head _)⟩
      · split
        · refine ⟨fun y hy => ?_, h32⟩
          rcases List.mem_cons.mp hy with rfl | hy
          · exact ho
          · exact h1 y hy
        · exact ⟨h1, ho⟩
    rcases List.mem_cons.mp hx with rfl | hx
    · exact hs.2
    · exact go_sub k P h32 l _ hs.1 (fun y hy => h2 y (.tail _ hy)) x hx
theorem go_length (k : Nat) : ∀ (l st : List Nat), (go k st l).2.length = l.length
  | [], _ => rfl
  | o :: l, st => by simp only [go, List.length_cons, go_length k l]
/-- a tape that ends in n blanks -/
def Tape (n : Nat) (t : List Nat) : Prop := ∃ u, t = u ++ List.replicate n 32
theorem go_tape {k n : Nat} {t : List Nat} (h : Tape n t) (hk : k ≤ n) : (go k [] t).1 = [] ∧ Tape (n - k) (go k [] t).2 := by
  obtain ⟨u, rfl⟩ := h
  have hl := go_len k u [] (Nat.zero_le _)
  rw [go_append, go_blanks k n _ (by omega)]
  refine ⟨rfl, (go k [] u).2 ++ ((go k [] u).1 ++ List.replicate (k - (go k [] u).1.length) 32), ?_⟩
  have e : n - (go k [] u).1.length = (k - (go k [] u).1.length) + (n - k) := by omega
  rw [e, ← List.replicate_append_replicate]
  simp [List.append_assoc]
theorem Tape.ends {n : Nat} {t : List Nat} (h : Tape n t) (hn : 0 < n) : ∃ u, t = u ++ [32] := by
  obtain ⟨u, rfl⟩ := h
  obtain ⟨m, rfl⟩ : ∃ m, n = m + 1 := ⟨n - 1, by omega⟩
  exact ⟨u ++ List.replicate m 32, by rw [List.replicate_succ', List.append_assoc]⟩
theorem Tape.more {n j : Nat} {t : List Nat} (h : Tape n t) : Tape (n + j) (t ++ List.replicate j 32) := by
  obtain ⟨u, rfl⟩ := h
  exact ⟨u, by rw [List.append_assoc, List.replicate_append_replicate]⟩
theorem crun_append (k : Nat) : ∀ (a b : List Bool) (c : Nat), crun k c (a ++ b) = ((crun k (crun k c a).1 b).1, (crun k c a).2.1 ++ (crun k (crun k c a).1 b).2.1, (crun k c a).2.2 + (crun k (crun k c a).1 b).2.2)
  | [], b, c => by simp [crun]
  | x :: a, b, c => by
    show crun k c (x :: (a ++ b)) = _
    simp only [crun, crun_append k a b]
    simp [Nat.add_assoc]
theorem crun_blanks (k : Nat) : ∀ (n c : Nat), (crun k c (List.replicate n false)).2.2 = 0
  | 0, _ => rfl
  | n + 1, c => by
    simp only [List.replicate_succ, crun, crun_blanks k n, cstep]
    split <;> rfl
theorem bits_append (a b : List Nat) : bits (a ++ b) = bits a ++ bits b := List.map_append
theorem bits_blanks (n : Nat) : bits (List.replicate n 32) = List.replicate n false := by simp [bits]
theorem taken_more {k n : Nat} {l : List Nat} : (crun k 0 (bits (l ++ List.replicate n 32))).2.2 = (crun k 0 (bits l)).2.2 := by
  rw [bits_append, bits_blanks, crun_append]
  simp [crun_blanks]
theorem nil_letters : Letters [] := fun _ h => nomatch h
/-- what a carrier leaves behind: every other carrier takes as much of it as it takes of the tape before -/
theorem kept {a n : Nat} {t : List Nat} (h : Tape n t) (hn : a < n) (ho : ∀ o ∈ t, Ok o) (j : Nat) : takeR j 0 (runsOf 0 (go a [] t).2) = takeR j 0 (runsOf 0 t) := by
  obtain ⟨g1, g2⟩ := go_tape h (Nat.le_of_lt hn)
  have ho1 := (go_ok a t [] nil_letters ho).1
  rw [← taken_runs (h.ends (by omega)), ← taken_runs (g2.ends (by omega))]
  rw [← taken_more (l := t) (n := j), ← taken_more (l := (go a [] t).2) (n := j)]
  have hb : ∀ o ∈ t ++ List.replicate j 32, Ok o := fun o hx => by
    rcases List.mem_append.mp hx with hx | hx
    · exact ho o hx
    · exact .inl (List.eq_of_mem_replicate hx)
  have e : (go a [] (t ++ List.replicate j 32)) = ([], (go a [] t).2 ++ List.replicate j 32) := by
    rw [go_append, g1, go_blanks a j [] (Nat.zero_le _)]
    simp
  have c := go_crun a _ [] nil_letters hb
  rw [e] at c
  have hb1 : ∀ o ∈ (go a [] t).2 ++ List.replicate j 32, Ok o := fun o hx => by
    rcases List.mem_append.mp hx with hx | hx
    · exact ho1 o hx
    · exact .inl (List.eq_of_mem_replicate hx)
  have c2 := go_crun j _ [] nil_letters hb1
  have z := (go_tape (k := j) (g2.more (j := j)) (by omega)).1
  have key := (commute (a := a) (j := j) (w := bits (t ++ List.replicate j 32)) c.1 (by
    have := c2.1
    rw [z] at this
    have e2 := c.2
    dsimp only [List.length_nil] at e2 this ⊢
    rw [e2]
    exact this)).1
  have e2 := c.2
  dsimp only [List.length_nil] at e2
  rw [e2] at key
  exact key.symm
/-- both orders lay down letters in the same places -/
theorem order {a b n : Nat} {t : List Nat} (h : Tape n t) (hn : a + b ≤ n) (ho : ∀ o ∈ t, Ok o) : bits (go b [] (go a [] t).2).2 = bits (go a [] (go b [] t).2).2 := by
  obtain ⟨g1, g2⟩ := go_tape h (show a ≤ n by omega)
  have z := (go_tape g2 (show b ≤ n - a by omega)).1
  have ho1 := (go_ok a t [] nil_letters ho).1
  have ho2 := (go_ok b t [] nil_letters ho).1
  have c1 := go_crun a t [] nil_letters ho
  have c2 := go_crun b _ [] nil_letters ho1
  have c3 := go_crun b t [] nil_letters ho
  have c4 := go_crun a _ [] nil_letters ho2
  dsimp only [List.length_nil] at c1 c2 c3 c4
  have key := (commute (a := a) (j := b) (w := bits t) (by rw [c1.1, g1]; rfl) (by rw [c1.2, c2.1, z]; rfl)).2
  rw [c1.2, c2.2, c3.2, c4.2] at key
  exact key
end Pl
end Mine
end
section -- P5
/-! the law in plain words -/
set_option maxHeartbeats 4000000
namespace Mine
theorem quiet_P5 : True := by
  w_top off
  trivial
/-- an octet of a tape -/
def TOk (o : Nat) : Prop := o = 32 ∨ (64 < o ∧ o < 128)
theorem TOk.ok {o : Nat} (h : TOk o) : Pl.Ok o := by exact h.elim .inl fun h => .inr (by omega)
theorem TOk.lt {o : Nat} (h : TOk o) : o < 256 := by rcases h with h | h <;> omega
/-- a good tape: its octets, and its last n blanks -/
def TP (n : Nat) (t : List Nat) : Prop := (∀ o ∈ t, TOk o) ∧ Pl.Tape n t
theorem TP.ends {n : Nat} {t : List Nat} (h : TP n t) (hn : 0 < n) : ∃ u, t = u ++ [32] := h.2.ends hn
/-- one sweep of a good tape -/
theorem sweep_tape {k n : Nat} {t : List Nat} (h : TP n t) (hk : k ≤ n) : (sweepS k t).1 = [] ∧ TP (n - k) (sweepS k t).2.1 ∧ (sweepS k t).2.1.length = t.length := by
  have ho : ∀ o ∈ t, Pl.Ok o := fun o hx => (h.1 o hx).ok
  rw [Pl.sweep_go ho]
  have g := Pl.go_tape h.2 hk
  exact ⟨g.1, ⟨Pl.go_sub k TOk (.inl rfl) t [] (fun _ h => nomatch h) h.1, g.2⟩, Pl.go_length k t []⟩
theorem sweep_taken {k n : Nat} {t : List Nat} (h : TP n t) (hn : 0 < n) : (sweepS k t).2.2 = ((layersL (runsOf 0 t)).take k).sum := by
  have ho : ∀ o ∈ t, Pl.Ok o := fun o hx => (h.1 o hx).ok
  rw [Pl.sweep_go ho]
  dsimp only
  rw [Pl.taken_runs (h.ends hn), takeR_layers]
theorem sweep_layers {k n : Nat} {t : List Nat} (h : TP n t) (hn : k < n) : layersL (runsOf 0 (sweepS k t).2.1) = layersL (runsOf 0 t) := by
  have ho : ∀ o ∈ t, Pl.Ok o := fun o hx => (h.1 o hx).ok
  rw [Pl.sweep_go ho]
  exact layers_told fun j => Pl.kept h.2 hn ho j
theorem sweep_order {a b n : Nat} {t : List Nat} (h : TP n t) (hn : a + b ≤ n) : runsOf 0 (sweepS b (sweepS a t).2.1).2.1 = runsOf 0 (sweepS a (sweepS b t).2.1).2.1 := by
  have ho : ∀ o ∈ t, Pl.Ok o := fun o hx => (h.1 o hx).ok
  have h1 := (sweep_tape h (show a ≤ n by omega)).2.1
  have h2 := (sweep_tape h (show b ≤ n by omega)).2.1
  rw [Pl.sweep_go (l := (sweepS a t).2.1) (fun o hx => (h1.1 o hx).ok), Pl.sweep_go (l := (sweepS b t).2.1) (fun o hx => (h2.1 o hx).ok), Pl.sweep_go ho, Pl.sweep_go ho]
  exact Pl.runs_bits _ _ 0 (Pl.order h.2 hn ho)
theorem sweep_back {k n : Nat} {t : List Nat} (h : TP n t) (hk : k ≤ n) : (sweepS k (sweepS k t).2.1.reverse).1 = [] ∧ (sweepS k (sweepS k t).2.1.reverse).2.1 = t.reverse := by
  have ho : ∀ o ∈ t, Pl.Ok o := fun o hx => (h.1 o hx).ok
  have h1 := (sweep_tape h hk).2.1
  have g := Pl.go_tape h.2 hk
  rw [Pl.sweep_go (l := (sweepS k t).2.1.reverse) (fun o hx => (h1.1 o (List.mem_reverse.mp hx)).ok), Pl.sweep_go ho]
  have b := Pl.go_back k t [] Pl.nil_letters (Nat.zero_le _) ho
  dsimp only
  rw [g.1] at b
  rw [b]
  exact ⟨rfl, rfl⟩
/-- the runs are no more than the octets -/
theorem runs_sum : ∀ (l : List Nat) (n : Nat), (runsOf n l).sum ≤ n + l.length
  | [], _ => Nat.zero_le _
  | o :: l, n => by
    unfold runsOf
    by_cases h : o < 64
    · rw [if_pos h, List.sum_cons]
      have := runs_sum l 0
      simp only [List.length_cons]
      omega
    · rw [if_neg h]
      have := runs_sum l (n + 1)
      simp only [List.length_cons]
      omega
/-- all that law asks of two sweeps -/
theorem two_sweeps {a b n : Nat} {t : List Nat} (h : TP n t) (hn : a + b < n) :
    (sweepS a t).1 = [] ∧ (sweepS b (sweepS a t).2.1).1 = [] ∧
    (sweepS a t).2.2 = ((layersL (runsOf 0 t)).take a).sum ∧ (sweepS b (sweepS a t).2.1).2.2 = ((layersL (runsOf 0 t)).take b).sum ∧
    layersL (runsOf 0 (sweepS b (sweepS a t).2.1).2.1) = layersL (runsOf 0 t) ∧
    TP (n - a) (sweepS a t).2.1 ∧ TP (n - a - b) (sweepS b (sweepS a t).2.1).2.1 ∧
    (sweepS a t).2.1.length = t.length ∧ (sweepS b (sweepS a t).2.1).2.1.length = t.length ∧
    runsOf 0 (sweepS b (sweepS a t).2.1).2.1 = runsOf 0 (sweepS a (sweepS b t).2.1).2.1 ∧
    (sweepS b (sweepS b (sweepS a t).2.1).2.1.reverse).1 = [] ∧ (sweepS b (sweepS b (sweepS a t).2.1).2.1.reverse).2.1 = (sweepS a t).2.1.reverse ∧
    (sweepS a (sweepS a t).2.1.reverse).1 = [] ∧ (sweepS a (sweepS a t).2.1.reverse).2.1 = t.reverse := by
  obtain ⟨e1, p1, l1⟩ := sweep_tape h (show a ≤ n by omega)
  obtain ⟨e2, p2, l2⟩ := sweep_tape p1 (show b ≤ n - a by omega)
  obtain ⟨r1, r2⟩ := sweep_back h (show a ≤ n by omega)
  obtain ⟨r3, r4⟩ := sweep_back p1 (show b ≤ n - a by omega)
  have k1 := sweep_layers (k := a) h (by omega)
  have k2 := sweep_layers (k := b) p1 (by omega)
  refine ⟨e1, e2, sweep_taken h (by omega), ?_, k2.trans k1, p1, p2, l1, l2.trans l1, sweep_order h (by omega), r3, r4, r1, r2⟩
  rw [sweep_taken p1 (by omega), k1]
end Mine
end
section -- P6
open PySem PySem.Spec PySem.Calls PyProof.Rows PySem.W
/-! the text of law: what is written, what is spelled -/
set_option maxHeartbeats 4000000
namespace Mine
theorem quiet_P6 : True := by
  w_top off
  trivial
def spell (o : Nat) : List Nat := if o = 38 then [32, 97, 109, 112, 32] else if o = 60 then [32, 108, 116, 32] else if o = 62 then [32, 103, 116, 32] else if o = 13 then [32, 32, 120, 68, 32] else [o]
def blankL (o : Nat) : Nat := if 63 < o then o else 32
def Sign (o : Nat) : Prop := o = 38 ∨ o = 60 ∨ o = 62 ∨ o = 13 ∨ o = 111 ∨ o = 119 ∨ o = 32
theorem escL_cons (o : Nat) (l : List Nat) : escL (o :: l) = escL [o] ++ escL l := by
  have h : o :: l = [o] ++ l := rfl
  rw [h]
  unfold escL
  simp only [subL_append]
theorem esc_plain : ∀ l : List Nat, (∀ o ∈ l, Sign o) → (escL l).map blankL = l.flatMap spell
  | [], _ => rfl
  | o :: l, h => by
    have ih := esc_plain l fun x hx => h x (.tail _ hx)
    rw [escL_cons, List.map_append, ih, List.flatMap_cons]
    congr 1
    rcases h o (.head _) with rfl | rfl | rfl | rfl | rfl | rfl | rfl <;> decide
theorem spell_ok : ∀ o, Sign o → (∀ x ∈ spell o, TOk x) ∧ (spell o).length ≤ 5 := by
  intro o h
  rcases h with rfl | rfl | rfl | rfl | rfl | rfl | rfl <;> (unfold TOk; decide)
theorem plain_ok : ∀ l : List Nat, (∀ o ∈ l, Sign o) → (∀ x ∈ l.flatMap spell, TOk x) ∧ (l.flatMap spell).length ≤ 5 * l.length
  | [], _ => ⟨fun _ h => (nomatch h), Nat.le_refl _⟩
  | o :: l, h => by
    have ih := plain_ok l fun x hx => h x (.tail _ hx)
    have hs := spell_ok o (h o (.head _))
    rw [List.flatMap_cons]
    refine ⟨fun x hx => ?_, ?_⟩
    · rcases List.mem_append.mp hx with hx | hx
      · exact hs.1 x hx
      · exact ih.1 x hx
    · simp only [List.length_append, List.length_cons]
      omega
theorem plain_tape {l : List Nat} (n : Nat) (h : ∀ o ∈ l, Sign o) : TP n (l.flatMap spell ++ List.replicate n 32) :=
  ⟨fun o hx => (List.mem_append.mp hx).elim ((plain_ok l h).1 o) fun hx => .inl (List.eq_of_mem_replicate hx), ⟨_, rfl⟩⟩
theorem runs_word : ∀ (p : List Nat) (n : Nat), (∀ o ∈ p, 64 < o) → runsOf n p = []
  | [], _, _ => rfl
  | o :: p, n, h => by
    have := h o (.head _)
    unfold runsOf
    rw [if_neg (by omega), runs_word p (n + 1) fun x hx => h x (.tail _ hx)]
theorem runs_cut : ∀ (p r : List Nat) (n : Nat), (∀ o ∈ p, 64 < o) → runsOf n (p ++ 32 :: r) = (n + p.length) :: runsOf 0 r
  | [], r, n, _ => by simp [runsOf]
  | o :: p, r, n, h => by
    have := h o (.head _)
    have e0 : runsOf n (o :: (p ++ 32 :: r)) = if o < 64 then n :: runsOf 0 (p ++ 32 :: r) else runsOf (n + 1) (p ++ 32 :: r) := rfl
    show runsOf n (o :: (p ++ 32 :: r)) = _
    rw [e0, if_neg (by omega), runs_cut p r (n + 1) fun x hx => h x (.tail _ hx)]
    have e : n + 1 + p.length = n + (o :: p).length := by simp only [List.length_cons]; omega
    rw [e]
theorem runs_join : ∀ parts : List Str, (∀ p ∈ parts, 32 ∉ p.cps.toList) → (∀ o ∈ (Str.join ⟨#[32]⟩ parts).cps.toList, TOk o) → runsOf 0 (Str.join ⟨#[32]⟩ parts).cps.toList = (parts.map fun p => p.length).dropLast
  | [], _, _ => rfl
  | [p], h, ho => by
    have e : (Str.join ⟨#[32]⟩ [p]) = p := rfl
    rw [e] at ho ⊢
    exact runs_word _ 0 fun o hx => by
      rcases ho o hx with rfl | ho
      · exact absurd hx (h p (.head _))
      · exact ho.1
  | p :: q :: r, h, ho => by
    have e : (Str.join ⟨#[32]⟩ (p :: q :: r)).cps.toList = p.cps.toList ++ 32 :: (Str.join ⟨#[32]⟩ (q :: r)).cps.toList := by
      show (p ++ ⟨#[32]⟩ ++ Str.join ⟨#[32]⟩ (q :: r)).cps.toList = _
      simp only [Str.cps_append, Array.toList_append]
      simp
    rw [e] at ho ⊢
    have ih := runs_join (q :: r) (fun a ha => h a (.tail _ ha)) fun o hx => ho o (List.mem_append_right _ (.tail _ hx))
    rw [runs_cut, ih]
    · simp [Str.length]
    · intro o hx
      rcases ho o (List.mem_append_left _ hx) with rfl | ho
      · exact absurd hx (h p (.head _))
      · exact ho.1
end Mine
end
section -- LX
open PySem PySem.Spec PySem.Calls PyProof.Rows PySem.W
set_option maxRecDepth 100000
set_option maxHeartbeats 4000000
namespace Mine
theorem quiet_LX : True := by
  w_top off
  trivial
section
variable {prog : Program} {w : World} {A : Around} {E : Value → Shared → Prop} {s : Shared} {h₀ : Heap} {L : Addr} {m : Str → Option Value} {env : Env}
/-- a comprehension over the signs of a text -/
def SrcS (prog : Program) (w : World) (A : Around) (h₀ : Heap) (L : Addr) (m : Str → Option Value) (env : Env) (elt : PySem.Expr) (x : Str) (scope : Scope) (cl : List (Str × Addr)) (Fin : Shared → List Value → List (Addr × Obj) → Prop) (xv : Value) (s₁ : Shared) : Prop :=
  ∃ tx t news, xv = .str tx t ∧ A.handled = none ∧ Fr h₀ L s₁.heap m ∧ News h₀ L s₁.heap news ∧ tx.cps.all (· < 128) = true ∧ tx.cps.size ≤ sizeLine ∧
    ∀ s₂ : Shared, (∃ h, s₂ = { s₁ with heap := h }) → LCg.CompRest prog w A h₀ L m env elt x scope cl s₂ (fun _ => True) (SignAt tx) (Fin s₂) tx.cps.size 0 [] news
theorem SrcS.intro {elt : PySem.Expr} {x : Str} {scope : Scope} {cl : List (Str × Addr)} {Fin : Shared → List Value → List (Addr × Obj) → Prop} {tx : Str} {t : Tok} {news : List (Addr × Obj)} {s₁ : Shared}
    (hh : A.handled = none) (F : Fr h₀ L s₁.heap m) (N : News h₀ L s₁.heap news) (ha : tx.cps.all (· < 128) = true) (hsz : tx.cps.size ≤ sizeLine)
    (h : ∀ g, LCg.CompRest prog w A h₀ L m env elt x scope cl { s₁ with heap := g } (fun _ => True) (SignAt tx) (Fin { s₁ with heap := g }) tx.cps.size 0 [] news) :
    SrcS prog w A h₀ L m env elt x scope cl Fin (.str tx t) s₁ := ⟨tx, t, news, rfl, hh, F, N, ha, hsz, fun _ ⟨g, e⟩ => e ▸ h g⟩
theorem str_st {tx : Str} {t : Tok} {T : String} {I : Addr} : ∀ i (h h' : Heap) (o : Obj) (nw : List (Addr × Obj)), h.IsStrIter I T tx t i → h.get? I = some o → h'.get? I = some o → (∀ b o, h₀.get? b = some o → h'.get? b = some o) → News h₀ L h' nw → True → h'.IsStrIter I T tx t i :=
  fun i h h' o nw st e e' _ _ _ => by
    obtain ⟨o', q, r⟩ := st
    rw [e] at q
    cases q
    exact ⟨o, e', r⟩
theorem ListComp_S {elt iter : PySem.Expr} {x : Str} {px : Pos} {scope : Scope} {cl : List (Str × Addr)} {pos : Pos} {Q : Value → Shared → Prop} (F₀ : Fr h₀ L s.heap m)
    (hclos : closureFor scope env = pure cl) (hcell : ∀ y ∈ scope.names, y.2 ≠ .cell) (hkind : scope.kind = .function)
    (hnames : ∀ y ∈ scope.names, y.2 = .local → scope.names.lookup y.1 = some .local) (hx : scope.names.lookup x = some .local)
    (h : wpAny (model prog w) A (eval iter env) (SrcS prog w A h₀ L m env elt x scope cl (fun s₂ => LCg.FinE h₀ L m s₂ Q)) E s)
    (hs : ∀ x, foldedSetIterable iter env x = pure x := by intro _; rfl) :
    wpAny (model prog w) A (eval (.ListComp elt [⟨.Name x px, iter, [], 0⟩] scope pos) env) Q E s := by
  rw [eval_ListComp]
  refine wpAny_comprehension_free (use := none) rfl hs hclos hkind hnames (wpAny_mono h (fun xv s₁ h₁ => ?_) fun _ _ e => e)
  obtain ⟨tx, t, news, rfl, hh, F, N, ha, hsz, R⟩ := h₁
  refine wpAny_pyIter_ascii ha ?_
  refine LCg.block_U (Walks.strAscii hh s₁.heap.objs.size tx t) hsz (fun i h st => by obtain ⟨o, e, _⟩ := st; exact ⟨o, e⟩) str_st hcell hkind hx ⟨_, Heap.get?_push_size _ rfl, rfl, rfl⟩ (fun b hb => ?_)
    (F.keeps fun _ _ e => Heap.get?_push_of_some _ e) (N.grown fun _ _ e => Heap.get?_push_of_some _ e) (Nat.ne_of_lt F.ns.lt) (next_is_new F) (fun p hp => Nat.ne_of_lt (Heap.lt_size (N p hp).1)) trivial (R _ ⟨_, rfl⟩) ?_
  · rw [List.mem_singleton.mp hb]
    show s₁.heap.objs.size < (s₁.heap.push _).objs.size
    rw [Heap.size_push]; exact Nat.lt_succ_self _
  · intro D C h tk m' ys news' F' N' o1 hn hC₀ hD₀ hCL hDL hCD offC fin
    refine ⟨m', hn, fun h'' hs'' => fin D h'' tk (F'.change hs'' hCL hC₀) (fun p hp => ?_) o1⟩
    refine ⟨hs''.extBut _ _ ?_ (N' p hp).1, (N' p hp).2⟩
    rcases List.mem_cons.mp hp with rfl | hp
    · exact Ne.symm hCD
    · exact offC p hp
end
theorem strs_snoc {y : Str} {t : Tok} : ∀ {vs : List Value} {xs : List Str}, StrsAre vs xs → StrsAre (vs ++ [.str y t]) (xs ++ [y])
  | _, _, .nil => .cons y t .nil
  | _, _, .cons z u h => .cons z u (strs_snoc h)
theorem strs_len : ∀ {vs : List Value} {xs : List Str}, StrsAre vs xs → vs.length = xs.length
  | _, _, .nil => rfl
  | _, _, .cons _ _ h => congrArg (· + 1) (strs_len h)
theorem strs_at : ∀ {vs : List Value} {xs : List Str} {i : Nat} {v : Value}, StrsAre vs xs → vs[i]? = some v → ∃ x t, xs[i]? = some x ∧ v = .str x t
  | _, _, 0, _, .cons y t _, e => ⟨y, t, rfl, (Option.some.inj e).symm⟩
  | _, _, i + 1, _, .cons _ _ h, e => strs_at (i := i) h e
/-- the octets of a text -/
abbrev cp (x : Str) : List Nat := x.cps.toList
theorem cp_inj {x y : Str} (h : cp x = cp y) : x = y := Str.ext' (Array.toList_inj.mp h)
theorem cp_join : ∀ xs : List Str, cp (Txt.join "" xs) = xs.flatMap cp := by
  intro xs
  show cp (Builtin.Str.glued "" xs) = _
  rw [StrLaws.glued_eq_join]
  induction xs with
  | nil => rfl
  | cons a r ih =>
    cases r with
    | nil => simp [Str.join, cp]
    | cons b r =>
      rw [List.flatMap_cons, ← ih]
      show cp (a ++ "" ++ Str.join "" (b :: r)) = _
      unfold cp
      rw [Str.cps_append, Str.cps_append, Array.toList_append, Array.toList_append]
      show _ ++ [] ++ _ = _
      rw [List.append_nil]
section
variable {prog : Program} {w : World} {A : Around} {E : Value → Shared → Prop} {s : Shared} {t : Tok} {Q : Value → Shared → Prop} {h₀ : Heap} {L D : Addr} {news : List (Addr × Obj)}
theorem join_K {ys : List Value} {xs : List Str} {n : Nat} (N : News h₀ L s.heap news) (hm : (D, listOf ys.toArray n) ∈ news) (hi : StrsAre ys xs) (hl : xs.length ≤ 200) (hB : ∀ x ∈ xs, x.length ≤ 8)
    (h : ∀ t' k x, cp x = xs.flatMap cp → Q (.str x t') { s with toks := k }) : wpAny (model prog w) A (call (.builtin "str.join") [.str "" t, .ref D]) Q E s := by
  refine join_listW (items := ys.toArray) ⟨_, (N _ hm).1, rfl, _, rfl⟩ hi (by decide) ?_ fun t' k => h t' k _ (cp_join xs)
  have : (xs.map (·.length)).sum ≤ 8 * xs.length := by
    clear h hi hl
    induction xs with
    | nil => simp
    | cons a r ih =>
      have h1 := hB a (.head _)
      have h2 := ih fun x hx => hB x (.tail _ hx)
      simp only [List.map_cons, List.sum_cons, List.length_cons]
      omega
  omega
end
end Mine
end
section -- LW
open PySem PySem.Spec PySem.Calls PyProof.Rows PySem.W
set_option maxRecDepth 100000
set_option maxHeartbeats 8000000
namespace Mine
theorem quiet_LW : True := by
  w_top off
  trivial
local macro_rules | `(tactic| k_room) => `(tactic| decide)
local macro_rules | `(tactic| k_steps) => `(tactic| repeat' ((fail_if_success (with_reducible show wpAny _ _ (exec (Stmt.While _ _ _ _) _) _ _ _)); (fail_if_success (with_reducible show wpG _ _ _ _ _ _)); (first | (k_unfold; (try dsimp only)) | (k_end; kc_close) | walk1 | (dsimp only; walk1) | (leave1; walk_say "STEP leave1"; (try dsimp only)) | fail "no step")))
local macro_rules | `(tactic| k_all) => `(tactic| assumption)
local macro_rules | `(tactic| walk_at "eval ListComp") => `(tactic| (k_here; k_dflt (first
  | (refine ListComp_S (F₀ := by k_asm) (by with_unfolding_all rfl) (by decide) (by rfl) (by decide) (by rfl) ?_; (with_reducible show wpAny _ _ (eval (PySem.Expr.Name _ _) _) _ _ _); walk1; (with_reducible show SrcS _ _ _ _ _ _ _ _ _ _ _ _ (Value.str _ _) _))
  | refine LCg.ListComp_U (F₀ := by k_asm) (by with_unfolding_all rfl) (by decide) (by rfl) (by decide) (by rfl) ?_)))
local macro_rules | `(tactic| walk_at "exec Assign cons ListComp") => `(tactic| (k_here; k_dflt (refine LCg.Assign_ListComp_U (F₀ := by k_asm) (by rfl) (by with_unfolding_all rfl) (by with_unfolding_all rfl) (by decide) (by rfl) (by decide) (by rfl) (by rfl) (by rfl) ?_)))
local macro_rules | `(tactic| walk_at "CompSrc") => `(tactic| (k_here; k_dflt (refine LCg.CompSrc.ledger (by rfl) (by k_asm) (by k_asm) (by k_mem) (by first | (rw [PySem.sizeLine_eq]; omega) | size_fits) ?_; intro g')))
local macro_rules | `(tactic| walk_at "call builtin:str.join") => `(tactic| (k_here; k_dflt (refine' join_K ?N ?m ?i ?l ?b ?_; (case N => k_asm); (case m => k_mem); (case i => assumption); (case l => assumption); (case b => assumption)); intro t9 k9 x9 e9; (try dsimp only)))
local macro_rules | `(tactic| walk_at "call builtin:sum") => `(tactic| (k_here; k_dflt (refine' sum_nat ?h ?F ?N ?m ?i ?_; (case h => rfl); (case N => k_asm); (case m => k_mem); (case i => assumption); (case F => k_asm)); intro h' tk' t' F' N'; (try dsimp only)))
local macro_rules | `(tactic| walk_at "subscriptTail") => `(tactic| (k_here; (with_reducible show wpAny _ _ (subscriptTail _ _ (Value.ref _) (Value.str _ _)) _ _ _); k_dflt (refine kda_item (knd := PySem.strKind _ _) (by k_asm) (by k_mem) (by assumption) (strKind_is _ _ _ _) (by assumption) ?_)))
local macro_rules | `(tactic| walk_at "call builtin:str.split") => `(tactic| (k_here; k_dflt (refine KSpl.split1 (by k_asm) (by k_asm) (by decide) ?_ (by rw [PySem.sizeLine_eq]; omega)); (intro D' l' h' k' e' a' F' N' l1)))
local macro_rules | `(tactic| walk_at "call ref") => `(tactic| (k_here; k_dflt (first
  | (refine' layers_spec ?k1 ?k2 ?k3 ?k4 ?k5 ?kh ?kd ?ku ?kl ?ks ?km ?ki ?_; (case kh => exact rfl); (case k4 => k_asm); (case km => k_mem); (case ki => assumption); (case kl => assumption); (case ks => assumption); (case k1 => k_asm); (case k2 => k_asm); (case k3 => k_asm); (case k5 => k_asm); (case kd => k_room); (case ku => k_room); intro s' r' v' n' g1' o1' i1' l1' F' N'; (try dsimp only))
  | (refine' read_spec ?k1 ?k2 ?k3 ?k4 ?k5 ?kX ?kT ?kh ?kd ?ku ?kl ?kt ?ke ?_; (case kh => exact rfl); (case k4 => k_asm); (case kl => assumption); (case kt => assumption); (case ke => assumption); (case k1 => k_asm); (case k2 => k_asm); (case k3 => k_asm); (case k5 => k_asm); (case kX => k_asm); (case kT => k_asm); (case kd => k_room); (case ku => k_room); intro s' r' v' n' g1' o1' i1' l1' F' N'; (try dsimp only))
  | (refine' sweep_spec ?k1 ?k2 ?k3 ?k4 ?k5 ?kh ?kb ?kt ?ke ?kk ?ko ?kn ?kg ?kd ?ku ?_; (case kh => exact rfl); (case k4 => k_asm); (case kb => assumption); (case kt => assumption); (case ke => assumption); (case kk => assumption); (case ko => assumption); (case kn => assumption); (case kg => assumption); (case k1 => k_asm); (case k2 => k_asm); (case k3 => k_asm); (case k5 => k_asm); (case kd => k_room); (case ku => k_room); intro s' ps' tp' t3' t4' t5' o1' b1' tr' l1' F' N'; (try dsimp only))
  | (refine' escape_spec ?k1 ?k2 ?k3 ?k4 ?k5 ?kh ?kd ?ku ?kx ?_; (case kh => exact rfl); (case k4 => k_asm); (case kx => assumption); (case k1 => k_asm); (case k2 => k_asm); (case k3 => k_asm); (case k5 => k_asm); (case kd => k_room); (case ku => k_room); intro z9 t9 h9 k9 e9 F' N'; (try dsimp only)))))
local macro_rules | `(tactic| walk_at "exec For Name Name cons nil") => `(tactic| (k_here; with_unfolding_all refine wpAny_For ?_))
local macro_rules | `(tactic| kmk_nums) => `(tactic| first | with_reducible exact kmk_upto (by l_ints) (by decide) | with_reducible exact kmk_from (by l_ints) (Int.natCast_nonneg _))
theorem step_abs {M : Model} {A : Around} {env : Env} {st : Stmt} {rest : List Stmt} {Q : Flow → Shared → Prop} {E : Value → Shared → Prop} {s : Shared} (P : Shared → Prop)
    (h1 : ∀ (Q : Flow → Shared → Prop) (E : Value → Shared → Prop), (∀ s', P s' → Q .next s') → wpAny M A (exec st env) Q E s) (h2 : ∀ s', P s' → wpG M A (execs rest env) Q E s') : wpG M A (execs (st :: rest) env) Q E s :=
  wpG_execs_consA (h1 _ _ h2)
theorem news_nil {h₀ h : Heap} {L : Addr} : News h₀ L h [] := fun _ h => nomatch h
theorem news_add {h₀ h : Heap} {L : Addr} {l l' : List (Addr × Obj)} {q : Addr × Obj} (N : News h₀ L h l) (hp : q ∈ l) (N' : News h₀ L h l') : News h₀ L h (q :: l') := fun p hp' => by
  rcases List.mem_cons.mp hp' with rfl | hp'
  · exact N _ hp
  · exact N' _ hp'
local macro_rules | `(tactic| walk_at "my_news") => `(tactic| first | exact news_nil | (refine news_add (by assumption) (by k_mem) ?_; walk_at "my_news"))
def nums (ns : List Int) : List Int := ns.take 6 ++ ([14, 8, 4, 5, 1, 4] : List Int).drop (ns.take 6).length
theorem nums_len (ns : List Int) : (nums ns).length = 6 := by
  unfold nums
  simp only [List.length_append, List.length_drop, List.length_take, List.length_cons, List.length_nil]
  omega
def signOf (k : Int) : Nat := ([38, 60, 62, 13, 111, 119, 32] : List Nat).getD (k % 7).toNat 0
def signS (k : Int) : Str := ⟨#[signOf k]⟩
def roomI (k : Int) : Int := 1 + (k.fdiv 7).fmod 4
theorem room_nat (k : Int) : ((roomI k).toNat : Int) = roomI k ∧ 1 ≤ (roomI k).toNat ∧ (roomI k).toNat ≤ 4 := by
  have h0 : (k.fdiv 7).fmod 4 = k.fdiv 7 % 4 := Int.fmod_eq_emod_of_nonneg _ (by decide)
  have h1 : 0 ≤ k.fdiv 7 % 4 := Int.emod_nonneg _ (by decide)
  have h2 : k.fdiv 7 % 4 < 4 := Int.emod_lt_of_pos _ (by decide)
  unfold roomI
  rw [h0]
  omega
theorem sign_item (k : Int) : Txt.item (PySem.Str.ofString "&<>\x0dow ") (k.fmod 7) = signS k := by
  have h0 : k.fmod 7 = k % 7 := Int.fmod_eq_emod_of_nonneg k (by decide)
  have h1 : 0 ≤ k % 7 := Int.emod_nonneg k (by decide)
  have h2 : k % 7 < 7 := Int.emod_lt_of_pos k (by decide)
  unfold signS signOf
  rw [h0]
  revert h1 h2
  generalize k % 7 = j
  intro h1 h2
  obtain ⟨n, rfl⟩ := Int.eq_ofNat_of_zero_le h1
  have h3 : n < 7 := by omega
  have h4 : ∀ n < 7, Txt.item (PySem.Str.ofString "&<>\x0dow ") ((n : Nat) : Int) = (⟨#[([38, 60, 62, 13, 111, 119, 32] : List Nat).getD ((n : Nat) : Int).toNat 0]⟩ : Str) := by decide
  exact h4 n h3
theorem sign_flat : ∀ l : List Int, (l.map signS).flatMap cp = l.map signOf
  | [] => rfl
  | a :: l => by
    rw [List.map_cons, List.flatMap_cons, sign_flat l]
    rfl
inductive P1 (g0 : Heap) (L c : Addr) (oc : Obj) (ns : List Int) (s0 s' : Shared) : Prop
  | mk (m : Str → Option Value) (a : Addr) (vs : Array Value) (n : Nat)
    (h1 : m "numbers" = some (.ref a)) (h2 : Fr g0 L s'.heap m) (h3 : News g0 L s'.heap [(a, listOf vs n), (c, oc), (91, tabObj #[])]) (h4 : IntsAre vs.toList (nums ns)) (h5 : @LT.lt Nat _ c a) (h6 : @LT.lt Nat _ 91 a) (h7 : s'.gens = s0.gens) (h8 : s'.os = s0.os) : P1 g0 L c oc ns s0 s'
inductive P2 (g0 : Heap) (L c : Addr) (oc : Obj) (ns : List Int) (s0 s' : Shared) : Prop
  | mk (m : Str → Option Value) (a : Addr) (vs : Array Value) (n : Nat) (x : Str) (t : Tok)
    (h1 : m "numbers" = some (.ref a)) (h2 : m "text" = some (.str x t)) (h3 : cp x = (nums ns).map signOf) (h4 : Fr g0 L s'.heap m) (h5 : News g0 L s'.heap [(a, listOf vs n), (c, oc), (91, tabObj #[])]) (h6 : IntsAre vs.toList (nums ns)) (h7 : @LT.lt Nat _ c a) (h8 : @LT.lt Nat _ 91 a) (h9 : s'.gens = s0.gens) (h10 : s'.os = s0.os) : P2 g0 L c oc ns s0 s'
inductive P3 (g0 : Heap) (L c : Addr) (oc : Obj) (ns : List Int) (s0 s' : Shared) : Prop
  | mk (m : Str → Option Value) (a : Nat) (b : Nat) (rl : Addr) (vs : Array Value) (n : Nat) (x : Str) (t : Tok)
    (h1 : m "rooms" = some (.ref rl)) (h2 : m "text" = some (.str x t)) (h3 : cp x = (nums ns).map signOf) (h4 : Fr g0 L s'.heap m) (h5 : News g0 L s'.heap [(rl, listOf vs n), (c, oc), (91, tabObj #[])]) (h6 : IntsAre vs.toList (([a, b] : List Nat).map fun (o : Nat) => (o : Int))) (h7 : 1 ≤ a) (h8 : a ≤ 4) (h9 : 1 ≤ b) (h10 : b ≤ 4) (h11 : @Ne Nat c rl) (h12 : @Ne Nat 91 rl) (h13 : s'.gens = s0.gens) (h14 : s'.os = s0.os) : P3 g0 L c oc ns s0 s'
inductive P4 (g0 : Heap) (L c : Addr) (oc : Obj) (ns : List Int) (s0 s' : Shared) : Prop
  | mk (m : Str → Option Value) (a : Nat) (b : Nat) (rl : Addr) (vs : Array Value) (n : Nat) (x : Str) (t : Tok) (ts : Tok)
    (h1 : m "rooms" = some (.ref rl)) (h2 : m "text" = some (.str x t)) (h3 : m "spare" = some (.int (a + b + 1 : Nat) ts)) (h4 : cp x = (nums ns).map signOf) (h5 : Fr g0 L s'.heap m) (h6 : News g0 L s'.heap [(rl, listOf vs n), (c, oc), (91, tabObj #[])]) (h7 : IntsAre vs.toList (([a, b] : List Nat).map fun (o : Nat) => (o : Int))) (h8 : 1 ≤ a) (h9 : a ≤ 4) (h10 : 1 ≤ b) (h11 : b ≤ 4) (h12 : @Ne Nat c rl) (h13 : @Ne Nat 91 rl) (h14 : s'.gens = s0.gens) (h15 : s'.os = s0.os) : P4 g0 L c oc ns s0 s'
def SpelledOk (kvs : List (Str × Value)) : Prop := ∀ o, Sign o → ∃ y t, valueAt kvs ⟨#[o]⟩ = some (.str y t) ∧ cp y = spell o
theorem spelled_ok {a b c d e f g a' b' c' d' e' f' g' : Tok} : SpelledOk (strPairs [(.str "&" a, .str " amp " a'), (.str "<" b, .str " lt " b'), (.str ">" c, .str " gt " c'), (.str "\r" d, .str "  xD " d'), (.str "o" e, .str "o" e'), (.str "w" f, .str "w" f'), (.str " " g, .str " " g')]) := by
  intro o h
  rcases h with rfl | rfl | rfl | rfl | rfl | rfl | rfl <;> exact ⟨_, _, rfl, by decide⟩
theorem signs_ok (l : List Int) : ∀ o ∈ l.map signOf, Sign o := fun o h => by
  obtain ⟨k, _, rfl⟩ := List.mem_map.mp h
  have h1 : 0 ≤ k % 7 := Int.emod_nonneg k (by decide)
  have h2 : k % 7 < 7 := Int.emod_lt_of_pos k (by decide)
  unfold signOf Sign
  revert h1 h2
  generalize k % 7 = j
  intro h1 h2
  obtain ⟨n, rfl⟩ := Int.eq_ofNat_of_zero_le h1
  have h3 : n < 7 := by omega
  have h4 : ∀ n < 7, let o := ([38, 60, 62, 13, 111, 119, 32] : List Nat).getD ((n : Nat) : Int).toNat 0; o = 38 ∨ o = 60 ∨ o = 62 ∨ o = 13 ∨ o = 111 ∨ o = 119 ∨ o = 32 := by decide
  exact h4 n h3
theorem ints_add : ∀ {vs : List Value} {ns : List Int} {n : Int} {t : Tok}, IntsAre vs ns → IntsAre (vs ++ [.int n t]) (ns ++ [n])
  | _, _, n, t, .nil => .cons n t .nil
  | _, _, _, _, .cons n t h => .cons n t (ints_add h)
theorem signs_ascii {x : Str} (h : ∀ o ∈ cp x, Sign o) : x.cps.all (· < 128) = true := by
  rw [← Array.all_toList, List.all_eq_true]
  intro o ho
  have := h o ho
  unfold Sign at this
  exact decide_eq_true (by omega)
inductive P5 (w : World) (g0 : Heap) (L c : Addr) (ns : List Int) (s0 s' : Shared) : Prop
  | mk (m : Str → Option Value) (a : Nat) (b : Nat) (rl : Addr) (vs : Array Value) (n : Nat) (d : Addr) (od : Obj) (oc : Obj) (kvs : List (Str × Value)) (x : Str) (t : Tok) (ts : Tok)
    (h1 : m "rooms" = some (.ref rl)) (h2 : m "text" = some (.str x t)) (h3 : m "spare" = some (.int (a + b + 1 : Nat) ts)) (h4 : cp x = (nums ns).map signOf) (h5 : Fr g0 L s'.heap m) (h6 : News g0 L s'.heap [(d, od), (rl, listOf vs n), (c, oc), (91, tabObj #[])]) (h7 : IntsAre vs.toList (([a, b] : List Nat).map fun (o : Nat) => (o : Int))) (h8 : 1 ≤ a) (h9 : a ≤ 4) (h10 : 1 ≤ b) (h11 : b ≤ 4) (h12 : @Ne Nat c rl) (h13 : @Ne Nat 91 rl) (h14 : od.IsDictOf (PySem.strKind PySem.Challenge.rw_xp0002_01.row.prog w) kvs) (h15 : SpelledOk kvs) (h16 : oc.data = .cell (some (.ref d))) (h17 : @Ne Nat c d) (h18 : @Ne Nat 91 d) (h19 : @Ne Nat rl d) (h20 : s'.gens = s0.gens) (h21 : s'.os = s0.os) : P5 w g0 L c ns s0 s'
/-- the text that is spelled out, with its blanks -/
def plainL (ns : List Int) (k : Nat) : List Nat := ((nums ns).map signOf).flatMap spell ++ List.replicate k 32
inductive P6 (g0 : Heap) (L : Addr) (ns : List Int) (s0 s' : Shared) : Prop
  | mk (m : Str → Option Value) (a : Nat) (b : Nat) (rl : Addr) (vs : Array Value) (n : Nat) (x : Str) (t : Tok) (ts : Tok) (y : Str) (ty : Tok)
    (h1 : m "rooms" = some (.ref rl)) (h2 : m "text" = some (.str x t)) (h3 : m "spare" = some (.int (a + b + 1 : Nat) ts)) (h4 : m "plain" = some (.str y ty)) (h5 : cp x = (nums ns).map signOf) (h6 : cp y = plainL ns (a + b + 1)) (h7 : Fr g0 L s'.heap m) (h8 : News g0 L s'.heap [(rl, listOf vs n), (91, tabObj #[])]) (h9 : IntsAre vs.toList (([a, b] : List Nat).map fun (o : Nat) => (o : Int))) (h10 : 1 ≤ a) (h11 : a ≤ 4) (h12 : 1 ≤ b) (h13 : b ≤ 4) (h14 : @Ne Nat 91 rl) (h15 : s'.gens = s0.gens) (h16 : s'.os = s0.os) : P6 g0 L ns s0 s'
theorem len_cp (x : Str) : x.length = (cp x).length := by simp [cp, Str.length]
theorem cp_app (x y : Str) : cp (x ++ y) = cp x ++ cp y := by unfold cp; rw [Str.cps_append, Array.toList_append]
theorem blanks_cp (n : Nat) : cp (Txt.mul (PySem.Str.ofString " ") (n : Int)) = List.replicate n 32 := mul_one_list 32 n
theorem plain_T (ns : List Int) (k : Nat) : TP k (plainL ns k) := plain_tape k (signs_ok _)
theorem plainL_len (ns : List Int) (k : Nat) : (plainL ns k).length ≤ 30 + k := by
  have := (plain_ok _ (signs_ok (nums ns))).2
  have h := nums_len ns
  unfold plainL
  rw [List.length_append, List.length_replicate]
  rw [List.length_map] at this
  omega
theorem join_len (c : Nat) : ∀ parts : List Str, parts.length ≤ (Str.join ⟨#[c]⟩ parts).length + 1
  | [] => Nat.zero_le _
  | [_] => Nat.succ_le_succ (Nat.zero_le _)
  | p :: q :: r => by
    have ih := join_len c (q :: r)
    have e : (Str.join ⟨#[c]⟩ (p :: q :: r)).length = p.length + 1 + (Str.join ⟨#[c]⟩ (q :: r)).length := by
      show (p ++ ⟨#[c]⟩ ++ Str.join ⟨#[c]⟩ (q :: r)).length = _
      rw [Str.length_append, Str.length_append]
      rfl
    rw [e]
    simp only [List.length_cons] at ih ⊢
    omega
theorem split_runs {x : Str} (h : ∀ o ∈ cp x, TOk o) : ((Txt.split x ⟨#[32]⟩).map fun p => p.length).dropLast = runsOf 0 (cp x) ∧ (Txt.split x ⟨#[32]⟩).length ≤ x.length + 1 := by
  have e := StrLaws.join_split x ⟨#[32]⟩
  have f := StrLaws.split_free x 32
  have l := join_len 32 (Txt.split x ⟨#[32]⟩)
  rw [e] at l
  refine ⟨?_, l⟩
  have r := runs_join (Txt.split x ⟨#[32]⟩) f (by rw [e]; exact h)
  rw [e] at r
  exact r.symm
inductive P7 (g0 : Heap) (L : Addr) (ns : List Int) (s0 s' : Shared) : Prop
  | mk (m : Str → Option Value) (a : Nat) (b : Nat) (rl : Addr) (vs : Array Value) (n : Nat) (x : Str) (t : Tok) (ts : Tok) (y : Str) (ty : Tok) (tl : Addr) (tv : Array Value) (tn : Nat)
    (h1 : m "rooms" = some (.ref rl)) (h2 : m "text" = some (.str x t)) (h3 : m "spare" = some (.int (a + b + 1 : Nat) ts)) (h4 : m "plain" = some (.str y ty)) (h5 : m "told" = some (.ref tl)) (h6 : cp x = (nums ns).map signOf) (h7 : cp y = plainL ns (a + b + 1)) (h8 : Fr g0 L s'.heap m) (h9 : News g0 L s'.heap [(tl, listOf tv tn), (rl, listOf vs n), (91, tabObj #[])]) (h10 : IntsAre vs.toList (([a, b] : List Nat).map fun (o : Nat) => (o : Int))) (h11 : IntsAre tv.toList ((runsOf 0 (plainL ns (a + b + 1))).map fun (o : Nat) => (o : Int))) (h12 : 1 ≤ a) (h13 : a ≤ 4) (h14 : 1 ≤ b) (h15 : b ≤ 4) (h16 : @Ne Nat 91 rl) (h17 : @Ne Nat 91 tl) (h18 : s'.gens = s0.gens) (h19 : s'.os = s0.os) : P7 g0 L ns s0 s'
inductive P8 (g0 : Heap) (L : Addr) (ns : List Int) (s0 s' : Shared) : Prop
  | mk (m : Str → Option Value) (a : Nat) (b : Nat) (rl : Addr) (vs : Array Value) (n : Nat) (x : Str) (t : Tok) (ts : Tok) (y : Str) (ty : Tok) (tl : Addr) (tv : Array Value) (tn : Nat) (ll : Addr) (lv : Array Value) (ln : Nat)
    (h1 : m "rooms" = some (.ref rl)) (h2 : m "text" = some (.str x t)) (h3 : m "spare" = some (.int (a + b + 1 : Nat) ts)) (h4 : m "plain" = some (.str y ty)) (h5 : m "told" = some (.ref tl)) (h6 : m "layers" = some (.ref ll)) (h7 : cp x = (nums ns).map signOf) (h8 : cp y = plainL ns (a + b + 1)) (h9 : Fr g0 L s'.heap m) (h10 : News g0 L s'.heap [(ll, listOf lv ln), (tl, listOf tv tn), (rl, listOf vs n), (91, tabObj #[])]) (h11 : IntsAre vs.toList (([a, b] : List Nat).map fun (o : Nat) => (o : Int))) (h12 : IntsAre tv.toList ((runsOf 0 (plainL ns (a + b + 1))).map fun (o : Nat) => (o : Int))) (h13 : IntsAre lv.toList ((layersL (runsOf 0 (plainL ns (a + b + 1)))).map fun (o : Nat) => (o : Int))) (h14 : 1 ≤ a) (h15 : a ≤ 4) (h16 : 1 ≤ b) (h17 : b ≤ 4) (h18 : @Ne Nat 91 rl) (h19 : @Ne Nat 91 tl) (h20 : @Ne Nat 91 ll) (h21 : s'.gens = s0.gens) (h22 : s'.os = s0.os) : P8 g0 L ns s0 s'
theorem join_part (c : Nat) : ∀ (parts : List Str) (p : Str), p ∈ parts → p.length ≤ (Str.join ⟨#[c]⟩ parts).length
  | [], _, h => nomatch h
  | [a], p, h => by rw [List.mem_singleton.mp h]; exact Nat.le_refl _
  | a :: q :: r, p, h => by
    have e : (Str.join ⟨#[c]⟩ (a :: q :: r)).length = a.length + 1 + (Str.join ⟨#[c]⟩ (q :: r)).length := by
      show (a ++ ⟨#[c]⟩ ++ Str.join ⟨#[c]⟩ (q :: r)).length = _
      rw [Str.length_append, Str.length_append]
      rfl
    rw [e]
    rcases List.mem_cons.mp h with rfl | h
    · omega
    · have := join_part c (q :: r) p h
      omega
theorem split_part {x p : Str} {c : Nat} (h : p ∈ Txt.split x ⟨#[c]⟩) : p.length ≤ x.length := by
  have := join_part c _ p h
  rw [StrLaws.join_split] at this
  exact this
theorem esc_ok : ∀ l : List Nat, (∀ o ∈ l, Sign o) → (∀ o ∈ escL l, o < 128) ∧ (escL l).length ≤ 5 * l.length
  | [], _ => ⟨fun _ h => (nomatch h), Nat.le_refl _⟩
  | o :: l, h => by
    have ih := esc_ok l fun x hx => h x (.tail _ hx)
    have h1 : (∀ x ∈ escL [o], x < 128) ∧ (escL [o]).length ≤ 5 := by
      rcases h o (.head _) with rfl | rfl | rfl | rfl | rfl | rfl | rfl <;> decide
    rw [escL_cons]
    refine ⟨fun x hx => (List.mem_append.mp hx).elim (h1.1 x) (ih.1 x), ?_⟩
    simp only [List.length_append, List.length_cons]
    omega
theorem esc_ascii {x : Str} (h : ∀ o ∈ cp x, o < 128) : x.cps.all (· < 128) = true := by
  rw [← Array.all_toList, List.all_eq_true]
  exact fun o ho => decide_eq_true (h o ho)
inductive P9 (g0 : Heap) (L : Addr) (ns : List Int) (s0 s' : Shared) : Prop
  | mk (m : Str → Option Value) (a : Nat) (b : Nat) (rl : Addr) (vs : Array Value) (n : Nat) (z : Str) (tz : Tok) (ts : Tok) (y : Str) (ty : Tok) (tl : Addr) (tv : Array Value) (tn : Nat) (ll : Addr) (lv : Array Value) (ln : Nat)
    (h1 : m "rooms" = some (.ref rl)) (h2 : m "written" = some (.str z tz)) (h3 : m "spare" = some (.int (a + b + 1 : Nat) ts)) (h4 : m "plain" = some (.str y ty)) (h5 : m "told" = some (.ref tl)) (h6 : m "layers" = some (.ref ll)) (h7 : cp z = escL ((nums ns).map signOf)) (h8 : cp y = plainL ns (a + b + 1)) (h9 : Fr g0 L s'.heap m) (h10 : News g0 L s'.heap [(ll, listOf lv ln), (tl, listOf tv tn), (rl, listOf vs n), (91, tabObj #[])]) (h11 : IntsAre vs.toList (([a, b] : List Nat).map fun (o : Nat) => (o : Int))) (h12 : IntsAre tv.toList ((runsOf 0 (plainL ns (a + b + 1))).map fun (o : Nat) => (o : Int))) (h13 : IntsAre lv.toList ((layersL (runsOf 0 (plainL ns (a + b + 1)))).map fun (o : Nat) => (o : Int))) (h14 : 1 ≤ a) (h15 : a ≤ 4) (h16 : 1 ≤ b) (h17 : b ≤ 4) (h18 : @Ne Nat 91 rl) (h19 : @Ne Nat 91 tl) (h20 : @Ne Nat 91 ll) (h21 : s'.gens = s0.gens) (h22 : s'.os = s0.os) : P9 g0 L ns s0 s'
inductive P10 (g0 : Heap) (L : Addr) (ns : List Int) (s0 s' : Shared) : Prop
  | mk (m : Str → Option Value) (a : Nat) (b : Nat) (rl : Addr) (vs : Array Value) (n : Nat) (tf : Tok) (y : Str) (ty : Tok) (tl : Addr) (tv : Array Value) (tn : Nat) (ll : Addr) (lv : Array Value) (ln : Nat)
    (h1 : m "rooms" = some (.ref rl)) (h2 : m "first" = some (.bytes (oc (plainL ns (a + b + 1))) tf)) (h3 : m "plain" = some (.str y ty)) (h4 : m "told" = some (.ref tl)) (h5 : m "layers" = some (.ref ll)) (h6 : cp y = plainL ns (a + b + 1)) (h7 : Fr g0 L s'.heap m) (h8 : News g0 L s'.heap [(ll, listOf lv ln), (tl, listOf tv tn), (rl, listOf vs n), (91, tabObj #[])]) (h9 : IntsAre vs.toList (([a, b] : List Nat).map fun (o : Nat) => (o : Int))) (h10 : IntsAre tv.toList ((runsOf 0 (plainL ns (a + b + 1))).map fun (o : Nat) => (o : Int))) (h11 : IntsAre lv.toList ((layersL (runsOf 0 (plainL ns (a + b + 1)))).map fun (o : Nat) => (o : Int))) (h12 : 1 ≤ a) (h13 : a ≤ 4) (h14 : 1 ≤ b) (h15 : b ≤ 4) (h16 : @Ne Nat 91 rl) (h17 : @Ne Nat 91 tl) (h18 : @Ne Nat 91 ll) (h19 : s'.gens = s0.gens) (h20 : s'.os = s0.os) : P10 g0 L ns s0 s'
theorem bytes_plain (ns : List Int) (k : Nat) : ((escL ((nums ns).map signOf)).map fun o => ((blankL o : Nat) : Int)) ++ (List.replicate ((k : Nat) : Int).toNat [(32 : Int)]).flatten = (plainL ns k).map fun (o : Nat) => (o : Int) := by
  have e := esc_plain ((nums ns).map signOf) (signs_ok _)
  unfold plainL
  rw [← e, List.map_append, List.map_map, List.map_replicate, Int.toNat_natCast, List.flatten_replicate_singleton]
  rfl
theorem ints_two {vs : Array Value} {a b : Int} (h : IntsAre vs.toList [a, b]) : ∃ t u, vs = #[.int a t, .int b u] := by
  obtain ⟨l⟩ := vs
  replace h : IntsAre l [a, b] := h
  cases h with
  | cons _ t h => cases h with
    | cons _ u h => cases h with
      | nil => exact ⟨t, u, rfl⟩
inductive P11 (g0 : Heap) (L : Addr) (ns : List Int) (s0 s' : Shared) : Prop
  | mk (m : Str → Option Value) (a : Nat) (b : Nat) (rl : Addr) (vs : Array Value) (n : Nat) (tf : Tok) (ll : Addr) (lv : Array Value) (ln : Nat)
    (h1 : m "rooms" = some (.ref rl)) (h2 : m "first" = some (.bytes (oc (plainL ns (a + b + 1))) tf)) (h3 : m "layers" = some (.ref ll)) (h4 : Fr g0 L s'.heap m) (h5 : News g0 L s'.heap [(ll, listOf lv ln), (rl, listOf vs n), (91, tabObj #[])]) (h6 : IntsAre vs.toList (([a, b] : List Nat).map fun (o : Nat) => (o : Int))) (h7 : IntsAre lv.toList ((layersL (runsOf 0 (plainL ns (a + b + 1)))).map fun (o : Nat) => (o : Int))) (h8 : 1 ≤ a) (h9 : a ≤ 4) (h10 : 1 ≤ b) (h11 : b ≤ 4) (h12 : @Ne Nat 91 rl) (h13 : @Ne Nat 91 ll) (h14 : s'.gens = s0.gens) (h15 : s'.os = s0.os) : P11 g0 L ns s0 s'
inductive P12 (g0 : Heap) (L : Addr) (ns : List Int) (s0 s' : Shared) : Prop
  | mk (m : Str → Option Value) (a : Nat) (b : Nat) (rl : Addr) (vs : Array Value) (n : Nat) (tf : Tok) (ll : Addr) (lv : Array Value) (ln : Nat) (el : Addr) (en : Nat)
    (h1 : m "rooms" = some (.ref rl)) (h2 : m "first" = some (.bytes (oc (plainL ns (a + b + 1))) tf)) (h3 : m "layers" = some (.ref ll)) (h4 : m "ends" = some (.ref el)) (h5 : Fr g0 L s'.heap m) (h6 : News g0 L s'.heap [(el, listOf #[] en), (ll, listOf lv ln), (rl, listOf vs n), (91, tabObj #[])]) (h7 : IntsAre vs.toList (([a, b] : List Nat).map fun (o : Nat) => (o : Int))) (h8 : IntsAre lv.toList ((layersL (runsOf 0 (plainL ns (a + b + 1)))).map fun (o : Nat) => (o : Int))) (h9 : 1 ≤ a) (h10 : a ≤ 4) (h11 : 1 ≤ b) (h12 : b ≤ 4) (h13 : @Ne Nat 91 rl) (h14 : @Ne Nat 91 ll) (h15 : @Ne Nat 91 el) (h16 : @Ne Nat ll el) (h17 : @Ne Nat rl el) (h18 : s'.gens = s0.gens) (h19 : s'.os = s0.os) : P12 g0 L ns s0 s'
inductive BytesAre : List Value → List (List Nat) → Prop
  | nil : BytesAre [] []
  | cons {l : List Nat} {t : Tok} {vs : List Value} {ls : List (List Nat)} : BytesAre vs ls → BytesAre (.bytes (oc l) t :: vs) (l :: ls)
theorem bytes_snoc {l : List Nat} {t : Tok} : ∀ {vs : List Value} {ls : List (List Nat)}, BytesAre vs ls → BytesAre (vs ++ [.bytes (oc l) t]) (ls ++ [l])
  | _, _, .nil => .cons .nil
  | _, _, .cons h => .cons (bytes_snoc h)
theorem bare_nil : AllBare #[] := fun x hx => by simp at hx
/-- the tape behind two sweeps -/
def endT (T : List Nat) (a b : Nat) : List Nat := (sweepS b (sweepS a T).2.1).2.1
def tpF (T : List Nat) (a b : Nat) : Nat → List Nat
  | 0 => T
  | 1 => (sweepS a T).2.1
  | _ => endT T a b
def OR (T : List Nat) (a b : Nat) (rest : List (Addr × Obj)) (el ll rl : Addr) (tf : Tok) (os0 : OsState) (i : Nat) (m : Str → Option Value) (nx : List (Addr × Obj)) (s : Shared) : Prop :=
  ∃ evs en ps, nx = (el, listOf evs en) :: (91, tabObj ps) :: rest ∧ BytesAre evs.toList ([endT T a b, endT T b a].take i) ∧ m "first" = some (.bytes (oc T) tf) ∧ m "layers" = some (.ref ll) ∧ m "ends" = some (.ref el) ∧ m "rooms" = some (.ref rl) ∧ TriplesOk ps.toList ∧ AllBare s.gens ∧ s.os = os0
def IR (T : List Nat) (a b : Nat) (rest : List (Addr × Obj)) (el ll rl : Addr) (tf : Tok) (os0 : OsState) (evs : Array Value) (en : Nat) (j : Nat) (m : Str → Option Value) (nx : List (Addr × Obj)) (s : Shared) : Prop :=
  ∃ ps tt, nx = (el, listOf evs en) :: (91, tabObj ps) :: rest ∧ m "tape" = some (.bytes (oc (tpF T a b j)) tt) ∧ m "first" = some (.bytes (oc T) tf) ∧ m "layers" = some (.ref ll) ∧ m "ends" = some (.ref el) ∧ m "rooms" = some (.ref rl) ∧ TriplesOk ps.toList ∧ AllBare s.gens ∧ s.os = os0
theorem order_turn (T : List Nat) {rl r2 : Addr} {a b n1 i : Nat} {ta tb : Tok} {rest : List (Addr × Obj)} {v : Value} (hv : (#[.ref rl, .ref r2] : Array Value)[i]? = some v) (m1 : (rl, listOf #[.int (a : Int) ta, .int (b : Int) tb] n1) ∈ rest) (m2 : ∃ tc td nn, (r2, listOf #[.int (b : Int) tc, .int (a : Int) td] nn) ∈ rest) (ha1 : 1 ≤ a) (ha4 : a ≤ 4) (hb1 : 1 ≤ b) (hb4 : b ≤ 4) :
    ∃ xl p q tp tq nn, v = .ref xl ∧ (xl, listOf #[.int ((p : Nat) : Int) tp, .int ((q : Nat) : Int) tq] nn) ∈ rest ∧ p + q = a + b ∧ 1 ≤ p ∧ p ≤ 4 ∧ 1 ≤ q ∧ q ≤ 4 ∧ [endT T a b, endT T b a].take (i + 1) = [endT T a b, endT T b a].take i ++ [endT T p q] := by
  match i, hv with
  | 0, hv => exact ⟨rl, a, b, _, _, _, (Option.some.inj hv).symm, m1, rfl, ha1, ha4, hb1, hb4, rfl⟩
  | 1, hv =>
    obtain ⟨tc, td, nn, m2⟩ := m2
    exact ⟨r2, b, a, _, _, _, (Option.some.inj hv).symm, m2, Nat.add_comm _ _, hb1, hb4, ha1, ha4, rfl⟩
theorem bytes_are_len : ∀ {vs : List Value} {ls : List (List Nat)}, BytesAre vs ls → vs.length = ls.length
  | _, _, .nil => rfl
  | _, _, .cons h => congrArg (· + 1) (bytes_are_len h)
inductive Two (a b n : Nat) (t : List Nat) : Prop
  | mk (h1 : (sweepS a t).1 = []) (h2 : (sweepS b (sweepS a t).2.1).1 = []) (h3 : (sweepS a t).2.2 = ((layersL (runsOf 0 t)).take a).sum) (h4 : (sweepS b (sweepS a t).2.1).2.2 = ((layersL (runsOf 0 t)).take b).sum)
    (h5 : layersL (runsOf 0 (sweepS b (sweepS a t).2.1).2.1) = layersL (runsOf 0 t)) (h6 : TP (n - a) (sweepS a t).2.1) (h7 : TP (n - a - b) (sweepS b (sweepS a t).2.1).2.1) (h8 : (sweepS a t).2.1.length = t.length) (h9 : (sweepS b (sweepS a t).2.1).2.1.length = t.length)
    (h10 : runsOf 0 (sweepS b (sweepS a t).2.1).2.1 = runsOf 0 (sweepS a (sweepS b t).2.1).2.1) (h11 : (sweepS b (sweepS b (sweepS a t).2.1).2.1.reverse).1 = []) (h12 : (sweepS b (sweepS b (sweepS a t).2.1).2.1.reverse).2.1 = (sweepS a t).2.1.reverse)
    (h13 : (sweepS a (sweepS a t).2.1.reverse).1 = []) (h14 : (sweepS a (sweepS a t).2.1.reverse).2.1 = t.reverse) : Two a b n t
theorem two_all {a b n : Nat} {t : List Nat} (h : TP n t) (hn : a + b < n) : Two a b n t :=
  let ⟨h1, h2, h3, h4, h5, h6, h7, h8, h9, h10, h11, h12, h13, h14⟩ := two_sweeps h hn
  ⟨h1, h2, h3, h4, h5, h6, h7, h8, h9, h10, h11, h12, h13, h14⟩
theorem room_turn {T : List Nat} {p q j : Nat} {tp tq : Tok} {v : Value} (hv : (#[.int (p : Int) tp, .int (q : Int) tq] : Array Value)[j]? = some v) (h : TP (p + q + 1) T) (hl : T.length ≤ 100) (hp : p ≤ 4) (hq : q ≤ 4) :
    ∃ k t, v = .int ((k : Nat) : Int) t ∧ k ≤ 4 ∧ (sweepS k (tpF T p q j)).1 = [] ∧ (sweepS k (tpF T p q j)).2.1 = tpF T p q (j + 1) ∧ (sweepS k (tpF T p q j)).2.2 = ((layersL (runsOf 0 T)).take k).sum ∧ (tpF T p q j).length ≤ 200 ∧ (∀ o ∈ tpF T p q j, o < 256) ∧ True := by
  obtain ⟨e1, e2, s1, s2, _, p1, p2, l1, l2, _, _, _, _, _⟩ := two_all h (Nat.lt_succ_self (p + q))
  match j, hv with
  | 0, hv => exact ⟨p, tp, (Option.some.inj hv).symm, hp, e1, rfl, s1, (by show T.length ≤ 200; omega), fun o ho => (h.1 o ho).lt, trivial⟩
  | 1, hv => exact ⟨q, tq, (Option.some.inj hv).symm, hq, e2, rfl, s2, (by show (sweepS p T).2.1.length ≤ 200; omega), fun o ho => (p1.1 o ho).lt, trivial⟩
theorem ends_two {vs : Array Value} {a b : List Nat} (h : BytesAre vs.toList [a, b]) : ∃ t u, vs = #[.bytes (oc a) t, .bytes (oc b) u] := by
  obtain ⟨l⟩ := vs
  replace h : BytesAre l [a, b] := h
  cases h with
  | cons h => cases h with
    | cons h => cases h with
      | nil => exact ⟨_, _, rfl⟩
inductive P13 (g0 : Heap) (L : Addr) (ns : List Int) (s0 s' : Shared) : Prop
  | mk (m : Str → Option Value) (a : Nat) (b : Nat) (rl : Addr) (ta : Tok) (tb : Tok) (n : Nat) (tf : Tok) (ll : Addr) (lv : Array Value) (ln : Nat) (el : Addr) (en : Nat) (t1 : Tok) (t2 : Tok) (ps : Array Value)
    (h1 : m "rooms" = some (.ref rl)) (h2 : m "first" = some (.bytes (oc (plainL ns (a + b + 1))) tf)) (h3 : m "layers" = some (.ref ll)) (h4 : m "ends" = some (.ref el)) (h5 : Fr g0 L s'.heap m) (h6 : News g0 L s'.heap [(el, listOf #[.bytes (oc (endT (plainL ns (a + b + 1)) a b)) t1, .bytes (oc (endT (plainL ns (a + b + 1)) b a)) t2] en), (91, tabObj ps), (ll, listOf lv ln), (rl, listOf #[.int ((a : Nat) : Int) ta, .int ((b : Nat) : Int) tb] n)]) (h7 : IntsAre lv.toList ((layersL (runsOf 0 (plainL ns (a + b + 1)))).map fun (o : Nat) => (o : Int))) (h8 : 1 ≤ a) (h9 : a ≤ 4) (h10 : 1 ≤ b) (h11 : b ≤ 4) (h12 : @Ne Nat 91 rl) (h13 : @Ne Nat 91 ll) (h14 : @Ne Nat 91 el) (h15 : TriplesOk ps.toList) (h16 : AllBare s'.gens) (h17 : s'.os = s0.os) : P13 g0 L ns s0 s'
inductive P14 (g0 : Heap) (L : Addr) (ns : List Int) (s0 s' : Shared) : Prop
  | mk (m : Str → Option Value) (a : Nat) (b : Nat) (rl : Addr) (ta : Tok) (tb : Tok) (n : Nat) (tf : Tok) (ll : Addr) (lv : Array Value) (ln : Nat) (el : Addr) (en : Nat) (t1 : Tok) (t2 : Tok) (ps : Array Value) (pl : Addr) (pv : Array Value) (pn : Nat)
    (h1 : m "rooms" = some (.ref rl)) (h2 : m "first" = some (.bytes (oc (plainL ns (a + b + 1))) tf)) (h3 : m "layers" = some (.ref ll)) (h4 : m "ends" = some (.ref el)) (h5 : m "places" = some (.ref pl)) (h6 : Fr g0 L s'.heap m) (h7 : News g0 L s'.heap [(pl, listOf pv pn), (el, listOf #[.bytes (oc (endT (plainL ns (a + b + 1)) a b)) t1, .bytes (oc (endT (plainL ns (a + b + 1)) b a)) t2] en), (91, tabObj ps), (ll, listOf lv ln), (rl, listOf #[.int ((a : Nat) : Int) ta, .int ((b : Nat) : Int) tb] n)]) (h8 : IntsAre lv.toList ((layersL (runsOf 0 (plainL ns (a + b + 1)))).map fun (o : Nat) => (o : Int))) (h9 : IntsAre pv.toList ((runsOf 0 (endT (plainL ns (a + b + 1)) a b)).map fun (o : Nat) => (o : Int))) (h10 : 1 ≤ a) (h11 : a ≤ 4) (h12 : 1 ≤ b) (h13 : b ≤ 4) (h14 : @Ne Nat 91 rl) (h15 : @Ne Nat 91 ll) (h16 : @Ne Nat 91 el) (h17 : @Ne Nat 91 pl) (h18 : TriplesOk ps.toList) (h19 : AllBare s'.gens) (h20 : s'.os = s0.os) : P14 g0 L ns s0 s'
inductive P15 (g0 : Heap) (L : Addr) (ns : List Int) (s0 s' : Shared) : Prop
  | mk (m : Str → Option Value) (a : Nat) (b : Nat) (rl : Addr) (ta : Tok) (tb : Tok) (n : Nat) (tf : Tok) (el : Addr) (en : Nat) (t1 : Tok) (t2 : Tok) (ps : Array Value)
    (h1 : m "rooms" = some (.ref rl)) (h2 : m "first" = some (.bytes (oc (plainL ns (a + b + 1))) tf)) (h3 : m "ends" = some (.ref el)) (h4 : Fr g0 L s'.heap m) (h5 : News g0 L s'.heap [(el, listOf #[.bytes (oc (endT (plainL ns (a + b + 1)) a b)) t1, .bytes (oc (endT (plainL ns (a + b + 1)) b a)) t2] en), (91, tabObj ps), (rl, listOf #[.int ((a : Nat) : Int) ta, .int ((b : Nat) : Int) tb] n)]) (h6 : 1 ≤ a) (h7 : a ≤ 4) (h8 : 1 ≤ b) (h9 : b ≤ 4) (h10 : @Ne Nat 91 rl) (h11 : @Ne Nat 91 el) (h12 : TriplesOk ps.toList) (h13 : AllBare s'.gens) (h14 : s'.os = s0.os) : P15 g0 L ns s0 s'
inductive P16 (g0 : Heap) (L : Addr) (ns : List Int) (s0 s' : Shared) : Prop
  | mk (m : Str → Option Value) (a : Nat) (b : Nat) (rl : Addr) (ta : Tok) (tb : Tok) (n : Nat) (tf : Tok) (tt : Tok) (ps : Array Value)
    (h1 : m "rooms" = some (.ref rl)) (h2 : m "first" = some (.bytes (oc (plainL ns (a + b + 1))) tf)) (h3 : m "tape" = some (.bytes (oc (endT (plainL ns (a + b + 1)) a b).reverse) tt)) (h4 : Fr g0 L s'.heap m) (h5 : News g0 L s'.heap [(91, tabObj ps), (rl, listOf #[.int ((a : Nat) : Int) ta, .int ((b : Nat) : Int) tb] n)]) (h6 : 1 ≤ a) (h7 : a ≤ 4) (h8 : 1 ≤ b) (h9 : b ≤ 4) (h10 : @Ne Nat 91 rl) (h11 : TriplesOk ps.toList) (h12 : AllBare s'.gens) (h13 : s'.os = s0.os) : P16 g0 L ns s0 s'
theorem wpG_Compare1 {M : Model} {A : Around} {E : Value → Shared → Prop} {s : Shared} {env : Env} {l r : PySem.Expr} {op : CmpOp} {pos : Pos} {Q : Value → Shared → Prop}
    (h : wpG M A (eval l env) (fun a s₁ => wpAny M A (eval r env) (fun b s₂ => wpAny M A (compareOp op a b) Q E s₂) E s₁) E s)
    (hm : behindInMarks op r = false := by with_unfolding_all rfl) :
    wpG M A (eval (.Compare l [op] [r] pos) env) Q E s := fun Γ p hΓ q1 q2 => by
  simp only [eval_Compare1, markedBehindIn_of_false hm, Sem.wp_bind', Sem.wp_holding, Sem.wp_cmd_standAt, Sem.wp_operate]
  exact Sem.wp_mono M Γ _ (fun a p₁ s₁ h₁ => Sem.wp_mono M Γ _ (fun b _ s₂ h₂ => h₂ Γ _ hΓ) (fun _ _ _ h' => h') _ _ (h₁ Γ p₁ hΓ))
    (fun _ _ _ h' => h') _ _ (h Γ p hΓ q1 q2)
theorem step_absG {M : Model} {A : Around} {env : Env} {st : Stmt} {rest : List Stmt} {Q : Flow → Shared → Prop} {E : Value → Shared → Prop} {s : Shared} (P : Shared → Prop)
    (h1 : ∀ (Q : Flow → Shared → Prop) (E : Value → Shared → Prop), (∀ s', P s' → Q .next s') → wpG M A (exec st env) Q E s) (h2 : ∀ s', P s' → wpG M A (execs rest env) Q E s') : wpG M A (execs (st :: rest) env) Q E s :=
  wpG_execs_cons (h1 _ _ h2)
def bkF (T : List Nat) (a b : Nat) : Nat → List Nat
  | 0 => (endT T a b).reverse
  | 1 => (sweepS a T).2.1.reverse
  | _ => T.reverse
theorem back_turn {T : List Nat} {p q j : Nat} {tp tq : Tok} {v : Value} (hv : (#[.int (q : Int) tq, .int (p : Int) tp] : Array Value)[j]? = some v) (h : TP (p + q + 1) T) (hl : T.length ≤ 100) (hp : p ≤ 4) (hq : q ≤ 4) :
    ∃ k t, v = .int ((k : Nat) : Int) t ∧ k ≤ 4 ∧ (sweepS k (bkF T p q j)).1 = [] ∧ (sweepS k (bkF T p q j)).2.1 = bkF T p q (j + 1) ∧ (bkF T p q j).length ≤ 200 ∧ (∀ o ∈ bkF T p q j, o < 256) := by
  obtain ⟨_, _, _, _, _, p1, p2, l1, l2, _, b1, b2, b3, b4⟩ := two_all h (Nat.lt_succ_self (p + q))
  match j, hv with
  | 0, hv => exact ⟨q, tq, (Option.some.inj hv).symm, hq, b1, b2, (by show (sweepS q (sweepS p T).2.1).2.1.reverse.length ≤ 200; rw [List.length_reverse]; omega), fun o ho => (p2.1 o (List.mem_reverse.mp ho)).lt⟩
  | 1, hv => exact ⟨p, tp, (Option.some.inj hv).symm, hp, b3, b4, (by show (sweepS p T).2.1.reverse.length ≤ 200; rw [List.length_reverse]; omega), fun o ho => (p1.1 o (List.mem_reverse.mp ho)).lt⟩
def BR (T : List Nat) (a b : Nat) (rest : List (Addr × Obj)) (tf : Tok) (os0 : OsState) (j : Nat) (m : Str → Option Value) (nx : List (Addr × Obj)) (s : Shared) : Prop :=
  ∃ ps tt, nx = (91, tabObj ps) :: rest ∧ m "tape" = some (.bytes (oc (bkF T a b j)) tt) ∧ m "first" = some (.bytes (oc T) tf) ∧ TriplesOk ps.toList ∧ AllBare s.gens ∧ s.os = os0
inductive P17 (g0 : Heap) (L : Addr) (ns : List Int) (s0 s' : Shared) : Prop
  | mk (m : Str → Option Value) (a : Nat) (b : Nat) (tf : Tok) (tt : Tok) (ps : Array Value)
    (h1 : m "first" = some (.bytes (oc (plainL ns (a + b + 1))) tf)) (h2 : m "tape" = some (.bytes (oc (plainL ns (a + b + 1)).reverse) tt)) (h3 : Fr g0 L s'.heap m) (h4 : News g0 L s'.heap [(91, tabObj ps)]) (h5 : TriplesOk ps.toList) (h6 : AllBare s'.gens) (h7 : s'.os = s0.os) (h8 : a + b ≤ 8) : P17 g0 L ns s0 s'
inductive P18 (g0 : Heap) (L : Addr) (_ns : List Int) (s0 s' : Shared) : Prop
  | mk (m : Str → Option Value) (ps : Array Value)
    (h1 : Fr g0 L s'.heap m) (h2 : News g0 L s'.heap [(91, tabObj ps)]) (h3 : AllBare s'.gens) (h4 : s'.os = s0.os) : P18 g0 L _ns s0 s'
theorem ret_abs {M : Model} {A : Around} {env : Env} {st : Stmt} {Q : Flow → Shared → Prop} {E : Value → Shared → Prop} {s : Shared} (P : Shared → Prop)
    (h1 : ∀ (Q : Flow → Shared → Prop) (E : Value → Shared → Prop), (∀ s', P s' → Q (.ret (.bool true)) s') → wpG M A (exec st env) Q E s) (h2 : ∀ s', P s' → Q (.ret (.bool true)) s') : wpG M A (exec st env) Q E s :=
  h1 _ _ h2
theorem law_spec {w : World} {p : Program} {loose : List Str} {mean : ExcName → Option Value} {mg mb : Str → Option Value} {s₁ : Shared} {l : Addr} {vs : List Value} {ns : List Int} {R : Result → Shared → Prop}
    (X : (Look.hd.heap_39 w.params).In s₁.heap) (h91 : s₁.heap.get? 91 = some (tabObj #[])) (T : Top p loose mean mg mb s₁.heap) (hl : s₁.heap.IsList l vs.toArray) (hi : IntsAre vs ns) (hlen : ns.length ≤ 63) (hg : s₁.gens = #[])
    (hret : ∀ s' ps', s'.os = s₁.os → AllBare s'.gens → s'.heap.get? 91 = some (tabObj ps') → (∀ b o, b ≠ 91 → s₁.heap.get? b = some o → s'.heap.get? b = some o) → R (.ok (.ret (.bool true))) s') :
    codeG (model PySem.Challenge.rw_xp0002_01.row.prog w) callerA (.call (.ref 157) ⟨[.ref l], []⟩) R s₁ := by
  revert X; k_fill; intro X
  have hT : TabsAt [(95, 91)] s₁.heap := fun q hq => by
    rw [List.mem_singleton.mp hq]
    exact ⟨code_hd X, h91⟩
  refine call_cellsG (by decide) (X 157 _ rfl) rfl T.nolimit (codeRec_of X (by kernel_rfl)) (BindsTo.of_eq rfl) (fun _ => kinds_of (by kinds_ok)) (by decide) fun h₁ tk₁ cells F N0 X0 => ?_
  obtain ⟨oce, he, hoc⟩ := CellsAre.one X0
  subst he
  have l0 := ghost_lt hT F
  have K' := ghost_below hT
  have X' := ghost_K hT X (by kernel_rfl)
  have T' := ghost_top hT T
  have N' := ghost_news hT F N0
  have F' := ghost_fr hT F
  have hl' := ghost_list hT hl
  clear F N0 X0 T X hl
  dsimp only [tabNews, List.map_cons, List.map_nil, List.singleton_append, List.cons_append, List.nil_append] at N'
  replace hoc : oce.data = .cell none := hoc
  revert F'
  generalize hm0 : bindL _ _ _ = m0
  have hm1 : m0 "script" = some (.ref l) := by subst hm0; rfl
  clear hm0
  intro F'
  have F1 := fr_put F' (y := PySem.Str.ofString "script") hm1
  clear F'
  revert F1 hl' N' T' X' K'
  have hG : ∀ b o, b ≠ 91 → s₁.heap.get? b = some o → (ghostOf s₁.heap [(95, 91)]).get? b = some o := fun b o hb e => ghost_ne e (by simpa using hb)
  revert hG l0
  generalize ghostOf s₁.heap [(95, 91)] = g0
  generalize s₁.heap.objs.size = L
  intro l0 hG K' X' T' N' hl' F1
  replace N' : News g0 L h₁ [(L + 1, oce), (91, tabObj #[])] := N'
  replace l0 : ∀ p ∈ [((91 : Addr), tabObj #[])], @LT.lt Nat _ p.1 L := l0
  have l91 : @LT.lt Nat _ 91 L := l0 _ (.head _)
  obtain ⟨s, hs⟩ : ∃ s : Shared, s = { heap := h₁, gens := s₁.gens, drawn := s₁.drawn, toks := tk₁, os := s₁.os } := ⟨_, rfl⟩
  rw [← hs]
  have e1 : h₁ = s.heap := by rw [hs]
  have hg0 : s.gens = s₁.gens := by rw [hs]
  have ho0 : s.os = s₁.os := by rw [hs]
  rw [e1] at F1 N'
  clear hs e1
  with_reducible refine step_abs (P1 g0 L (L + 1) oce ns s₁) ?_ ?_
  · intro Q E hq
    k_steps
    rename Fr _ _ _ _ => F9
    rename News _ _ _ _ => N9
    exact hq _ ⟨_, _, _, _, rfl, F9, by walk_at "my_news", by assumption, by omega, by omega, hg0, ho0⟩
  clear F1 N'
  rintro s ⟨m, a, vs1, n1, hm1, F1, N1, hi1, ha1, ha2, hg1, ho1⟩
  have F2 := fr_put F1 (y := PySem.Str.ofString "numbers") hm1
  clear F1
  have hlen1 := nums_len ns
  with_reducible refine step_abs (P2 g0 L (L + 1) oce ns s₁) ?_ ?_
  · intro Q E hq
    have hvl : vs1.size = 6 := by
      have := hi1.length
      rw [Array.length_toList] at this
      omega
    k_steps
    refine comp_walk (fun i ys nx => nx = [(a, listOf vs1 n1), (L + 1, oce), (91, tabObj #[])] ∧ StrsAre ys (((nums ns).take i).map signS)) ?turn ?fin _ _ _ _ (Nat.add_zero _) ⟨rfl, .nil⟩
    case turn =>
      rintro i v ys nx I oI C oC D m₂ h₂ tk₂ E' hi hP ⟨rfl, hys⟩ hC hx F4 N4 off ne
      obtain ⟨k, t, rfl, hk⟩ := IntsAre.at hi1 i v (by simpa using hP)
      have htake : ((nums ns).take (i + 1)).map signS = ((nums ns).take i).map signS ++ [signS k] := by rw [List.take_add_one, hk]; simp
      k_steps
      rw [sign_item]
      exact LCg.CompEnd.intro F4 N4 _ (fun p hp => hp) off (Or.inr ⟨_, .head _, rfl, _, rfl⟩) ⟨rfl, by rw [htake]; exact strs_snoc hys⟩
    case fin =>
      rintro ys nx ⟨rfl, hys⟩
      rw [List.take_of_length_le (by omega)] at hys
      have hjl : ((nums ns).map signS).length ≤ 200 := by rw [List.length_map]; omega
      have hjb : ∀ x ∈ (nums ns).map signS, x.length ≤ 8 := fun x hx => by
        obtain ⟨k, _, rfl⟩ := List.mem_map.mp hx
        exact (by decide : 1 ≤ 8)
      unfold LCg.FinE
      intro D h5 tk5 F5 N5 o1
      have hDa : @Ne Nat D a := Ne.symm o1.1
      k_steps
      rename Fr _ _ _ _ => F9
      rename News _ _ _ _ => N9
      rename cp _ = _ => e9
      exact hq _ ⟨_, _, _, _, _, _, rfl, rfl, e9.trans (sign_flat _), F9, by walk_at "my_news", hi1, ha1, ha2, hg1, ho1⟩
  clear F2 N1 hm1 hi1 ha1 ha2 hg1 ho1
  rintro s ⟨m, a, vs1, n1, x, tx, hm1, hm2, hx0, F1, N1, hi1, ha1, ha2, hg1, ho1⟩
  have F2 := fr_put (fr_put F1 (y := PySem.Str.ofString "numbers") hm1) (y := PySem.Str.ofString "text") ((if_neg (by decide)).trans hm2)
  clear F1
  have hvl : vs1.size = 6 := by
    have := hi1.length
    rw [Array.length_toList] at this
    omega
  with_reducible refine step_abs (P3 g0 L (L + 1) oce ns s₁) ?_ ?_
  · intro Q E hq
    have hp2 : (nums ns).take 2 = [(nums ns).getD 0 0, (nums ns).getD 1 0] := by
      revert hlen1
      generalize nums ns = z
      intro hlen1
      match z, hlen1 with
      | a :: b :: _, _ => rfl
    k_steps
    rename IntsAre _ (List.take _ _) => hi2
    rename News _ _ _ _ => N3
    rename_i D2 ws h3 F3 hC3 hL3 ll g3
    have hw2 : ws.toArray.size = 2 := by
      have := hi2.length
      rw [List.size_toArray, this, List.length_take]
      omega
    refine comp_walk (fun i ys nx => nx = [(D2, listOf ws.toArray 0), (a, listOf vs1 n1), (L + 1, oce), (91, tabObj #[])] ∧ IntsAre ys ((((nums ns).take 2).take i).map roomI)) ?turn ?fin _ _ _ _ (Nat.add_zero _) ⟨rfl, .nil⟩
    case turn =>
      rintro i v ys nx I oI C oC D m₂ h₂ tk₂ E' hi hP ⟨rfl, hys⟩ hC hx F4 N4 off ne
      obtain ⟨k, t, rfl, hk⟩ := IntsAre.at hi2 i v (by simpa using hP)
      have htake : (((nums ns).take 2).take (i + 1)).map roomI = (((nums ns).take 2).take i).map roomI ++ [roomI k] := by rw [List.take_add_one, hk]; simp
      k_steps
      exact LCg.CompEnd.intro F4 N4 _ (fun p hp => hp) off (Or.inr ⟨_, .head _, rfl, _, rfl⟩) ⟨rfl, by rw [htake]; exact ints_add hys⟩
    case fin =>
      rintro ys nx ⟨rfl, hys⟩
      rw [List.take_of_length_le (by rw [List.length_take]; omega), hp2] at hys
      unfold LCg.FinA
      intro D h5 tk5 F5 N5 o1
      have q0 := room_nat ((nums ns).getD 0 0)
      have q1 := room_nat ((nums ns).getD 1 0)
      exact hq _ ⟨_, (roomI ((nums ns).getD 0 0)).toNat, (roomI ((nums ns).getD 1 0)).toNat, _, _, _, _, _, rfl, rfl, hx0, F5, by walk_at "my_news", by simpa only [List.map_cons, List.map_nil, q0.1, q1.1] using hys, q0.2.1, q0.2.2, q1.2.1, q1.2.2, o1.2.2.1, o1.2.2.2.1, hg1, ho1⟩
  clear F2 N1 hlen1 hm1 hm2 hx0 hi1 ha1 ha2 hg1 ho1
  rintro s ⟨m, ka, kb, rl, vs1, n1, x, tx, hm1, hm2, hx0, F1, N1, hi1, hka1, hka4, hkb1, hkb4, ha1, ha2, hg1, ho1⟩
  have F2 := fr_put (fr_put F1 (y := PySem.Str.ofString "text") hm2) (y := PySem.Str.ofString "rooms") ((if_neg (by decide)).trans hm1)
  clear F1
  have hvl : vs1.size = 2 := by
    have := hi1.length
    rw [Array.length_toList] at this
    exact this
  with_reducible refine step_abs (P4 g0 L (L + 1) oce ns s₁) ?_ ?_
  · intro Q E hq
    k_steps
    rename Fr _ _ _ _ => F9
    rename News _ _ _ _ => N9
    exact hq _ ⟨_, ka, kb, _, _, _, _, _, _, rfl, rfl, congrArg some (congrArg (fun z => Value.int z _) (by simp [List.sum_cons])), hx0, F9, by walk_at "my_news", hi1, hka1, hka4, hkb1, hkb4, ha1, ha2, hg1, ho1⟩
  clear F2 N1 hm1 hm2 hx0 hi1 hka1 hka4 hkb1 hkb4 ha1 ha2 hg1 ho1
  rintro s ⟨m, ka, kb, rl, vs1, n1, x, tx, ts, hm1, hm2, hm3, hx0, F1, N1, hi1, hka1, hka4, hkb1, hkb4, ha1, ha2, hg1, ho1⟩
  have F2 := fr_put (fr_put (fr_put F1 (y := PySem.Str.ofString "text") hm2) (y := PySem.Str.ofString "rooms") ((if_neg (by decide)).trans hm1)) (y := PySem.Str.ofString "spare") ((if_neg (by decide)).trans ((if_neg (by decide)).trans hm3))
  clear F1
  with_reducible refine step_abs (P5 w g0 L (L + 1) ns s₁) ?_ ?_
  · intro Q E hq
    k_steps
    rename Fr _ _ _ _ => F9
    rename News _ _ _ _ => N9
    rename Obj.IsDictOf _ _ _ => d9
    exact hq _ ⟨_, ka, kb, _, _, _, _, _, _, _, _, _, _, rfl, rfl, rfl, hx0, F9, by walk_at "my_news", hi1, hka1, hka4, hkb1, hkb4, ha1, ha2, d9, spelled_ok, by assumption, by omega, by omega, by omega, hg1, ho1⟩
  clear F2 N1 hoc hm1 hm2 hm3 hx0 hi1 hka1 hka4 hkb1 hkb4 ha1 ha2 hg1 ho1
  rintro s ⟨m, ka, kb, rl, vs1, n1, d, od, oc2, kvs, x, tx, ts, hm1, hm2, hm3, hx0, F1, N1, hi1, hka1, hka4, hkb1, hkb4, ha1, ha2, hdd, hkv, hoc, hd1, hd2, hd3, hg1, ho1⟩
  have F2 := fr_put (fr_put (fr_put F1 (y := PySem.Str.ofString "text") hm2) (y := PySem.Str.ofString "rooms") ((if_neg (by decide)).trans hm1)) (y := PySem.Str.ofString "spare") ((if_neg (by decide)).trans ((if_neg (by decide)).trans hm3))
  clear F1
  have hlen1 := nums_len ns
  with_reducible refine step_abs (P6 g0 L ns s₁) ?_ ?_
  · intro Q E hq
    have hsg : ∀ o ∈ cp x, Sign o := by rw [hx0]; exact signs_ok _
    have hxl : (cp x).length = 6 := by rw [hx0, List.length_map]; exact hlen1
    have hxs : x.cps.size = 6 := by rw [← Array.length_toList]; exact hxl
    k_steps
    refine SrcS.intro rfl (by k_asm) (by k_asm) (signs_ascii hsg) (by rw [hxs]; decide) fun g3 => ?_
    refine comp_walk (fun i ys nx => nx = [(d, od), (rl, listOf vs1 n1), (L + 1, oc2), (91, tabObj #[])] ∧ ∃ xs, StrsAre ys xs ∧ xs.length = i ∧ (∀ y ∈ xs, y.length ≤ 8) ∧ xs.flatMap cp = ((cp x).take i).flatMap spell) ?turn ?fin _ _ _ _ (Nat.add_zero _) ⟨rfl, [], .nil, rfl, (fun _ h => nomatch h), rfl⟩
    case turn =>
      rintro i v ys nx I oI C oC D m₂ h₂ tk₂ E' hi hP ⟨rfl, xs, hys, hxi, hxb, hxf⟩ hC hx F4 N4 off ne
      obtain ⟨o, u, ho, rfl⟩ := hP
      have ho' : (cp x)[i]? = some o := by simpa [cp] using ho
      obtain ⟨y, ty, hy1, hy2⟩ := hkv o (hsg o (List.mem_of_getElem? ho'))
      have hy3 : y.length ≤ 5 := by
        have := (spell_ok o (hsg o (List.mem_of_getElem? ho'))).2
        rw [← hy2] at this
        simpa [cp, Str.length] using this
      have htake : ((cp x).take (i + 1)).flatMap spell = ((cp x).take i).flatMap spell ++ spell o := by rw [List.take_add_one, ho']; simp
      k_steps
      refine LCg.CompEnd.intro F4 N4 _ (fun p hp => hp) off trivial ⟨rfl, xs ++ [y], strs_snoc hys, by rw [List.length_append, hxi]; rfl, fun z hz => ?_, ?_⟩
      · rcases List.mem_append.mp hz with hz | hz
        · exact hxb z hz
        · rw [List.mem_singleton.mp hz]; omega
      · rw [htake, List.flatMap_append, hxf, List.flatMap_cons, List.flatMap_nil, List.append_nil, hy2]
    case fin =>
      rintro ys nx ⟨rfl, xs, hys, hxi, hxb, hxf⟩
      rw [List.take_of_length_le (by omega)] at hxf
      have hjl : xs.length ≤ 200 := by omega
      have hpl := (plain_ok _ hsg).2
      rw [← hxf] at hpl
      unfold LCg.FinE
      intro D h5 tk5 F5 N5 o1
      k_steps
      rename cp _ = List.flatMap cp xs => e9
      rw [← e9] at hpl
      refine SB.add (fun t8 k8 => ?_) (by rw [len_cp, len_cp, blanks_cp, List.length_replicate, sizeLine_eq]; omega)
      k_steps
      rename Fr _ _ _ _ => F9
      rename News _ _ _ _ => N9
      exact hq _ ⟨_, ka, kb, _, _, _, _, _, _, _, _, rfl, rfl, rfl, rfl, hx0, by rw [cp_app, e9, hxf, hx0, blanks_cp]; rfl, F9, by walk_at "my_news", hi1, hka1, hka4, hkb1, hkb4, ha2, hg1, ho1⟩
  clear F2 N1 hlen1 hm1 hm2 hm3 hx0 hi1 hka1 hka4 hkb1 hkb4 ha1 ha2 hdd hkv hoc hd1 hd2 hd3 hg1 ho1
  rintro s ⟨m, ka, kb, rl, vs1, n1, x, tx, ts, y, ty, hm1, hm2, hm3, hm4, hx0, hy0, F1, N1, hi1, hka1, hka4, hkb1, hkb4, ha2, hg1, ho1⟩
  have F2 := fr_put (fr_put (fr_put (fr_put F1 (y := PySem.Str.ofString "text") hm2) (y := PySem.Str.ofString "rooms") ((if_neg (by decide)).trans hm1)) (y := PySem.Str.ofString "spare") ((if_neg (by decide)).trans ((if_neg (by decide)).trans hm3))) (y := PySem.Str.ofString "plain") ((if_neg (by decide)).trans ((if_neg (by decide)).trans ((if_neg (by decide)).trans hm4)))
  clear F1
  have hT := plain_T ns (ka + kb + 1)
  have hTl := plainL_len ns (ka + kb + 1)
  with_reducible refine step_abs (P7 g0 L ns s₁) ?_ ?_
  · intro Q E hq
    have hyl : y.length ≤ 60 := by rw [len_cp, hy0]; omega
    obtain ⟨hsp1, hsp2⟩ := split_runs (x := y) (by rw [hy0]; exact hT.1)
    k_steps
    rename StrsAre _ _ => hs3
    rename_i D3 ls _ _ hl3 _ _ _ _
    have hs4 : StrsAre (strValues ls) (Txt.split y ⟨#[32]⟩) := hl3 ▸ hs3
    have hsz : (strValues ls).toArray.size = (Txt.split y ⟨#[32]⟩).length := strs_len hs4
    refine comp_walk (fun i ys nx => nx = [(D3, listOf (strValues ls).toArray 0), (rl, listOf vs1 n1), (91, tabObj #[])] ∧ IntsAre ys (((Txt.split y ⟨#[32]⟩).take i).map fun p => (p.length : Int))) ?turn ?fin _ _ _ _ (Nat.add_zero _) ⟨rfl, .nil⟩
    case turn =>
      rintro i v ys nx I oI C oC D m₂ h₂ tk₂ E' hi hP ⟨rfl, hys⟩ hC hx F4 N4 off ne
      obtain ⟨z, t, hz, rfl⟩ := strs_at hs4 (i := i) (v := v) (by simpa using hP)
      have hzl : z.length ≤ 60 := Nat.le_trans (split_part (List.mem_of_getElem? hz)) hyl
      have htake : ((Txt.split y ⟨#[32]⟩).take (i + 1)).map (fun p => (p.length : Int)) = ((Txt.split y ⟨#[32]⟩).take i).map (fun p => (p.length : Int)) ++ [(z.length : Int)] := by rw [List.take_add_one, hz]; simp
      k_steps
      exact LCg.CompEnd.intro F4 N4 _ (fun p hp => hp) off (Or.inr ⟨_, .head _, rfl, _, rfl⟩) ⟨rfl, by rw [htake]; exact ints_add hys⟩
    case fin =>
      rintro ys nx ⟨rfl, hys⟩
      rw [hsz, List.take_length] at hys
      unfold LCg.FinE
      intro D h5 tk5 F5 N5 o1
      k_steps
      rename Fr _ _ _ _ => F9
      rename News _ _ _ _ => N9
      rename IntsAre _ (List.take _ _) => hi9
      rename_i D9 _ _ _ _ l9 _
      rw [← List.dropLast_eq_take] at hi9
      have e9 : (List.map (fun p => (p.length : Int)) (Txt.split y ⟨#[32]⟩)).dropLast = (runsOf 0 (plainL ns (ka + kb + 1))).map fun (o : Nat) => (o : Int) := by
        rw [← hy0, ← hsp1, List.map_dropLast, List.map_map]
        rfl
      rw [e9] at hi9
      exact hq _ ⟨_, ka, kb, _, _, _, _, _, _, _, _, _, _, _, rfl, rfl, rfl, rfl, rfl, hx0, hy0, F9, by walk_at "my_news", hi1, hi9, hka1, hka4, hkb1, hkb4, ha2, Nat.ne_of_lt l9.2.2.2, hg1, ho1⟩
  clear F2 N1 hm1 hm2 hm3 hm4 hx0 hy0 hi1 hka1 hka4 hkb1 hkb4 ha2 hg1 ho1
  rintro s ⟨m, ka, kb, rl, vs1, n1, x, tx, ts, y, ty, tl, tv, tn, hm1, hm2, hm3, hm4, hm5, hx0, hy0, F1, N1, hi1, hi2, hka1, hka4, hkb1, hkb4, ha2, ha3, hg1, ho1⟩
  have F2 := fr_put (fr_put (fr_put (fr_put (fr_put F1 (y := PySem.Str.ofString "text") hm2) (y := PySem.Str.ofString "rooms") ((if_neg (by decide)).trans hm1)) (y := PySem.Str.ofString "spare") ((if_neg (by decide)).trans ((if_neg (by decide)).trans hm3))) (y := PySem.Str.ofString "plain") ((if_neg (by decide)).trans ((if_neg (by decide)).trans ((if_neg (by decide)).trans hm4)))) (y := PySem.Str.ofString "told") ((if_neg (by decide)).trans ((if_neg (by decide)).trans ((if_neg (by decide)).trans ((if_neg (by decide)).trans hm5))))
  clear F1
  have hT := plain_T ns (ka + kb + 1)
  have hTl := plainL_len ns (ka + kb + 1)
  with_reducible refine step_abs (P8 g0 L ns s₁) ?_ ?_
  · intro Q E hq
    have hrl : (runsOf 0 (plainL ns (ka + kb + 1))).length ≤ 200 := Nat.le_trans (runsOf_len _ 0) (by omega)
    have hrs : (runsOf 0 (plainL ns (ka + kb + 1))).sum ≤ 200 := Nat.le_trans (runs_sum _ 0) (by omega)
    k_steps
    rename Fr _ _ _ _ => F9
    rename News _ _ _ _ => N9
    rename IntsAre _ (List.map _ (layersL _)) => hi9
    rename_i s9 r9 _ _ g9 o9 l9 _
    exact hq _ ⟨_, ka, kb, _, _, _, _, _, _, _, _, _, _, _, _, _, _, rfl, rfl, rfl, rfl, rfl, rfl, hx0, hy0, F9, by walk_at "my_news", hi1, hi2, hi9, hka1, hka4, hkb1, hkb4, ha2, ha3, Nat.ne_of_lt (l9 _ (.tail _ (.tail _ (.head _)))), g9.trans hg1, o9.trans ho1⟩
  clear F2 N1 hm1 hm2 hm3 hm4 hm5 hx0 hy0 hi1 hi2 hka1 hka4 hkb1 hkb4 ha2 ha3 hg1 ho1
  rintro s ⟨m, ka, kb, rl, vs1, n1, x, tx, ts, y, ty, tl, tv, tn, ll, lv, ln, hm1, hm2, hm3, hm4, hm5, hm6, hx0, hy0, F1, N1, hi1, hi2, hi3, hka1, hka4, hkb1, hkb4, ha2, ha3, ha4, hg1, ho1⟩
  have F2 := fr_put (fr_put (fr_put (fr_put (fr_put (fr_put F1 (y := PySem.Str.ofString "text") hm2) (y := PySem.Str.ofString "rooms") ((if_neg (by decide)).trans hm1)) (y := PySem.Str.ofString "spare") ((if_neg (by decide)).trans ((if_neg (by decide)).trans hm3))) (y := PySem.Str.ofString "plain") ((if_neg (by decide)).trans ((if_neg (by decide)).trans ((if_neg (by decide)).trans hm4)))) (y := PySem.Str.ofString "told") ((if_neg (by decide)).trans ((if_neg (by decide)).trans ((if_neg (by decide)).trans ((if_neg (by decide)).trans hm5))))) (y := PySem.Str.ofString "layers") ((if_neg (by decide)).trans ((if_neg (by decide)).trans ((if_neg (by decide)).trans ((if_neg (by decide)).trans ((if_neg (by decide)).trans hm6)))))
  clear F1
  have hT := plain_T ns (ka + kb + 1)
  have hTl := plainL_len ns (ka + kb + 1)
  with_reducible refine step_abs (P9 g0 L ns s₁) ?_ ?_
  · intro Q E hq
    have hxl : x.length ≤ 100 := by
      have := nums_len ns
      rw [len_cp, hx0, List.length_map]
      omega
    k_steps
    rename Fr _ _ _ _ => F9
    rename News _ _ _ _ => N9
    rename cp _ = escL _ => e9
    exact hq _ ⟨_, ka, kb, _, _, _, _, _, _, _, _, _, _, _, _, _, _, rfl, rfl, rfl, rfl, rfl, rfl, by rw [← hx0]; exact e9, hy0, F9, by walk_at "my_news", hi1, hi2, hi3, hka1, hka4, hkb1, hkb4, ha2, ha3, ha4, hg1, ho1⟩
  clear F2 N1 hm1 hm2 hm3 hm4 hm5 hm6 hx0 hy0 hi1 hi2 hi3 hka1 hka4 hkb1 hkb4 ha2 ha3 ha4 hg1 ho1
  rintro s ⟨m, ka, kb, rl, vs1, n1, z, tz, ts, y, ty, tl, tv, tn, ll, lv, ln, hm1, hm2, hm3, hm4, hm5, hm6, hz0, hy0, F1, N1, hi1, hi2, hi3, hka1, hka4, hkb1, hkb4, ha2, ha3, ha4, hg1, ho1⟩
  have F2 := fr_put (fr_put (fr_put (fr_put (fr_put (fr_put F1 (y := PySem.Str.ofString "written") hm2) (y := PySem.Str.ofString "rooms") ((if_neg (by decide)).trans hm1)) (y := PySem.Str.ofString "spare") ((if_neg (by decide)).trans ((if_neg (by decide)).trans hm3))) (y := PySem.Str.ofString "plain") ((if_neg (by decide)).trans ((if_neg (by decide)).trans ((if_neg (by decide)).trans hm4)))) (y := PySem.Str.ofString "told") ((if_neg (by decide)).trans ((if_neg (by decide)).trans ((if_neg (by decide)).trans ((if_neg (by decide)).trans hm5))))) (y := PySem.Str.ofString "layers") ((if_neg (by decide)).trans ((if_neg (by decide)).trans ((if_neg (by decide)).trans ((if_neg (by decide)).trans ((if_neg (by decide)).trans hm6)))))
  clear F1
  have hT := plain_T ns (ka + kb + 1)
  have hTl := plainL_len ns (ka + kb + 1)
  have hlen1 := nums_len ns
  with_reducible refine step_abs (P10 g0 L ns s₁) ?_ ?_
  · intro Q E hq
    obtain ⟨hes1, hes2⟩ := esc_ok ((nums ns).map signOf) (signs_ok _)
    rw [← hz0, List.length_map, hlen1] at hes2
    rw [← hz0] at hes1
    have hzs : z.cps.size ≤ 30 := by rw [← Array.length_toList]; exact hes2
    k_steps
    refine SrcS.intro rfl (by k_asm) (by k_asm) (esc_ascii hes1) (by rw [PySem.sizeLine_eq]; omega) fun g3 => ?_
    refine comp_walk (fun i ys nx => nx = [(ll, listOf lv ln), (tl, listOf tv tn), (rl, listOf vs1 n1), (91, tabObj #[])] ∧ IntsAre ys (((cp z).take i).map fun o => ((blankL o : Nat) : Int))) ?turn ?fin _ _ _ _ (Nat.add_zero _) ⟨rfl, .nil⟩
    case turn =>
      rintro i v ys nx I oI C oC D m₂ h₂ tk₂ E' hi hP ⟨rfl, hys⟩ hC hx F4 N4 off ne
      obtain ⟨o, u, ho, rfl⟩ := hP
      have ho' : (cp z)[i]? = some o := by simpa [cp] using ho
      have htake : ((cp z).take (i + 1)).map (fun o => ((blankL o : Nat) : Int)) = ((cp z).take i).map (fun o => ((blankL o : Nat) : Int)) ++ [((blankL o : Nat) : Int)] := by rw [List.take_add_one, ho']; simp
      by_cases h63 : 63 < o
      · have hb : blankL o = o := if_pos h63
        rw [hb] at htake
        k_steps
        exact LCg.CompEnd.intro F4 N4 _ (fun p hp => hp) off trivial ⟨rfl, by rw [htake]; exact ints_add hys⟩
      · have hb : blankL o = 32 := if_neg h63
        rw [hb] at htake
        k_steps
        exact LCg.CompEnd.intro F4 N4 _ (fun p hp => hp) off trivial ⟨rfl, by rw [htake]; exact ints_add hys⟩
    case fin =>
      rintro ys nx ⟨rfl, hys⟩
      rw [List.take_of_length_le (by exact Nat.le_of_eq Array.length_toList)] at hys
      unfold LCg.FinE
      intro D h5 tk5 F5 N5 o1
      k_steps
      rename IntsAre _ (_ ++ _) => hi8
      have hi9 := hi8
      rw [hz0, bytes_plain] at hi9
      have hb9 : ∀ o ∈ plainL ns (ka + kb + 1), o < 256 := fun o ho => (hT.1 o ho).lt
      refine bytes_ns (by k_asm) (by k_asm) (.head _) hi9 hb9 (by omega) rfl fun h9 t9 k9 F8 N8 => ?_
      k_steps
      rename Fr _ _ _ _ => F9
      rename News _ _ _ _ => N9
      exact hq _ ⟨_, ka, kb, _, _, _, _, _, _, _, _, _, _, _, _, rfl, rfl, rfl, rfl, rfl, hy0, F9, by walk_at "my_news", hi1, hi2, hi3, hka1, hka4, hkb1, hkb4, ha2, ha3, ha4, hg1, ho1⟩
  clear F2 N1 hT hTl hlen1 hm1 hm2 hm3 hm4 hm5 hm6 hz0 hy0 hi1 hi2 hi3 hka1 hka4 hkb1 hkb4 ha2 ha3 ha4 hg1 ho1
  rintro s ⟨m, ka, kb, rl, vs1, n1, tf, y, ty, tl, tv, tn, ll, lv, ln, hm1, hm2, hm4, hm5, hm6, hy0, F1, N1, hi1, hi2, hi3, hka1, hka4, hkb1, hkb4, ha2, ha3, ha4, hg1, ho1⟩
  have F2 := fr_put (fr_put (fr_put (fr_put (fr_put F1 (y := PySem.Str.ofString "first") hm2) (y := PySem.Str.ofString "rooms") ((if_neg (by decide)).trans hm1)) (y := PySem.Str.ofString "plain") ((if_neg (by decide)).trans ((if_neg (by decide)).trans hm4))) (y := PySem.Str.ofString "told") ((if_neg (by decide)).trans ((if_neg (by decide)).trans ((if_neg (by decide)).trans hm5)))) (y := PySem.Str.ofString "layers") ((if_neg (by decide)).trans ((if_neg (by decide)).trans ((if_neg (by decide)).trans ((if_neg (by decide)).trans hm6))))
  clear F1
  have hT := plain_T ns (ka + kb + 1)
  have hTl := plainL_len ns (ka + kb + 1)
  with_reducible refine step_abs (P11 g0 L ns s₁) ?_ ?_
  · intro Q E hq
    have hb9 : ∀ o ∈ plainL ns (ka + kb + 1), o < 256 := fun o ho => (hT.1 o ho).lt
    have hr1 : (plainL ns (ka + kb + 1)).length ≤ 200 := by omega
    have hr2 : ∀ o ∈ plainL ns (ka + kb + 1), o = 32 ∨ (64 < o ∧ o < 128) := hT.1
    have hr3 := hT.ends (by omega)
    have hys : y.cps.size ≤ 60 := by rw [← Array.length_toList]; exact Nat.le_trans (Nat.le_of_eq (congrArg List.length hy0)) (by omega)
    have hya : ∀ o ∈ cp y, o < 128 := fun o ho => by
      rw [hy0] at ho
      rcases hr2 o ho with h | h <;> omega
    refine wpAny_If ?_
    k_steps
    · refine SrcS.intro rfl (by k_asm) (by k_asm) (esc_ascii hya) (by rw [PySem.sizeLine_eq]; omega) fun g3 => ?_
      refine comp_walk (fun i ys nx => nx = [(ll, listOf lv ln), (tl, listOf tv tn), (rl, listOf vs1 n1), (91, tabObj #[])] ∧ IntsAre ys (((cp y).take i).map fun (o : Nat) => (o : Int))) ?turn ?fin _ _ _ _ (Nat.add_zero _) ⟨rfl, .nil⟩
      case turn =>
        rintro i v ys nx I oI C oC D m₂ h₂ tk₂ E' hi hP ⟨rfl, hys⟩ hC hx F4 N4 off ne
        obtain ⟨o, u, ho, rfl⟩ := hP
        have ho' : (cp y)[i]? = some o := by simpa [cp] using ho
        have htake : ((cp y).take (i + 1)).map (fun (o : Nat) => (o : Int)) = ((cp y).take i).map (fun (o : Nat) => (o : Int)) ++ [(o : Int)] := by rw [List.take_add_one, ho']; simp
        k_steps
        exact LCg.CompEnd.intro F4 N4 _ (fun p hp => hp) off trivial ⟨rfl, by rw [htake]; exact ints_add hys⟩
      case fin =>
        rintro ys nx ⟨rfl, hys⟩
        rw [List.take_of_length_le (by exact Nat.le_of_eq Array.length_toList), hy0] at hys
        unfold LCg.FinE
        intro D h5 tk5 F5 N5 o1
        k_steps
        refine bytes_ns (by k_asm) (by k_asm) (.head _) hys hb9 (by omega) rfl fun h9 t9 k9 F8 N8 => ?_
        k_steps
        · rename (_ != _) = true => hne
          rw [bne_self_eq_false] at hne
          exact absurd hne Bool.false_ne_true
        · rename Fr _ _ _ _ => F9
          rename News _ _ _ _ => N9
          rename_i g9 o9 _ _ _
          exact hq _ ⟨_, ka, kb, _, _, _, _, _, _, _, rfl, rfl, rfl, F9, by walk_at "my_news", hi1, hi3, hka1, hka4, hkb1, hkb4, ha2, ha4, by rw [← hg1]; assumption, by rw [← ho1]; assumption⟩
  clear F2 N1 hT hTl hm1 hm2 hm4 hm5 hm6 hy0 hi1 hi2 hi3 hka1 hka4 hkb1 hkb4 ha2 ha3 ha4 hg1 ho1
  rintro s ⟨m, ka, kb, rl, vs1, n1, tf, ll, lv, ln, hm1, hm2, hm6, F1, N1, hi1, hi3, hka1, hka4, hkb1, hkb4, ha2, ha4, hg1, ho1⟩
  have F2 := fr_put (fr_put (fr_put F1 (y := PySem.Str.ofString "first") hm2) (y := PySem.Str.ofString "rooms") ((if_neg (by decide)).trans hm1)) (y := PySem.Str.ofString "layers") ((if_neg (by decide)).trans ((if_neg (by decide)).trans hm6))
  clear F1
  with_reducible refine step_abs (P12 g0 L ns s₁) ?_ ?_
  · intro Q E hq
    k_steps
    rename Fr _ _ _ _ => F9
    rename News _ _ _ _ => N9
    rename _ ∧ _ ∧ _ => l9
    exact hq _ ⟨_, ka, kb, _, _, _, _, _, _, _, _, _, rfl, rfl, rfl, rfl, F9, by walk_at "my_news", hi1, hi3, hka1, hka4, hkb1, hkb4, ha2, ha4, Nat.ne_of_lt l9.2.2, Nat.ne_of_lt l9.1, Nat.ne_of_lt l9.2.1, hg1, ho1⟩
  clear F2 N1 hm1 hm2 hm6 hi1 hi3 hka1 hka4 hkb1 hkb4 ha2 ha4 hg1 ho1
  rintro s ⟨m, ka, kb, rl, vs1, n1, tf, ll, lv, ln, el, en, hm1, hm2, hm6, hm7, F1, N1, hi1, hi3, hka1, hka4, hkb1, hkb4, ha2, ha4, ha5, ha6, ha7, hg1, ho1⟩
  have F2 := fr_put (fr_put (fr_put (fr_put F1 (y := PySem.Str.ofString "first") hm2) (y := PySem.Str.ofString "rooms") ((if_neg (by decide)).trans hm1)) (y := PySem.Str.ofString "layers") ((if_neg (by decide)).trans ((if_neg (by decide)).trans hm6))) (y := PySem.Str.ofString "ends") ((if_neg (by decide)).trans ((if_neg (by decide)).trans ((if_neg (by decide)).trans hm7)))
  clear F1
  have hT := plain_T ns (ka + kb + 1)
  have hTl := plainL_len ns (ka + kb + 1)
  with_reducible refine step_abs (P13 g0 L ns s₁) ?_ ?_
  · intro Q E hq
    obtain ⟨ta, tb, rfl⟩ := ints_two hi1
    refine wpAny_For ?_
    k_steps
    rename Fr _ _ _ _ => F3
    rename News _ _ _ _ => N3
    rename_i r2 _ lr2 ol h3 lol
    obtain ⟨tc, td, N3⟩ : ∃ tc td, News g0 L h3 [(ol, listOf #[.ref rl, .ref r2] 0), (r2, listOf #[.int (kb : Int) tc, .int (ka : Int) td] 0), (el, listOf #[] en), (ll, listOf lv ln), (rl, listOf #[.int (ka : Int) ta, .int (kb : Int) tb] n1), (91, tabObj #[])] := ⟨_, _, N3⟩
    obtain ⟨rest, hrest⟩ : ∃ rest, rest = [(ol, listOf #[.ref rl, .ref r2] 0), (r2, listOf #[.int (kb : Int) tc, .int (ka : Int) td] 0), (ll, listOf lv ln), (rl, listOf #[.int (ka : Int) ta, .int (kb : Int) tb] n1)] := ⟨_, rfl⟩
    have N4 : News g0 L h3 ((el, listOf #[] en) :: (91, tabObj #[]) :: rest) := by subst hrest; walk_at "my_news"
    have mol : (ol, listOf #[.ref rl, .ref r2] 0) ∈ rest := by subst hrest; k_mem
    have mll : (ll, listOf lv ln) ∈ rest := by subst hrest; k_mem
    have mrl : (rl, listOf #[.int (ka : Int) ta, .int (kb : Int) tb] n1) ∈ rest := by subst hrest; k_mem
    have mr2 : ∃ tc td nn, (r2, listOf #[.int (kb : Int) tc, .int (ka : Int) td] nn) ∈ rest := by subst hrest; exact ⟨_, _, _, .tail _ (.head _)⟩
    have r91 : ∀ p ∈ rest, p.1 ≠ 91 := by
      subst hrest
      intro p hp
      simp only [List.mem_cons, List.not_mem_nil, or_false] at hp
      rcases hp with rfl | rfl | rfl | rfl
      · exact Nat.ne_of_gt lol.2.2.2.2
      · exact Nat.ne_of_gt lr2.2.2.2
      · exact Ne.symm ha4
      · exact Ne.symm ha2
    have rel : ∀ p ∈ rest, p.1 ≠ el := by
      subst hrest
      intro p hp
      simp only [List.mem_cons, List.not_mem_nil, or_false] at hp
      rcases hp with rfl | rfl | rfl | rfl
      · exact Nat.ne_of_gt lol.2.1
      · exact Nat.ne_of_gt lr2.1
      · exact ha6
      · exact ha7
    clear N3 hrest
    have hT7 : ∀ a b : Nat, a + b = ka + kb → TP (a + b + 1) (plainL ns (ka + kb + 1)) := fun a b e => by rw [e]; exact hT
    generalize hTe : plainL ns (ka + kb + 1) = T at F3 hi3 hT hTl hT7
    have hlv : lv.toList.toArray.size ≤ sizeLine := by
      have h5 := hi3.length
      have h6 := runs_sum T 0
      have h7 := layersF_len (runsOf 0 T).sum (runsOf 0 T)
      rw [List.length_map] at h5
      unfold layersL at h5
      rw [List.size_toArray, h5, sizeLine_eq]
      omega
    refine for_listK rfl rfl rfl F3 N4 (.tail _ (.tail _ mol)) (OR T ka kb rest el ll rl tf s₁.os) ?hRl ?hRt ?h0 ?turn ?done
    case hRl =>
      rintro i m nx s ⟨_, _, _, rfl, _⟩
      exact .tail _ (.tail _ mol)
    case hRt => exact fun _ _ _ _ _ _ h => h
    case h0 => exact ⟨_, _, _, rfl, .nil, rfl, rfl, rfl, rfl, trivial, by rw [hg1, hg]; exact bare_nil, ho1⟩
    case turn =>
      clear F3 N4
      rintro i v m₁ nx s₂ I oI hv ⟨evs, en2, ps, rfl, hev, hn1, hn2, hn3, hn4, htr, hbare, hos⟩ hI0 hnI F4 N4
      obtain ⟨xl, p1, q1, tp, tq, nn, rfl, mxl, hpq, hp1, hp4, hq1, hq4, hE⟩ := order_turn T hv mrl mr2 hka1 hka4 hkb1 hkb4
      replace F4 : Fr g0 L s₂.heap _ := F4
      replace N4 : News g0 L s₂.heap _ := N4
      have F5 := fr_put (fr_put (fr_put (fr_put F4 (y := PySem.Str.ofString "first") ((if_neg (by decide)).trans hn1)) (y := PySem.Str.ofString "layers") ((if_neg (by decide)).trans ((if_neg (by decide)).trans hn2))) (y := PySem.Str.ofString "ends") ((if_neg (by decide)).trans ((if_neg (by decide)).trans ((if_neg (by decide)).trans hn3)))) (y := PySem.Str.ofString "rooms") ((if_neg (by decide)).trans ((if_neg (by decide)).trans ((if_neg (by decide)).trans ((if_neg (by decide)).trans hn4))))
      clear F4
      k_steps
      rename Fr _ _ _ _ => F6
      rename News _ _ _ _ => N6
      have N7 : News g0 L _ ((el, listOf evs en2) :: (91, tabObj ps) :: (I, oI) :: rest) := news_add N6 (.tail _ (.head _)) (news_add N6 (.tail _ (.tail _ (.head _))) (news_add N6 (.head _) (fun p hp => N6 p (.tail _ (.tail _ (.tail _ hp))))))
      refine for_listK rfl rfl rfl F6 N7 (.tail _ (.tail _ (.tail _ mxl))) (IR T p1 q1 ((I, oI) :: rest) el ll rl tf s₁.os evs en2) ?hRl2 ?hRt2 ?h02 ?turn2 ?done2
      case hRl2 =>
        rintro i m nx s ⟨_, _, rfl, _⟩
        exact .tail _ (.tail _ (.tail _ mxl))
      case hRt2 => exact fun _ _ _ _ _ _ h => h
      case h02 => exact ⟨_, _, rfl, rfl, rfl, rfl, rfl, rfl, htr, hbare, hos⟩
      case turn2 =>
        clear F6 N6 N7
        rintro j v₂ m₂ nx s₃ J oJ hv₂ ⟨ps₂, tt, rfl, ht1, ht2, ht3, ht4, ht5, htr₂, hbare₂, hos₂⟩ hJ0 hnJ F7 N7
        replace F7 : Fr g0 L s₃.heap _ := F7
        replace N7 : News g0 L s₃.heap _ := N7
        obtain ⟨kj, tkj, rfl, hkj4, hw1, hw2, hw3, hw4, hw5, hw6⟩ := room_turn hv₂ (hT7 p1 q1 hpq) (by omega) hp4 hq4
        have F8 := fr_put (fr_put (fr_put (fr_put (fr_put F7 (y := PySem.Str.ofString "first") ((if_neg (by decide)).trans ht2)) (y := PySem.Str.ofString "layers") ((if_neg (by decide)).trans ((if_neg (by decide)).trans ht3))) (y := PySem.Str.ofString "ends") ((if_neg (by decide)).trans ((if_neg (by decide)).trans ((if_neg (by decide)).trans ht4)))) (y := PySem.Str.ofString "rooms") ((if_neg (by decide)).trans ((if_neg (by decide)).trans ((if_neg (by decide)).trans ((if_neg (by decide)).trans ht5))))) (y := PySem.Str.ofString "tape") ((if_neg (by decide)).trans ((if_neg (by decide)).trans ((if_neg (by decide)).trans ((if_neg (by decide)).trans ((if_neg (by decide)).trans ht1)))))
        clear F7
        have N8 : News g0 L s₃.heap ((91, tabObj ps₂) :: (J, oJ) :: (el, listOf evs en2) :: (I, oI) :: rest) := news_add N7 (.tail _ (.tail _ (.head _))) (news_add N7 (.head _) (news_add N7 (.tail _ (.head _)) (fun p hp => N7 p (.tail _ (.tail _ (.tail _ hp))))))
        have h91I : @Ne Nat I 91 := Ne.symm (hnI _ (.tail _ (.head _)))
        have h91J : @Ne Nat J 91 := Ne.symm (hnJ _ (.tail _ (.head _)))
        have hne9 : ∀ p ∈ (J, oJ) :: (el, listOf evs en2) :: (I, oI) :: rest, p.1 ≠ 91 := by
          intro p hp
          rcases List.mem_cons.mp hp with rfl | hp
          · exact h91J
          · rcases List.mem_cons.mp hp with rfl | hp
            · exact Ne.symm ha5
            · rcases List.mem_cons.mp hp with rfl | hp
              · exact h91I
              · exact r91 p hp
        clear N7
        k_steps
        · have hw7 : ((sweepS kj (tpF T p1 q1 j)).2.2 : Int) = (List.take (kj : Int).toNat ((layersL (runsOf 0 T)).map fun (o : Nat) => (o : Int))).sum := by rw [hw3, Int.toNat_natCast, ← List.map_take, sum_cast]
          exact absurd hw7 (by assumption)
        · rename Fr _ _ _ _ => F9
          rename News _ _ _ _ => N9
          rename TriplesOk _ => tr9
          rename AllBare _ => b9
          rename _ = s₃.os => o9
          rw [hw2] at F9
          refine ⟨.inl rfl, _, _, F9, news_add N9 (.tail _ (.tail _ (.tail _ (.head _)))) (news_add N9 (.tail _ (.tail _ (.tail _ (.tail _ (.head _))))) (news_add N9 (.tail _ (.tail _ (.head _))) (news_add N9 (.tail _ (.tail _ (.tail _ (.tail _ (.tail _ (.head _)))))) fun p hp => N9 p (.tail _ (.tail _ (.tail _ (.tail _ (.tail _ (.tail _ hp))))))))), fun p hp => ?_, ⟨_, _, rfl, rfl, rfl, rfl, rfl, rfl, tr9, b9, o9.trans hos₂⟩⟩
          rcases List.mem_cons.mp hp with rfl | hp
          · exact hnJ _ (.head _)
          · rcases List.mem_cons.mp hp with rfl | hp
            · exact (hnJ (91, tabObj ps₂) (.tail _ (.head _)) :)
            · exact hnJ _ (.tail _ (.tail _ hp))
      case done2 =>
        clear F6 N6 N7
        rintro m₂ nx s₃ ⟨ps₂, tt, rfl, ht1, ht2, ht3, ht4, ht5, htr₂, hbare₂, hos₂⟩ F7 N7
        replace F7 : Fr g0 L s₃.heap _ := F7
        replace N7 : News g0 L s₃.heap _ := N7
        have F8 := fr_put (fr_put (fr_put (fr_put (fr_put F7 (y := PySem.Str.ofString "first") ht2) (y := PySem.Str.ofString "layers") ((if_neg (by decide)).trans ht3)) (y := PySem.Str.ofString "ends") ((if_neg (by decide)).trans ((if_neg (by decide)).trans ht4))) (y := PySem.Str.ofString "rooms") ((if_neg (by decide)).trans ((if_neg (by decide)).trans ((if_neg (by decide)).trans ht5)))) (y := PySem.Str.ofString "tape") ((if_neg (by decide)).trans ((if_neg (by decide)).trans ((if_neg (by decide)).trans ((if_neg (by decide)).trans ht1))))
        clear F7
        have hI1 : @Ne Nat I el := Ne.symm (hnI _ (.head _))
        have hsz : evs.size ≤ sizeLine := by
          have h5 := bytes_are_len hev
          rw [Array.length_toList, List.length_take] at h5
          rw [sizeLine_eq]
          have : ([endT T ka kb, endT T kb ka] : List (List Nat)).length = 2 := rfl
          omega
        dsimp only
        k_steps
        rename Fr _ _ _ _ => F9
        rename News _ _ _ _ => N9
        refine ⟨.inl rfl, _, _, F9, news_add N9 (.tail _ (.tail _ (.head _))) (news_add N9 (.head _) (news_add N9 (.tail _ (.head _)) (fun p hp => N9 p (.tail _ (.tail _ (.tail _ hp)))))), fun p hp => ?_, ⟨_, _, _, rfl, ?_, rfl, rfl, rfl, rfl, htr₂, hbare₂, hos₂⟩⟩
        · rcases List.mem_cons.mp hp with rfl | hp
          · exact Ne.symm hI1
          · rcases List.mem_cons.mp hp with rfl | hp
            · exact (hnI (91, tabObj ps) (.tail _ (.head _)) :)
            · exact hnI _ (.tail _ (.tail _ hp))
        · rw [hE, Array.toList_push]
          exact bytes_snoc hev
    case done =>
      clear F3 N4
      rintro m₁ nx s₂ ⟨evs, en2, ps, rfl, hev, hn1, hn2, hn3, hn4, htr, hbare, hos⟩ F4 N4
      replace F4 : Fr g0 L s₂.heap _ := F4
      replace N4 : News g0 L s₂.heap _ := N4
      obtain ⟨t1, t2, rfl⟩ := ends_two hev
      subst hTe
      exact hq _ ⟨_, ka, kb, _, _, _, _, _, _, _, _, _, _, _, _, _, hn4, hn1, hn2, hn3, F4, news_add N4 (.head _) (news_add N4 (.tail _ (.head _)) (news_add N4 (.tail _ (.tail _ mll)) (news_add N4 (.tail _ (.tail _ mrl)) news_nil))), hi3, hka1, hka4, hkb1, hkb4, ha2, ha4, ha5, htr, hbare, hos⟩
  clear F2 N1 hT hTl hm1 hm2 hm6 hm7 hi1 hi3 hka1 hka4 hkb1 hkb4 ha2 ha4 ha5 ha6 ha7 hg1 ho1
  rintro s ⟨m, ka, kb, rl, ta, tb, n1, tf, ll, lv, ln, el, en, t1, t2, ps, hm1, hm2, hm6, hm7, F1, N1, hi3, hka1, hka4, hkb1, hkb4, ha2, ha4, ha5, htr, hbare, ho1⟩
  have F2 := fr_put (fr_put (fr_put (fr_put F1 (y := PySem.Str.ofString "first") hm2) (y := PySem.Str.ofString "rooms") ((if_neg (by decide)).trans hm1)) (y := PySem.Str.ofString "layers") ((if_neg (by decide)).trans ((if_neg (by decide)).trans hm6))) (y := PySem.Str.ofString "ends") ((if_neg (by decide)).trans ((if_neg (by decide)).trans ((if_neg (by decide)).trans hm7)))
  clear F1
  have hT := plain_T ns (ka + kb + 1)
  have hTl := plainL_len ns (ka + kb + 1)
  have hT2 : TP (kb + ka + 1) (plainL ns (ka + kb + 1)) := by rw [Nat.add_comm kb ka]; exact hT
  obtain ⟨-, -, -, -, hlay, hq1, hq2, hlen1, hlen2, hruns, hbk1, hbk2, hbk3, hbk4⟩ := two_all hT (Nat.lt_succ_self (ka + kb))
  obtain ⟨-, -, -, -, -, -, hq3, -, hlen3, -, -, -, -, -⟩ := two_all hT2 (Nat.lt_succ_self (kb + ka))
  have he1 : (endT (plainL ns (ka + kb + 1)) ka kb).length ≤ 200 := by unfold endT; omega
  have he2 : ∀ o ∈ endT (plainL ns (ka + kb + 1)) ka kb, o = 32 ∨ (64 < o ∧ o < 128) := hq2.1
  have he3 := hq2.ends (by omega)
  have hf1 : (endT (plainL ns (ka + kb + 1)) kb ka).length ≤ 200 := by unfold endT; omega
  have hf2 : ∀ o ∈ endT (plainL ns (ka + kb + 1)) kb ka, o = 32 ∨ (64 < o ∧ o < 128) := hq3.1
  have hf3 := hq3.ends (by omega)
  with_reducible refine step_abs (P14 g0 L ns s₁) ?_ ?_
  · intro Q E hq
    replace he3 : ∃ u, endT (plainL ns (ka + kb + 1)) ka kb = u ++ [32] := he3
    k_steps
    rename Fr _ _ _ _ => F9
    rename News _ _ _ _ => N9
    rename_i s9 r9 v9 n9 g9 o9 i9 l9 h9
    exact hq _ ⟨_, ka, kb, _, _, _, _, _, _, _, _, _, _, _, _, _, _, _, _, rfl, rfl, rfl, rfl, rfl, F9, by walk_at "my_news", hi3, i9, hka1, hka4, hkb1, hkb4, ha2, ha4, ha5, Nat.ne_of_lt (l9 _ (.tail _ (.head _))), htr, by rw [g9]; exact hbare, o9.trans ho1⟩
  clear F2 N1 hT hTl hT2 hlay hq1 hq2 hq3 hlen1 hlen2 hlen3 hruns hbk1 hbk2 hbk3 hbk4 he1 he2 he3 hf1 hf2 hf3 hm1 hm2 hm6 hm7 hi3 hka1 hka4 hkb1 hkb4 ha2 ha4 ha5 htr hbare ho1
  rintro s ⟨m, ka, kb, rl, ta, tb, n1, tf, ll, lv, ln, el, en, t1, t2, ps, pl, pv, pn, hm1, hm2, hm6, hm7, hm8, F1, N1, hi3, hi4, hka1, hka4, hkb1, hkb4, ha2, ha4, ha5, ha6, htr, hbare, ho1⟩
  have F2 := fr_put (fr_put (fr_put (fr_put (fr_put F1 (y := PySem.Str.ofString "first") hm2) (y := PySem.Str.ofString "rooms") ((if_neg (by decide)).trans hm1)) (y := PySem.Str.ofString "layers") ((if_neg (by decide)).trans ((if_neg (by decide)).trans hm6))) (y := PySem.Str.ofString "ends") ((if_neg (by decide)).trans ((if_neg (by decide)).trans ((if_neg (by decide)).trans hm7)))) (y := PySem.Str.ofString "places") ((if_neg (by decide)).trans ((if_neg (by decide)).trans ((if_neg (by decide)).trans ((if_neg (by decide)).trans hm8))))
  clear F1
  have hT := plain_T ns (ka + kb + 1)
  have hTl := plainL_len ns (ka + kb + 1)
  have hT2 : TP (kb + ka + 1) (plainL ns (ka + kb + 1)) := by rw [Nat.add_comm kb ka]; exact hT
  obtain ⟨-, -, -, -, hlay, hq1, hq2, hlen1, hlen2, hruns, -, -, -, -⟩ := two_all hT (Nat.lt_succ_self (ka + kb))
  obtain ⟨-, -, -, -, -, -, hq3, -, hlen3, -, -, -, -, -⟩ := two_all hT2 (Nat.lt_succ_self (kb + ka))
  have hf1 : (endT (plainL ns (ka + kb + 1)) kb ka).length ≤ 200 := by unfold endT; omega
  have hf2 : ∀ o ∈ endT (plainL ns (ka + kb + 1)) kb ka, o = 32 ∨ (64 < o ∧ o < 128) := hq3.1
  have hf3 : ∃ u, endT (plainL ns (ka + kb + 1)) kb ka = u ++ [32] := hq3.ends (by omega)
  have hg2 : (runsOf 0 (endT (plainL ns (ka + kb + 1)) ka kb)).length ≤ 200 := Nat.le_trans (runsOf_len _ 0) (by unfold endT; omega)
  have hg3 : (runsOf 0 (endT (plainL ns (ka + kb + 1)) ka kb)).sum ≤ 200 := Nat.le_trans (runs_sum _ 0) (by unfold endT; omega)
  replace hruns : runsOf 0 (endT (plainL ns (ka + kb + 1)) ka kb) = runsOf 0 (endT (plainL ns (ka + kb + 1)) kb ka) := hruns
  replace hlay : layersL (runsOf 0 (endT (plainL ns (ka + kb + 1)) ka kb)) = layersL (runsOf 0 (plainL ns (ka + kb + 1))) := hlay
  with_reducible refine step_abs (P15 g0 L ns s₁) ?_ ?_
  · intro Q E hq
    refine wpAny_If ?_
    k_steps
    · rename Fr _ _ _ _ => F9
      rename News _ _ _ _ => N9
      rename_i g8 o8 i8 l8 F8 N8 a8 s9 r9 v9 n9 g9 o9 i9 l9 a9
      exact hq _ ⟨_, ka, kb, _, _, _, _, _, _, _, _, _, _, rfl, rfl, rfl, F9, by walk_at "my_news", hka1, hka4, hkb1, hkb4, ha2, ha5, htr, by rw [g9, g8]; exact hbare, (o9.trans o8).trans ho1⟩
    · exact absurd (congrArg (List.map fun (o : Nat) => (o : Int)) hlay) (by assumption)
    · exact absurd (congrArg (List.map fun (o : Nat) => (o : Int)) hruns) (by assumption)
  clear F2 N1 hT hTl hT2 hlay hq1 hq2 hq3 hlen1 hlen2 hlen3 hruns hf1 hf2 hf3 hg2 hg3 hm1 hm2 hm6 hm7 hm8 hi3 hi4 hka1 hka4 hkb1 hkb4 ha2 ha4 ha5 ha6 htr hbare ho1
  rintro s ⟨m, ka, kb, rl, ta, tb, n1, tf, el, en, t1, t2, ps, hm1, hm2, hm7, F1, N1, hka1, hka4, hkb1, hkb4, ha2, ha5, htr, hbare, ho1⟩
  have F2 := fr_put (fr_put (fr_put F1 (y := PySem.Str.ofString "first") hm2) (y := PySem.Str.ofString "rooms") ((if_neg (by decide)).trans hm1)) (y := PySem.Str.ofString "ends") ((if_neg (by decide)).trans ((if_neg (by decide)).trans hm7))
  clear F1
  have hT := plain_T ns (ka + kb + 1)
  have hTl := plainL_len ns (ka + kb + 1)
  obtain ⟨-, -, -, -, hlay, hq1, hq2, hlen1, hlen2, hruns, -, -, -, -⟩ := two_all hT (Nat.lt_succ_self (ka + kb))
  with_reducible refine step_absG (P16 g0 L ns s₁) ?_ ?_
  · intro Q E hq
    refine wpG_Assign_Name (callG_Name ?_)
    k_steps
    obtain ⟨o133, ho133, fd133, hfd133⟩ : ∃ o, (Look.hd.heap_39 w.params).lookup 133 = some o ∧ ∃ fd, o.data = .func fd := ⟨_, rfl, _, rfl⟩
    have hbs := oc_size (plainL ns (ka + kb + 1))
    have hE9 : (endT (plainL ns (ka + kb + 1)) ka kb).length = (plainL ns (ka + kb + 1)).length := hlen2
    have hE1 : (endT (plainL ns (ka + kb + 1)) ka kb).length ≤ 200 := by omega
    have hE0 : 0 < (endT (plainL ns (ka + kb + 1)) ka kb).length := by
      obtain ⟨u, hu⟩ := hT.ends (by omega)
      rw [hE9, hu, List.length_append]
      exact Nat.succ_pos _
    have hE2 : ∀ o ∈ endT (plainL ns (ka + kb + 1)) ka kb, o < 256 := fun o ho => (hq2.1 o ho).lt
    refine callG_def hfd133 ?_
    k_steps
    · exact X'.keeps F2.keep 133 _ ho133
    · rw [hbs, ← hE9]
      k_dflt (refine' byteswap_spec ?k1 ?k2 ?k3 ?k4 ?k5 ?kh ?kd ?ku ?kl ?k0 ?kt ?_; (case kh => exact rfl); (case k4 => k_asm); (case k1 => k_asm); (case k2 => k_asm); (case k3 => k_asm); (case k5 => k_asm); (case kd => k_room); (case ku => k_room); (case kl => assumption); (case k0 => assumption); (case kt => assumption))
      intro s9 t9 g9 o9 F8 N8
      k_steps
      rename Fr _ _ _ _ => F9
      rename News _ _ _ _ => N9
      exact hq _ ⟨_, ka, kb, _, _, _, _, _, _, _, rfl, rfl, rfl, F9, by walk_at "my_news", hka1, hka4, hkb1, hkb4, ha2, htr, by rw [g9]; exact hbare, o9.trans ho1⟩
  clear F2 N1 hT hTl hlay hq1 hq2 hlen1 hlen2 hruns hm1 hm2 hm7 hka1 hka4 hkb1 hkb4 ha2 ha5 htr hbare ho1
  rintro s ⟨m, ka, kb, rl, ta, tb, n1, tf, tt, ps, hm1, hm2, hm3, F1, N1, hka1, hka4, hkb1, hkb4, ha2, htr, hbare, ho1⟩
  have F2 := fr_put (fr_put (fr_put F1 (y := PySem.Str.ofString "first") hm2) (y := PySem.Str.ofString "rooms") ((if_neg (by decide)).trans hm1)) (y := PySem.Str.ofString "tape") ((if_neg (by decide)).trans ((if_neg (by decide)).trans hm3))
  clear F1
  have hT := plain_T ns (ka + kb + 1)
  have hTl := plainL_len ns (ka + kb + 1)
  with_reducible refine step_abs (P17 g0 L ns s₁) ?_ ?_
  · intro Q E hq
    refine wpAny_For ?_
    k_steps
    rename Fr _ _ _ _ => F3
    rename News _ _ _ _ => N3
    rename_i ol h3 lol
    obtain ⟨tc, td, N3⟩ : ∃ tc td, News g0 L h3 [(ol, listOf #[.int (kb : Int) tc, .int (ka : Int) td] 0), (91, tabObj ps), (rl, listOf #[.int (ka : Int) ta, .int (kb : Int) tb] n1)] := ⟨_, _, N3⟩
    have N4 : News g0 L h3 [(91, tabObj ps), (ol, listOf #[.int (kb : Int) tc, .int (ka : Int) td] 0)] := by walk_at "my_news"
    have l91o : @Ne Nat ol 91 := Nat.ne_of_gt lol.1
    clear N3
    generalize hTe : plainL ns (ka + kb + 1) = T at F3 hT hTl
    refine for_listK rfl rfl rfl F3 N4 (.tail _ (.head _)) (BR T ka kb [(ol, listOf #[.int (kb : Int) tc, .int (ka : Int) td] 0)] tf s₁.os) ?hRl ?hRt ?h0 ?turn ?done
    case hRl =>
      rintro i m nx s ⟨_, _, rfl, _⟩
      exact .tail _ (.head _)
    case hRt => exact fun _ _ _ _ _ _ h => h
    case h0 => exact ⟨_, _, rfl, rfl, rfl, htr, hbare, ho1⟩
    case turn =>
      clear F3 N4
      rintro i v m₁ nx s₂ I oI hv ⟨ps₂, tt₂, rfl, hn1, hn2, htr₂, hbare₂, hos₂⟩ hI0 hnI F4 N4
      obtain ⟨kj, tkj, rfl, hkj4, hw1, hw2, hw4, hw5⟩ := back_turn hv hT (by omega) hka4 hkb4
      replace F4 : Fr g0 L s₂.heap _ := F4
      replace N4 : News g0 L s₂.heap _ := N4
      have F5 := fr_put (fr_put F4 (y := PySem.Str.ofString "first") ((if_neg (by decide)).trans hn2)) (y := PySem.Str.ofString "tape") ((if_neg (by decide)).trans ((if_neg (by decide)).trans hn1))
      clear F4
      have N5 : News g0 L s₂.heap [(91, tabObj ps₂), (I, oI), (ol, listOf #[.int (kb : Int) tc, .int (ka : Int) td] 0)] := by walk_at "my_news"
      have h91I : @Ne Nat I 91 := Ne.symm (hnI _ (.head _))
      have hne9 : ∀ p ∈ [(I, oI), (ol, listOf #[.int (kb : Int) tc, .int (ka : Int) td] 0)], p.1 ≠ 91 := by
        intro p hp
        rcases List.mem_cons.mp hp with rfl | hp
        · exact h91I
        · rw [List.mem_singleton.mp hp]; exact l91o
      clear N4
      k_steps
      rename Fr _ _ _ _ => F9
      rename News _ _ _ _ => N9
      rename TriplesOk _ => tr9
      rename AllBare _ => b9
      rename _ = s₂.os => o9
      rw [hw2] at F9
      refine ⟨.inl rfl, _, [(91, tabObj _), (ol, listOf #[.int (kb : Int) tc, .int (ka : Int) td] 0)], F9, by walk_at "my_news", fun p hp => ?_, ⟨_, _, rfl, rfl, rfl, tr9, b9, o9.trans hos₂⟩⟩
      rcases List.mem_cons.mp hp with rfl | hp
      · exact Ne.symm h91I
      · exact hnI _ (.tail _ hp)
    case done =>
      clear F3 N4
      rintro m₁ nx s₂ ⟨ps₂, tt₂, rfl, hn1, hn2, htr₂, hbare₂, hos₂⟩ F4 N4
      replace F4 : Fr g0 L s₂.heap _ := F4
      replace N4 : News g0 L s₂.heap _ := N4
      subst hTe
      exact hq _ ⟨_, ka, kb, _, _, _, hn2, hn1, F4, news_add N4 (.head _) news_nil, htr₂, hbare₂, hos₂, by omega⟩
  clear F2 N1 hT hTl hm1 hm2 hm3 hka1 hka4 hkb1 hkb4 ha2 htr hbare ho1
  rintro s ⟨m, ka, kb, tf, tt, ps, hm2, hm3, F1, N1, htr, hbare, ho1, hk⟩
  have F2 := fr_put (fr_put F1 (y := PySem.Str.ofString "first") hm2) (y := PySem.Str.ofString "tape") ((if_neg (by decide)).trans hm3)
  clear F1
  have hT := plain_T ns (ka + kb + 1)
  have hTl := plainL_len ns (ka + kb + 1)
  have hbs := oc_size (plainL ns (ka + kb + 1))
  have hE9 : (plainL ns (ka + kb + 1)).reverse.length = (plainL ns (ka + kb + 1)).length := List.length_reverse
  have hE1 : (plainL ns (ka + kb + 1)).reverse.length ≤ 200 := by omega
  have hE0 : 0 < (plainL ns (ka + kb + 1)).reverse.length := by
    obtain ⟨u, hu⟩ := hT.ends (by omega)
    rw [hE9, hu, List.length_append]
    exact Nat.succ_pos _
  have hE2 : ∀ o ∈ (plainL ns (ka + kb + 1)).reverse, o < 256 := fun o ho => (hT.1 o (List.mem_reverse.mp ho)).lt
  obtain ⟨o133, ho133, fd133, hfd133⟩ : ∃ o, (Look.hd.heap_39 w.params).lookup 133 = some o ∧ ∃ fd, o.data = .func fd := ⟨_, rfl, _, rfl⟩
  with_reducible refine wpG_execs_cons ?_
  with_reducible refine ret_abs (P18 g0 L ns s₁) ?_ ?_
  · intro Q E hq
    refine wpG_Return (wpG_Compare1 (callG_Name ?_))
    k_steps
    refine callG_def hfd133 ?_
    k_steps
    · exact X'.keeps F2.keep 133 _ ho133
    · rw [hbs, ← hE9]
      k_dflt (refine' byteswap_spec ?k1 ?k2 ?k3 ?k4 ?k5 ?kh ?kd ?ku ?kl ?k0 ?kt ?_; (case kh => exact rfl); (case k4 => k_asm); (case k1 => k_asm); (case k2 => k_asm); (case k3 => k_asm); (case k5 => k_asm); (case kd => k_room); (case ku => k_room); (case kl => assumption); (case k0 => assumption); (case kt => assumption))
      intro s9 t9 g9 o9 F8 N8
      rw [List.reverse_reverse]
      k_steps
      rename Fr _ _ _ _ => F9
      rename News _ _ _ _ => N9
      rw [beq_self_eq_true]
      exact hq _ ⟨_, _, F9, N9, by rw [g9]; exact hbare, o9.trans ho1⟩
  rintro s ⟨m, ps, F1, N1, hb, ho⟩
  exact hret s ps ho hb (N1 _ (.head _)).1 fun b o hb9 e => F1.keep b o (hG b o hb9 e)
end Mine
end
section -- LJ2
open PySem PySem.Spec PySem.Calls PyProof.Rows PySem.W
set_option maxRecDepth 100000
set_option maxHeartbeats 8000000
namespace Mine
theorem quiet_LJ2 : True := by
  w_top off
  trivial
noncomputable def MK (P : Params) : Frag := Look.hd.heap_39 P ++ [(91, tabObj #[])]
theorem mk_left {P : Params} {h : Heap} (X : (MK P).In h) : (Look.hd.heap_39 P).In h := fun a o e => X a o (by
  unfold MK
  rw [List.lookup_append, e]
  rfl)
theorem mk_tab {P : Params} {h : Heap} (X : (MK P).In h) : h.get? 91 = some (tabObj #[]) := X 91 _ (by kernel_rfl)
theorem good_true {cl : Str → Option Addr} {mean : ExcName → Option Value} {args : List WData} {s₁ s' : Shared} {ps : Array Value} (h91 : s₁.heap.get? 91 = some (tabObj #[])) (hc : CodeHd s₁.heap 95 91)
    (hpost : PySem.Challenge.rw_xp0002_01.row.claim.post args (.bool true) args = true)
    (ho : s'.os = s₁.os) (hb : AllBare s'.gens) (hp : s'.heap.get? 91 = some (tabObj ps)) (hk : ∀ b o, b ≠ 91 → s₁.heap.get? b = some o → s'.heap.get? b = some o) :
    GoodWG PySem.Challenge.rw_xp0002_01.row.claim cl mean args s₁ (.ok (.ret (.bool true))) s' := by
  refine ⟨.inl ⟨_, _, [], rfl, fun _ => rfl, .bool true, hpost, fun _ => ⟨List.nodup_nil, fun _ h => nomatch h⟩⟩, ⟨fun b o e => ?_, fun b o e => ?_⟩, ho, hb⟩
  · by_cases h : b = 91
    · subst h
      rw [h91] at e
      cases e
      exact .inr (.inl ⟨(hc.tab h91).isCodeTable, rfl, #[], ps, rfl, by rw [Array.empty_append]; exact hp⟩)
    · exact .inl (hk b o h e)
  · by_cases h : b = 91
    · subst h
      exact ⟨_, hp⟩
    · exact ⟨o, hk b o h e⟩
theorem joined : PySem.Challenge.rw_xp0002_01.Holds := by
  w_on
  o_law
  o_head (kHook MK [2, 3, 15, 17, 18, 20, 21, 22, 24, 25, 27, 28, 29, 31, 32, 34, 35, 36, 38, 39, 41, 42, 43, 46, 51, 52, 53, 55, 56, 58, 59, 60, 62, 63, 65, 66, 67, 68, 70, 71, 73, 74, 75, 76, 78, 79, 81, 82, 83, 85, 86, 88, 89, 90, 92, 93, 95, 96, 97, 98, 100, 101, 103, 104, 105, 107, 108, 110, 111, 112, 113, 115, 116, 118, 119, 120, 121, 122, 123, 124, 127, 129, 130, 132, 133, 134, 136, 137, 139, 140, 141, 143, 144, 146, 147, 148, 151, 152, 153, 156, 157, 91] (fun _ => by kernel_rfl))
  (case hw => w_witness2)
  intro w s₀ s₁ mg mb G Y fa o pm cd doc dV kV ho hd' hcd hD hmg hg args vals as hpre hlay hrd hwl hlo
  have KX : (MK w.params).In s₁.heap := kIn_of Y
  clear Y
  have X := mk_left KX
  have h91 := mk_tab KX
  clear KX hd' hcd hD
  refine Ground.open G ?_
  intro T B D TE TW
  try (refine guard_noD D (by decide +kernel) ?_; clear D)
  wrow_args hpre hlay hrd hwl hlo
  have hfa : mg "law" = some (.ref 157) := mg_of X T.g (by kernel_rfl)
  replace hmg : mg "law" = some (.ref fa) := hmg
  rw [hfa] at hmg
  cases hmg
  rename IntsAre _ _ => hI
  rename Heap.IsList _ _ _ => hL
  rename ¬ _ => hC
  refine wpG_call ?_
  refine law_spec X h91 T hL hI (by omega) hg fun s' ps' h1 h2 h3 h4 => ?_
  exact good_true h91 (code_hd X) (by wrow_post) h1 h2 h3 h4
end Mine
end
end
theorem PySem.Challenge.cw_xp0002_01_holds : PySem.Challenge.rw_xp0002_01.Holds := by
  exact Mine.joined
