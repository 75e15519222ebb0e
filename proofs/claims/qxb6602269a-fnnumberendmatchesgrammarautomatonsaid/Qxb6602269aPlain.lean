/-
  The plain mathematics of seat b6602269a: no Go in sight. JSON numbers on a list of bytes, by positions.
-/
namespace Go.Proofs.Qxb6602269a.Num

/-- is the byte a decimal digit? -/
def dig (c : Nat) : Bool := decide (48 ≤ c) && decide (c ≤ 57)

/-- how many digits open the list -/
def dl : List UInt8 → Nat
  | [] => 0
  | c :: l => if dig c.toNat then dl l + 1 else 0

/-- the byte at place p, as a number; 256 where there is none -/
def at_ (l : List UInt8) (p : Nat) : Nat := match l[p]? with | some c => c.toNat | none => 256

/-- where the run of digits from place p on ends -/
def dEnd (l : List UInt8) (p : Nat) : Nat := p + dl (l.drop p)

def sgn (l : List UInt8) (p : Nat) : Nat := if at_ l p = 45 then p + 1 else p
def dg (l : List UInt8) (p : Nat) : Option Nat := if p < dEnd l p then some (dEnd l p) else none
def int_ (l : List UInt8) (p : Nat) : Option Nat := if at_ l p = 48 then some (p + 1) else dg l p
def frac (l : List UInt8) (p : Nat) : Option Nat := if at_ l p = 46 then dg l (p + 1) else some p
def esg (l : List UInt8) (p : Nat) : Nat := if at_ l p = 43 ∨ at_ l p = 45 then p + 1 else p
def exp_ (l : List UInt8) (p : Nat) : Option Nat := if at_ l p = 101 ∨ at_ l p = 69 then dg l (esg l (p + 1)) else some p
def num (l : List UInt8) (p : Nat) : Option Nat := ((int_ l (sgn l p)).bind (frac l)).bind (exp_ l)
def end_ (o : Option Nat) : Int := match o with | some q => (q : Int) | none => -1

/-! ### one byte, one run -/
theorem at_lt {l : List UInt8} {p : Nat} (h : p < l.length) : at_ l p = l[p].toNat := by
  simp [at_, List.getElem?_eq_getElem h]
theorem at_ge {l : List UInt8} {p : Nat} (h : l.length ≤ p) : at_ l p = 256 := by
  simp [at_, List.getElem?_eq_none h]
theorem at_lt_of {l : List UInt8} {p : Nat} (h : at_ l p ≠ 256) : p < l.length := by
  by_cases g : p < l.length
  · exact g
  · exact absurd (at_ge (by omega)) h
theorem dEnd_yes {l : List UInt8} {p : Nat} (h : dig (at_ l p) = true) : dEnd l p = dEnd l (p + 1) := by
  have hp : p < l.length := at_lt_of (by intro e; rw [e] at h; exact absurd h (by decide))
  rw [at_lt hp] at h
  simp only [dEnd]
  rw [List.drop_eq_getElem_cons hp]
  simp only [dl, h, if_true]
  omega
theorem dEnd_no {l : List UInt8} {p : Nat} (h : dig (at_ l p) = false) : dEnd l p = p := by
  simp only [dEnd]
  by_cases hp : p < l.length
  · rw [at_lt hp] at h
    rw [List.drop_eq_getElem_cons hp]
    simp [dl, h]
  · rw [List.drop_eq_nil_of_le (by omega)]
    simp [dl]
theorem dl_le (l : List UInt8) : dl l ≤ l.length := by
  induction l with
  | nil => simp [dl]
  | cons c l ih => simp only [dl]; split <;> simp <;> omega
theorem dEnd_ge (l : List UInt8) (p : Nat) : p ≤ dEnd l p := by unfold dEnd; omega
theorem dEnd_le {l : List UInt8} {p : Nat} (h : p ≤ l.length) : dEnd l p ≤ l.length := by
  have := dl_le (l.drop p); simp at this; unfold dEnd; omega
/-- induction along a run of digits -/
theorem run_ind {l : List UInt8} (P : Nat → Prop) (stop : ∀ p, dig (at_ l p) = false → P p) (more : ∀ p, dig (at_ l p) = true → P (p + 1) → P p) : ∀ p, P p := by
  have key : ∀ n p, l.length - p ≤ n → P p := by
    intro n
    induction n with
    | zero => intro p hp; exact stop p (by rw [at_ge (by omega)]; decide)
    | succ n ih =>
      intro p hp
      cases h : dig (at_ l p) with
      | false => exact stop p h
      | true =>
        have hlt : p < l.length := at_lt_of (by intro e; rw [e] at h; exact absurd h (by decide))
        exact more p h (ih (p + 1) (by omega))
  intro p
  exact key _ p (Nat.le_refl _)
theorem dEnd_stop (l : List UInt8) (p : Nat) : dig (at_ l (dEnd l p)) = false := by
  refine run_ind (l := l) (fun p => dig (at_ l (dEnd l p)) = false) ?_ ?_ p
  · intro p h; rw [dEnd_no h]; exact h
  · intro p h ih; rw [dEnd_yes h]; exact ih

/-! ### shift -/
theorem at_drop (l : List UInt8) (i p : Nat) : at_ (l.drop i) p = at_ l (i + p) := by
  simp [at_]
theorem dEnd_drop (l : List UInt8) (i p : Nat) : dEnd l (i + p) = i + dEnd (l.drop i) p := by
  simp only [dEnd, List.drop_drop]; omega
theorem sgn_drop (l : List UInt8) (i p : Nat) : sgn l (i + p) = i + sgn (l.drop i) p := by
  simp only [sgn, at_drop]; split <;> omega
theorem esg_drop (l : List UInt8) (i p : Nat) : esg l (i + p) = i + esg (l.drop i) p := by
  simp only [esg, at_drop]; split <;> omega
theorem dg_drop (l : List UInt8) (i p : Nat) : dg l (i + p) = (dg (l.drop i) p).map (i + ·) := by
  simp only [dg, dEnd_drop]
  by_cases h : p < dEnd (l.drop i) p
  · rw [if_pos h, if_pos (by omega)]; rfl
  · rw [if_neg h, if_neg (by omega)]; rfl
theorem int_drop (l : List UInt8) (i p : Nat) : int_ l (i + p) = (int_ (l.drop i) p).map (i + ·) := by
  simp only [int_, at_drop]; split
  · simp; omega
  · exact dg_drop l i p
theorem frac_drop (l : List UInt8) (i p : Nat) : frac l (i + p) = (frac (l.drop i) p).map (i + ·) := by
  simp only [frac, at_drop]; split
  · exact dg_drop l i (p + 1)
  · simp
theorem exp_drop (l : List UInt8) (i p : Nat) : exp_ l (i + p) = (exp_ (l.drop i) p).map (i + ·) := by
  simp only [exp_, at_drop]; split
  · rw [show i + p + 1 = i + (p + 1) from by omega, esg_drop]; exact dg_drop l i _
  · simp
theorem num_drop (l : List UInt8) (i p : Nat) : num l (i + p) = (num (l.drop i) p).map (i + ·) := by
  simp only [num, sgn_drop, int_drop]
  cases int_ (l.drop i) (sgn (l.drop i) p) with
  | none => rfl
  | some q =>
    simp only [Option.map_some, Option.bind_some, frac_drop]
    cases frac (l.drop i) q with
    | none => rfl
    | some r => simp only [Option.map_some, Option.bind_some, exp_drop]

/-- the law of shifts -/
theorem end_drop (l : List UInt8) (i : Nat) : (end_ (num l i) = -1 ∧ end_ (num (l.drop i) 0) = -1) ∨ (0 ≤ end_ (num l i) ∧ 0 ≤ end_ (num (l.drop i) 0) ∧ end_ (num l i) = end_ (num (l.drop i) 0) + i) := by
  have h := num_drop l i 0
  rw [Nat.add_zero] at h
  rw [h]
  cases num (l.drop i) 0 with
  | none => left; exact ⟨rfl, rfl⟩
  | some q => right; simp only [end_, Option.map_some]; omega

/-! ### order -/
theorem dg_some {l : List UInt8} {p q : Nat} (h : dg l p = some q) : p < q ∧ q = dEnd l p ∧ q ≤ l.length := by
  unfold dg at h
  by_cases g : p < dEnd l p
  · rw [if_pos g] at h
    simp at h
    have hp : p < l.length := by
      by_cases gp : p < l.length
      · exact gp
      · have := dEnd_no (l := l) (p := p) (by rw [at_ge (by omega)]; decide); omega
    have := dEnd_le (l := l) (p := p) (by omega)
    omega
  · rw [if_neg g] at h; cases h
theorem int_some {l : List UInt8} {p q : Nat} (h : int_ l p = some q) : p < q ∧ q ≤ l.length := by
  unfold int_ at h
  by_cases g : at_ l p = 48
  · rw [if_pos g] at h
    have : p < l.length := at_lt_of (by omega)
    simp at h; omega
  · rw [if_neg g] at h; have := dg_some h; omega
theorem frac_some {l : List UInt8} {p q : Nat} (hp : p ≤ l.length) (h : frac l p = some q) : p ≤ q ∧ q ≤ l.length := by
  unfold frac at h
  by_cases g : at_ l p = 46
  · rw [if_pos g] at h; have := dg_some h; omega
  · rw [if_neg g] at h; simp at h; omega
theorem esg_ge (l : List UInt8) (p : Nat) : p ≤ esg l p ∧ esg l p ≤ p + 1 := by
  unfold esg; split <;> omega
theorem sgn_ge (l : List UInt8) (p : Nat) : p ≤ sgn l p ∧ sgn l p ≤ p + 1 := by
  unfold sgn; split <;> omega
theorem exp_some {l : List UInt8} {p q : Nat} (hp : p ≤ l.length) (h : exp_ l p = some q) : p ≤ q ∧ q ≤ l.length := by
  unfold exp_ at h
  by_cases g : at_ l p = 101 ∨ at_ l p = 69
  · rw [if_pos g] at h; have := dg_some h; have := esg_ge l (p + 1); omega
  · rw [if_neg g] at h; simp at h; omega

/-! ### truncation -/
theorem at_take_lt {l : List UInt8} {r p : Nat} (h : p < r) : at_ (l.take r) p = at_ l p := by
  simp [at_, h]
theorem at_take_ge {l : List UInt8} {r p : Nat} (h : r ≤ p) : at_ (l.take r) p = 256 := by
  rw [at_ge]; simp; omega
theorem dEnd_take {l : List UInt8} {r : Nat} (p : Nat) (h : dEnd l p ≤ r) : dEnd (l.take r) p = dEnd l p := by
  revert h
  refine run_ind (l := l) (fun p => dEnd l p ≤ r → dEnd (l.take r) p = dEnd l p) ?_ ?_ p
  · intro p h hr
    rw [dEnd_no h]
    by_cases g : p < r
    · exact dEnd_no (by rw [at_take_lt g]; exact h)
    · exact dEnd_no (by rw [at_take_ge (by omega)]; decide)
  · intro p h ih hr
    have h1 := dEnd_yes h
    have h2 := dEnd_ge l (p + 1)
    have hs : dig (at_ (l.take r) p) = true := by rw [at_take_lt (by omega)]; exact h
    rw [dEnd_yes hs, h1]
    exact ih (by omega)
theorem dg_take {l : List UInt8} {r p q : Nat} (h : dg l p = some q) (hr : q ≤ r) : dg (l.take r) p = some q := by
  obtain ⟨h1, h2, _⟩ := dg_some h
  unfold dg
  rw [dEnd_take p (by omega), if_pos (by omega), h2]
theorem int_take {l : List UInt8} {r p q : Nat} (h : int_ l p = some q) (hr : q ≤ r) : int_ (l.take r) p = some q := by
  have h1 := int_some h
  unfold int_ at h ⊢
  rw [at_take_lt (by omega)]
  by_cases g : at_ l p = 48
  · rw [if_pos g] at h ⊢; exact h
  · rw [if_neg g] at h ⊢; exact dg_take h hr
theorem frac_take {l : List UInt8} {r p q : Nat} (h : frac l p = some q) (hr : q ≤ r) (hp : p ≤ l.length) : frac (l.take r) p = some q := by
  have h1 := frac_some hp h
  unfold frac at h ⊢
  by_cases gp : p < r
  · rw [at_take_lt gp]
    by_cases g : at_ l p = 46
    · rw [if_pos g] at h ⊢; exact dg_take h hr
    · rw [if_neg g] at h ⊢; exact h
  · rw [at_take_ge (by omega), if_neg (by decide)]
    congr 1; omega
theorem exp_take {l : List UInt8} {r p q : Nat} (h : exp_ l p = some q) (hr : q ≤ r) (hp : p ≤ l.length) : exp_ (l.take r) p = some q := by
  have h1 := exp_some hp h
  unfold exp_ at h ⊢
  by_cases gp : p < r
  · rw [at_take_lt gp]
    by_cases g : at_ l p = 101 ∨ at_ l p = 69
    · rw [if_pos g] at h ⊢
      have h2 := dg_some h
      have h3 := esg_ge l (p + 1)
      have h4 : esg (l.take r) (p + 1) = esg l (p + 1) := by
        unfold esg; rw [at_take_lt (by omega)]
      rw [h4]
      exact dg_take h hr
    · rw [if_neg g] at h ⊢; exact h
  · rw [at_take_ge (by omega), if_neg (by decide)]
    congr 1; omega

/-- the law of truncation -/
theorem num_take {l : List UInt8} {p r : Nat} (h : num l p = some r) : p < r ∧ r ≤ l.length ∧ num (l.take r) p = some r := by
  unfold num at h
  obtain ⟨p3, h3, h4⟩ := Option.bind_eq_some_iff.1 h
  obtain ⟨p2, h2, h3⟩ := Option.bind_eq_some_iff.1 h3
  have g1 := sgn_ge l p
  have g2 := int_some h2
  have g3 := frac_some g2.2 h3
  have g4 := exp_some g3.2 h4
  refine ⟨by omega, by omega, ?_⟩
  have e1 : sgn (l.take r) p = sgn l p := by unfold sgn; rw [at_take_lt (by omega)]
  unfold num
  rw [e1, int_take h2 (by omega)]
  simp only [Option.bind_some]
  rw [frac_take h3 (by omega) (by omega)]
  simp only [Option.bind_some]
  exact exp_take h4 (Nat.le_refl _) (by omega)

theorem end_take {l : List UInt8} {p : Nat} (h : end_ (num l p) ≠ -1) : (p : Int) < end_ (num l p) ∧ end_ (num l p) ≤ l.length ∧ end_ (num (l.take (end_ (num l p)).toNat) p) = end_ (num l p) := by
  cases hn : num l p with
  | none => rw [hn] at h; exact absurd rfl h
  | some r =>
    obtain ⟨h1, h2, h3⟩ := num_take hn
    show (p : Int) < (r : Int) ∧ (r : Int) ≤ l.length ∧ end_ (num (l.take (r : Int).toNat) p) = (r : Int)
    rw [Int.toNat_natCast, h3]
    exact ⟨by omega, by omega, rfl⟩

/-! ### the automaton -/
def step (st c : Nat) : Option Nat :=
  match st with
  | 0 => if c = 45 then some 1 else if c = 48 then some 2 else if dig c then some 3 else none
  | 1 => if c = 48 then some 2 else if dig c then some 3 else none
  | 2 => if c = 46 then some 4 else if c = 101 ∨ c = 69 then some 6 else none
  | 3 => if dig c then some 3 else if c = 46 then some 4 else if c = 101 ∨ c = 69 then some 6 else none
  | 4 => if dig c then some 5 else none
  | 5 => if dig c then some 5 else if c = 101 ∨ c = 69 then some 6 else none
  | 6 => if c = 43 ∨ c = 45 then some 7 else if dig c then some 8 else none
  | 7 => if dig c then some 8 else none
  | 8 => if dig c then some 8 else none
  | _ => none

/-- the automaton on what is left: the state in which it ends, and how many bytes it took -/
def run (st : Nat) : List UInt8 → Nat × Nat
  | [] => (st, 0)
  | c :: l => match step st c.toNat with
    | none => (st, 0)
    | some st' => ((run st' l).1, (run st' l).2 + 1)
def runAt (l : List UInt8) (st p : Nat) : Nat × Nat := ((run st (l.drop p)).1, p + (run st (l.drop p)).2)
def acc (r : Nat × Nat) : Int := if r.1 = 2 ∨ r.1 = 3 ∨ r.1 = 5 ∨ r.1 = 8 then (r.2 : Int) else -1

theorem step_256 (st : Nat) : step st 256 = none := by
  unfold step
  split <;> simp [dig]
theorem runAt_none {l : List UInt8} {st p : Nat} (h : step st (at_ l p) = none) : runAt l st p = (st, p) := by
  unfold runAt
  by_cases hp : p < l.length
  · rw [at_lt hp] at h
    rw [List.drop_eq_getElem_cons hp]
    simp [run, h]
  · rw [List.drop_eq_nil_of_le (by omega)]
    simp [run]
theorem runAt_some {l : List UInt8} {st st' p : Nat} (h : step st (at_ l p) = some st') : runAt l st p = runAt l st' (p + 1) := by
  have hp : p < l.length := at_lt_of (by intro e; rw [e, step_256] at h; cases h)
  rw [at_lt hp] at h
  unfold runAt
  rw [List.drop_eq_getElem_cons hp]
  simp [run, h]
  omega
theorem runAt_digits {l : List UInt8} {st : Nat} (h : ∀ c, dig c = true → step st c = some st) (p : Nat) : runAt l st p = runAt l st (dEnd l p) := by
  refine run_ind (l := l) (fun p => runAt l st p = runAt l st (dEnd l p)) ?_ ?_ p
  · intro p hp; rw [dEnd_no hp]
  · intro p hp ih; rw [runAt_some (h _ hp), dEnd_yes hp, ih]
theorem dig_not {c : Nat} (h : dig c = true) : 48 ≤ c ∧ c ≤ 57 := by simpa [dig] using h

/-- states 7 and 8: digits to the end -/
theorem run8 (l : List UInt8) (p : Nat) : acc (runAt l 8 p) = (dEnd l p : Int) := by
  rw [runAt_digits (st := 8) (fun c h => by simp [step, h]) p, runAt_none (by simp [step, dEnd_stop])]
  simp [acc]
theorem run7 (l : List UInt8) (p st : Nat) (hs : st = 6 ∨ st = 7) (hn : st = 6 → ¬ (at_ l p = 43 ∨ at_ l p = 45)) : acc (runAt l st p) = end_ (dg l p) := by
  cases h : dig (at_ l p) with
  | false =>
    have e : step st (at_ l p) = none := by
      rcases hs with rfl | rfl
      · simp [step, h]; simpa using hn rfl
      · simp [step, h]
    rw [runAt_none e]
    unfold dg
    rw [dEnd_no h, if_neg (by omega)]
    rcases hs with rfl | rfl <;> simp [acc, end_]
  | true =>
    have e : step st (at_ l p) = some 8 := by
      rcases hs with rfl | rfl
      · have := hn rfl; simp [step, h]; simpa using this
      · simp [step, h]
    have hg := dEnd_ge l (p + 1)
    rw [runAt_some e, run8]
    unfold dg
    rw [dEnd_yes h, if_pos (by omega)]
    rfl
theorem run6 (l : List UInt8) (p : Nat) : acc (runAt l 6 p) = end_ (dg l (esg l p)) := by
  unfold esg
  by_cases h : at_ l p = 43 ∨ at_ l p = 45
  · rw [if_pos h, runAt_some (st' := 7) (by simp [step, h]), run7 l (p + 1) 7 (Or.inr rfl) (by omega)]
  · rw [if_neg h, run7 l p 6 (Or.inl rfl) (fun _ => h)]
/-- a number may end here: what is left is an exponent, or nothing -/
theorem runExp (l : List UInt8) (p st : Nat) (hs : st = 2 ∨ st = 3 ∨ st = 5) (hd : st ≠ 2 → dig (at_ l p) = false) (hp : st ≠ 5 → at_ l p ≠ 46) : acc (runAt l st p) = end_ (exp_ l p) := by
  unfold exp_
  by_cases h : at_ l p = 101 ∨ at_ l p = 69
  · have h46 : at_ l p ≠ 46 := by omega
    have hdg : dig (at_ l p) = false := by rcases h with h | h <;> rw [h] <;> decide
    rw [if_pos h, runAt_some (st' := 6) (by rcases hs with rfl | rfl | rfl <;> simp [step, h, h46, hdg]), run6]
  · rw [if_neg h, runAt_none (by rcases hs with rfl | rfl | rfl <;> simp_all [step])]
    rcases hs with rfl | rfl | rfl <;> simp [acc, end_]
theorem run5 (l : List UInt8) (p : Nat) : acc (runAt l 5 p) = end_ (exp_ l (dEnd l p)) := by
  rw [runAt_digits (st := 5) (fun c h => by simp [step, h]) p]
  exact runExp l _ 5 (by omega) (fun _ => dEnd_stop l p) (by omega)
theorem run4 (l : List UInt8) (p : Nat) : acc (runAt l 4 p) = end_ ((dg l p).bind (exp_ l)) := by
  cases h : dig (at_ l p) with
  | false =>
    rw [runAt_none (by simp [step, h])]
    unfold dg
    rw [dEnd_no h, if_neg (by omega)]
    simp [acc, end_]
  | true =>
    have hg := dEnd_ge l (p + 1)
    rw [runAt_some (st' := 5) (by simp [step, h]), run5]
    unfold dg
    rw [dEnd_yes h, if_pos (by omega)]
    rfl
theorem runFrac (l : List UInt8) (p st : Nat) (hs : st = 2 ∨ st = 3) (hd : st ≠ 2 → dig (at_ l p) = false) : acc (runAt l st p) = end_ ((frac l p).bind (exp_ l)) := by
  unfold frac
  by_cases h : at_ l p = 46
  · have hdg : dig (at_ l p) = false := by rw [h]; decide
    rw [if_pos h, runAt_some (st' := 4) (by rcases hs with rfl | rfl <;> simp [step, h, show dig 46 = false from by decide]), run4]
  · rw [if_neg h]
    exact runExp l p st (by omega) hd (fun _ => h)
theorem run3 (l : List UInt8) (p : Nat) : acc (runAt l 3 p) = end_ ((frac l (dEnd l p)).bind (exp_ l)) := by
  rw [runAt_digits (st := 3) (fun c h => by simp [step, h]) p]
  exact runFrac l _ 3 (by omega) (fun _ => dEnd_stop l p)
theorem run1 (l : List UInt8) (p st : Nat) (hs : st = 0 ∨ st = 1) (hn : st = 0 → at_ l p ≠ 45) : acc (runAt l st p) = end_ (((int_ l p).bind (frac l)).bind (exp_ l)) := by
  unfold int_
  by_cases h : at_ l p = 48
  · rw [if_pos h, runAt_some (st' := 2) (by rcases hs with rfl | rfl <;> simp [step, h]), runFrac l _ 2 (by omega) (by omega)]
    rfl
  · rw [if_neg h]
    cases hd : dig (at_ l p) with
    | false =>
      have e : step st (at_ l p) = none := by
        rcases hs with rfl | rfl
        · simp [step, h, hd, hn rfl]
        · simp [step, h, hd]
      rw [runAt_none e]
      unfold dg
      rw [dEnd_no hd, if_neg (by omega)]
      rcases hs with rfl | rfl <;> simp [acc, end_]
    | true =>
      have e : step st (at_ l p) = some 3 := by
        rcases hs with rfl | rfl
        · simp [step, h, hd, hn rfl]
        · simp [step, h, hd]
      have hg := dEnd_ge l (p + 1)
      rw [runAt_some e, run3]
      unfold dg
      rw [dEnd_yes hd, if_pos (by omega)]
      rfl

/-- the law of the automaton -/
theorem auto_num (l : List UInt8) (p : Nat) : end_ (num l p) = acc (runAt l 0 p) := by
  unfold num sgn
  by_cases h : at_ l p = 45
  · rw [if_pos h, runAt_some (st' := 1) (by simp [step, h]), run1 l _ 1 (by omega) (by omega)]
  · rw [if_neg h, run1 l p 0 (by omega) (fun _ => h)]

end Go.Proofs.Qxb6602269a.Num
