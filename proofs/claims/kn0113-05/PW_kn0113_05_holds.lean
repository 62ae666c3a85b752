import PyProof.Rows.All
import Wide.All
import OpenK.AllK
import Wide.FinOn
import PySem.Challenge.RW_kn0113_05

section
set_option maxRecDepth 100000
open PySem PySem.Sre
namespace Mine

def C : Array Nat := #[14, 4, 0, 1, 4294967295, 7, 14, 17, 0, 24, 6, 1, 4294967295, 20, 91, 1, 17, 1, 15, 37, 17, 17, 2, 16, 91, 26, 5, 0, 4294967295, 2, 1, 16, 93, 17, 3, 15, 20, 18, 17, 4, 16, 91, 24, 6, 0, 4294967295, 20, 93, 1, 6, 5, 17, 5, 15, 2, 0, 1]

/-- a state of the machine for this pattern -/
@[reducible] def mk (T : Array Nat) (st pc pos hd : Nat) (om : Bool) (mks : Array (Option Nat)) (lm li : Int) (fr : List Sre.Frame) (wt : Nat) (an : Option Bool) (sn : Seen) (oc : Option Sre.Outcome) : M :=
  { code := C, text := T, lim := T.size, start := st, lastStart := T.size, wholeText := false, mustAdvance := false, pc := pc, pos := pos, handed := hd, outermost := om,
    marks := mks, lastmark := lm, lastindex := li, loops := #[], inner := none, frames := fr, weight := wt, answer := an, seen := sn, outcome := oc }

@[reducible] def fS (q : Nat) (om : Bool) : Sre.Frame := { wait := .nextStart, pc := 5, pos := q, outermost := om }
@[reducible] def fB (pc q : Nat) (om : Bool) : Sre.Frame := { wait := .nextBranch, pc := pc, pos := q, outermost := om }

/-- within some number of steps -/
def Go (b : Nat) (m m' : M) : Prop := ∃ k, k ≤ b ∧ m.runFor k = m'
theorem runFor_add : ∀ (a b : Nat) (m : M), m.runFor (a + b) = (m.runFor a).runFor b
  | 0, b, m => by rw [Nat.zero_add]; rfl
  | a + 1, b, m => by
    rw [Nat.add_right_comm]
    show (if m.outcome.isSome then m else M.runFor (a + b) m.step) = M.runFor b (if m.outcome.isSome then m else M.runFor a m.step)
    by_cases h : m.outcome.isSome = true
    · rw [if_pos h, if_pos h]
      cases b with
      | zero => rfl
      | succ b => show m = if m.outcome.isSome then m else _; rw [if_pos h]
    · rw [if_neg h, if_neg h]; exact runFor_add a b _
theorem Go.refl (b : Nat) (m : M) : Go b m m := ⟨0, Nat.zero_le _, rfl⟩
theorem Go.trans {a b : Nat} {m m' m'' : M} (x : Go a m m') (y : Go b m' m'') : Go (a + b) m m'' := by
  obtain ⟨k, hk, e⟩ := x
  obtain ⟨j, hj, e'⟩ := y
  exact ⟨k + j, Nat.add_le_add hk hj, by rw [runFor_add, e, e']⟩
theorem Go.step {b : Nat} {m m' : M} (ho : m.outcome = none) (y : Go b m.step m') : Go (b + 1) m m' := by
  obtain ⟨k, hk, e⟩ := y
  refine ⟨k + 1, Nat.add_le_add_right hk 1, ?_⟩
  show (if m.outcome.isSome then m else M.runFor k m.step) = m'
  rw [ho]; exact e
theorem Go.le {a b : Nat} {m m' : M} (x : Go a m m') (h : a ≤ b) : Go b m m' := let ⟨k, hk, e⟩ := x; ⟨k, Nat.le_trans hk h, e⟩


def cnt (T : Array Nat) (lit : Nat) : Nat → Nat → Nat
  | 0, _ => 0
  | n + 1, p => if T.getD p 0 = lit then 0 else cnt T lit n (p + 1) + 1
theorem cnt_le (T : Array Nat) (lit : Nat) : ∀ n p, cnt T lit n p ≤ n
  | 0, _ => Nat.le_refl _
  | n + 1, p => by unfold cnt; split; exact Nat.zero_le _; exact Nat.succ_le_succ (cnt_le T lit n (p + 1))
theorem run_nl {T : Array Nat} {i lit : Nat} (h1 : ops[C.getD i 0]? = some .NOT_LITERAL) (h2 : C.getD (i + 1) 0 = lit) (sn : Seen) :
    ∀ n p f, Sre.run C T i n p f sn = .ok (f + cnt T lit n p, sn)
  | 0, p, f => rfl
  | n + 1, p, f => by
    have ha : accepts C i (T.getD p 0) sn = .ok (T.getD p 0 != lit, sn) := by
      unfold accepts; simp only [h1, h2]
    show (do let (yes, seen) ← accepts C i (T.getD p 0) sn; if yes then Sre.run C T i n (p + 1) (f + 1) seen else pure (f, seen)) = _
    rw [ha]
    show (if (T.getD p 0 != lit) = true then Sre.run C T i n (p + 1) (f + 1) sn else pure (f, sn)) = _
    unfold cnt
    by_cases hc : T.getD p 0 = lit
    · rw [if_pos hc, if_neg (by simp [hc])]; rfl
    · rw [if_neg hc, if_pos (bne_iff_ne.mpr hc), run_nl h1 h2 sn n (p + 1) (f + 1)]
      congr 2; omega

section
variable {T : Array Nat} {st pos hd : Nat} {om : Bool} {mks : Array (Option Nat)} {lm li : Int} {fr : List Sre.Frame} {sn : Seen} {a b c d e f : Option Nat}

@[reducible] def kp (lm li : Int) : Sre.Kept := { lastmark := lm, lastindex := li }
@[reducible] def fBr (pc q : Nat) (om : Bool) (lm li : Int) : Sre.Frame := { wait := .nextBranch, pc := pc, pos := q, outermost := om, kept := kp lm li }
@[reducible] def fGB (pc q : Nat) (om : Bool) (n : Int) (lm li : Int) : Sre.Frame := { wait := .giveBack, pc := pc, pos := q, outermost := om, count := n, kept := kp lm li }
@[reducible] def fTM (pc q : Nat) (om : Bool) (n : Int) (lm li : Int) : Sre.Frame := { wait := .takeMore, pc := pc, pos := q, outermost := om, count := n, kept := kp lm li }

theorem s5 : (mk T st 5 pos hd om mks lm li fr 1 none sn none).step = mk T st 7 pos pos om mks lm li (fBr 6 pos om lm li :: fr) 2 none (sn.add 7) none := by with_unfolding_all rfl
theorem s7 : (mk T st 7 pos hd om #[a, b, c, d, e, f] (-1) li fr 2 none sn none).step = mk T st 9 pos hd om #[some pos, b, c, d, e, f] 0 li fr 2 none (sn.add 17) none := by with_unfolding_all rfl
theorem s16 : (mk T st 16 pos hd om #[a, b, c, d, e, f] 0 li fr 3 none sn none).step = mk T st 18 pos hd om #[a, some pos, c, d, e, f] 1 1 fr 3 none (sn.add 17) none := by with_unfolding_all rfl
theorem s18 {wt} : (mk T st 18 pos hd om mks lm li fr wt none sn none).step = mk T st 56 pos hd om mks lm li fr wt none (sn.add 15) none := by with_unfolding_all rfl
theorem s35 {wt} : (mk T st 35 pos hd om mks lm li fr wt none sn none).step = mk T st 56 pos hd om mks lm li fr wt none (sn.add 15) none := by with_unfolding_all rfl
theorem s53 {wt} : (mk T st 53 pos hd om mks lm li fr wt none sn none).step = mk T st 56 pos hd om mks lm li fr wt none (sn.add 15) none := by with_unfolding_all rfl
theorem s56 {wt} : (mk T st 56 pos hd om mks lm li fr wt none sn none).step = mk T st 56 pos pos om mks lm li fr wt (some true) (sn.add 1) none := by cases om <;> with_unfolding_all rfl
theorem s21 : (mk T st 21 pos hd om #[a, b, c, d, e, f] (-1) li fr 2 none sn none).step = mk T st 23 pos hd om #[none, none, some pos, d, e, f] 2 li fr 2 none (sn.add 17) none := by with_unfolding_all rfl
theorem s33 : (mk T st 33 pos hd om #[a, b, c, d, e, f] 2 li fr 3 none sn none).step = mk T st 35 pos hd om #[a, b, c, some pos, e, f] 3 2 fr 3 none (sn.add 17) none := by with_unfolding_all rfl
theorem s38 : (mk T st 38 pos hd om #[a, b, c, d, e, f] (-1) li fr 2 none sn none).step = mk T st 40 pos hd om #[none, none, none, none, some pos, f] 4 li fr 2 none (sn.add 17) none := by with_unfolding_all rfl
theorem s51 : (mk T st 51 pos hd om #[a, b, c, d, e, f] 4 li fr 3 none sn none).step = mk T st 53 pos hd om #[a, b, c, d, e, some pos] 5 3 fr 3 none (sn.add 17) none := by with_unfolding_all rfl

theorem lit_ok {pc nx lit wt : Nat} {x : Seen}
    (e : (mk T st pc pos hd om mks lm li fr wt none sn none).step = (if pos ≥ T.size then mk T st pc pos hd om mks lm li fr wt (some false) x none else
      match (Except.ok (T.getD pos 0 == lit, x) : Except String (Bool × Seen)) with
      | .error why => (mk T st pc pos hd om mks lm li fr wt none x none).stick why
      | .ok (false, seen) => mk T st pc pos hd om mks lm li fr wt (some false) seen none
      | .ok (true, seen) => mk T st nx (pos + 1) hd om mks lm li fr wt none seen none)) :
    (pos < T.size ∧ T.getD pos 0 = lit → (mk T st pc pos hd om mks lm li fr wt none sn none).step = mk T st nx (pos + 1) hd om mks lm li fr wt none x none) ∧
    (¬ (pos < T.size ∧ T.getD pos 0 = lit) → (mk T st pc pos hd om mks lm li fr wt none sn none).step = mk T st pc pos hd om mks lm li fr wt (some false) x none) := by
  constructor
  · rintro ⟨h, hc⟩
    rw [e, if_neg (Nat.not_le.mpr h), hc]
    have : (lit == lit) = true := beq_self_eq_true lit
    rw [this]
  · intro h
    rw [e]
    by_cases hp : pos ≥ T.size
    · rw [if_pos hp]
    · have : (T.getD pos 0 == lit) = false := by
        cases q : T.getD pos 0 == lit with
        | false => rfl
        | true => exact absurd ⟨Nat.not_le.mp hp, eq_of_beq q⟩ h
      rw [if_neg hp, this]
theorem s23 {wt} :
    (pos < T.size ∧ T.getD pos 0 = 91 → (mk T st 23 pos hd om mks lm li fr wt none sn none).step = mk T st 25 (pos + 1) hd om mks lm li fr wt none (sn.add 16) none) ∧
    (¬ (pos < T.size ∧ T.getD pos 0 = 91) → (mk T st 23 pos hd om mks lm li fr wt none sn none).step = mk T st 23 pos hd om mks lm li fr wt (some false) (sn.add 16) none) :=
  lit_ok (by with_unfolding_all rfl)
theorem s31 {wt} :
    (pos < T.size ∧ T.getD pos 0 = 93 → (mk T st 31 pos hd om mks lm li fr wt none sn none).step = mk T st 33 (pos + 1) hd om mks lm li fr wt none (sn.add 16) none) ∧
    (¬ (pos < T.size ∧ T.getD pos 0 = 93) → (mk T st 31 pos hd om mks lm li fr wt none sn none).step = mk T st 31 pos hd om mks lm li fr wt (some false) (sn.add 16) none) :=
  lit_ok (by with_unfolding_all rfl)
theorem s40 {wt} :
    (pos < T.size ∧ T.getD pos 0 = 91 → (mk T st 40 pos hd om mks lm li fr wt none sn none).step = mk T st 42 (pos + 1) hd om mks lm li fr wt none (sn.add 16) none) ∧
    (¬ (pos < T.size ∧ T.getD pos 0 = 91) → (mk T st 40 pos hd om mks lm li fr wt none sn none).step = mk T st 40 pos hd om mks lm li fr wt (some false) (sn.add 16) none) :=
  lit_ok (by with_unfolding_all rfl)

/-- MIN_REPEAT_ONE at 25: nothing taken at first -/
theorem s25 : (mk T st 25 pos hd om mks lm li fr 2 none sn none).step = if (0 : Int) > (T.size : Int) - pos then mk T st 25 pos hd om mks lm li fr 2 (some false) (sn.add 26) none
    else mk T st 31 pos pos om mks lm li (fTM 25 pos om 0 lm li :: fr) 3 none ((sn.add 26).add 2) none := by
  have e : (mk T st 25 pos hd om mks lm li fr 2 none sn none).step = (if ((0 : Nat) : Int) > (T.size : Int) - pos then mk T st 25 pos hd om mks lm li fr 2 (some false) (sn.add 26) none
      else match Sre.run C T 29 (min 0 ((T.size : Int) - pos).toNat) pos 0 ((sn.add 26).add 2) with
      | .error why => (mk T st 25 pos hd om mks lm li fr 2 none (sn.add 26) none).stick why
      | .ok (n, seen) => if n < 0 then mk T st 25 pos hd om mks lm li fr 2 (some false) seen none else
          ({ mk T st 25 pos hd om mks lm li fr 2 none seen none with pos := pos + n } : M).afterRun .takeMore n (kp lm li)) := by with_unfolding_all rfl
  rw [e, Nat.zero_min]
  by_cases h : ((0 : Nat) : Int) > (T.size : Int) - pos
  · rw [if_pos h, if_pos (by simpa using h)]
  · rw [if_neg h, if_neg (by simpa using h)]
    with_unfolding_all rfl

/-- a greedy run of anything but lit -/
theorem rep {pc nx lit least wt : Nat} {x y : Seen} (hw : wt ≤ 10) (hT : T.size ≤ 16777216) (h1 : ops[C.getD (pc + 4) 0]? = some .NOT_LITERAL) (h2 : C.getD (pc + 4 + 1) 0 = lit) (hnx : pc + 1 + C.getD (pc + 1) 0 = nx)
    (e : (mk T st pc pos hd om mks lm li fr wt none sn none).step = (if ((least : Nat) : Int) > (T.size : Int) - pos then mk T st pc pos hd om mks lm li fr wt (some false) x none
      else match Sre.run C T (pc + 4) (min 4294967295 ((T.size : Int) - pos).toNat) pos 0 y with
      | .error why => (mk T st pc pos hd om mks lm li fr wt none x none).stick why
      | .ok (n, seen) => if n < least then mk T st pc pos hd om mks lm li fr wt (some false) seen none else
          ({ mk T st pc pos hd om mks lm li fr wt none seen none with pos := pos + n } : M).afterRun .giveBack n (kp lm li))) :
    (pos ≤ T.size → least ≤ cnt T lit (T.size - pos) pos → (mk T st pc pos hd om mks lm li fr wt none sn none).step =
      mk T st nx (pos + cnt T lit (T.size - pos) pos) (pos + cnt T lit (T.size - pos) pos) om mks lm li (fGB pc (pos + cnt T lit (T.size - pos) pos) om (cnt T lit (T.size - pos) pos) lm li :: fr) (wt + 1) none y none) ∧
    (pos ≤ T.size → cnt T lit (T.size - pos) pos < least → ∃ z, (mk T st pc pos hd om mks lm li fr wt none sn none).step = mk T st pc pos hd om mks lm li fr wt (some false) z none) := by
  have hr : ((T.size : Int) - pos).toNat = T.size - pos := by omega
  have hm : min 4294967295 (T.size - pos) = T.size - pos := by omega
  have hcl := cnt_le T lit (T.size - pos) pos
  constructor
  · intro hp hc
    rw [e, if_neg (by omega), hr, hm, run_nl h1 h2 y, Nat.zero_add]
    dsimp only
    rw [if_neg (Nat.not_lt.mpr hc)]
    show (if wt + 1 + 0 > 16777216 then _ else _) = _
    rw [if_neg (by omega)]
    subst hnx
    rfl
  · intro hp hc
    rw [e]
    by_cases h : ((least : Nat) : Int) > (T.size : Int) - pos
    · exact ⟨_, by rw [if_pos h]⟩
    · rw [if_neg h, hr, hm, run_nl h1 h2 y, Nat.zero_add]
      dsimp only
      rw [if_pos hc]
      exact ⟨_, rfl⟩
theorem s9 (hT : T.size ≤ 16777216) :
    (pos ≤ T.size → 1 ≤ cnt T 91 (T.size - pos) pos → (mk T st 9 pos hd om mks lm li fr 2 none sn none).step =
      mk T st 16 (pos + cnt T 91 (T.size - pos) pos) (pos + cnt T 91 (T.size - pos) pos) om mks lm li (fGB 9 (pos + cnt T 91 (T.size - pos) pos) om (cnt T 91 (T.size - pos) pos) lm li :: fr) 3 none ((sn.add 24).add 20) none) ∧
    (pos ≤ T.size → cnt T 91 (T.size - pos) pos < 1 → ∃ z, (mk T st 9 pos hd om mks lm li fr 2 none sn none).step = mk T st 9 pos hd om mks lm li fr 2 (some false) z none) :=
  rep (x := sn.add 24) (by omega) hT rfl rfl rfl (by with_unfolding_all rfl)
theorem s42 (hT : T.size ≤ 16777216) :
    (pos ≤ T.size → 0 ≤ cnt T 93 (T.size - pos) pos → (mk T st 42 pos hd om mks lm li fr 2 none sn none).step =
      mk T st 49 (pos + cnt T 93 (T.size - pos) pos) (pos + cnt T 93 (T.size - pos) pos) om mks lm li (fGB 42 (pos + cnt T 93 (T.size - pos) pos) om (cnt T 93 (T.size - pos) pos) lm li :: fr) 3 none ((sn.add 24).add 20) none) ∧
    (pos ≤ T.size → cnt T 93 (T.size - pos) pos < 0 → ∃ z, (mk T st 42 pos hd om mks lm li fr 2 none sn none).step = mk T st 42 pos hd om mks lm li fr 2 (some false) z none) :=
  rep (x := sn.add 24) (by omega) hT rfl rfl rfl (by with_unfolding_all rfl)

def atEnd (T : Array Nat) (pos : Nat) : Bool := pos == T.size || (pos + 1 == T.size && T.getD pos 0 == 10)
theorem s49 {wt : Nat} : (mk T st 49 pos hd om mks lm li fr wt none sn none).step = if atEnd T pos then mk T st 51 pos hd om mks lm li fr wt none ((sn.add 6).add (43 + 5)) none else mk T st 49 pos hd om mks lm li fr wt (some false) ((sn.add 6).add (43 + 5)) none := by
  with_unfolding_all rfl

/-! frames that come back -/
theorem up {f : Sre.Frame} {pc wt : Nat} (hf : f.wait = .nextBranch ∨ f.wait = .nextStart ∨ f.wait = .giveBack ∨ f.wait = .takeMore) (hk : f.kept.marks = #[]) :
    (mk T st pc pos hd om mks lm li (f :: fr) (wt + 1) (some true) sn none).step = mk T st f.pc f.pos hd f.outermost mks lm li fr wt (some true) sn none := by
  obtain ⟨wait, fpc, fpos, fom, fcount, fkept, floop, fbegan⟩ := f
  simp only at hf hk
  obtain ⟨q1, q2, q3, q4⟩ := fkept
  simp only at hk
  subst hk
  rcases hf with rfl | rfl | rfl | rfl <;> rfl
theorem up_nil {pc wt : Nat} : (mk T st pc pos hd om mks lm li [] wt (some true) sn none).step = mk T st pc pos hd om mks lm li [] wt (some true) sn (some .matched) := rfl
theorem down_nil {pc wt : Nat} : (mk T st pc pos hd om mks lm li [] wt (some false) sn none).step = mk T st pc pos hd om mks lm li [] wt (some false) sn (some .failed) := rfl
theorem b6 {pc q : Nat} {om' : Bool} {lm' li' : Int} : (mk T st pc pos hd om mks lm li (fBr 6 q om' lm' li' :: fr) 2 (some false) sn none).step = mk T st 21 q q om' mks lm' li' (fBr 20 q om' lm' li' :: fr) 2 none sn none := by with_unfolding_all rfl
theorem b20 {pc q : Nat} {om' : Bool} {lm' li' : Int} : (mk T st pc pos hd om mks lm li (fBr 20 q om' lm' li' :: fr) 2 (some false) sn none).step = mk T st 38 q q om' mks lm' li' (fBr 37 q om' lm' li' :: fr) 2 none sn none := by with_unfolding_all rfl
theorem b37 {pc q : Nat} {om' : Bool} {lm' li' : Int} : (mk T st pc pos hd om mks lm li (fBr 37 q om' lm' li' :: fr) 2 (some false) sn none).step = mk T st 37 q hd om' mks lm' li' fr 1 (some false) sn none := by with_unfolding_all rfl
theorem tm {pc q n : Nat} {om' : Bool} {lm' li' : Int} : (mk T st pc pos hd om mks lm li (fTM 25 q om' n lm' li' :: fr) 3 (some false) sn none).step =
    if q < T.size ∧ T.getD q 0 ≠ 10 then mk T st 31 (q + 1) (q + 1) om' mks lm' li' (fTM 25 (q + 1) om' ((n + 1 : Nat) : Int) lm' li' :: fr) 3 none sn none
    else mk T st 25 q hd om' mks lm' li' fr 2 (some false) sn none := by
  have e : (mk T st pc pos hd om mks lm li (fTM 25 q om' n lm' li' :: fr) 3 (some false) sn none).step =
      (if (n : Int) + 1 > ((4294967295 : Nat) : Int) && false then mk T st 25 q hd om' mks lm' li' fr 2 (some false) sn none else
        if q ≥ T.size then mk T st 25 q hd om' mks lm' li' fr 2 (some false) sn none else
        match (Except.ok (T.getD q 0 != 10, sn) : Except String (Bool × Seen)) with
        | .error why => (mk T st 25 q hd om' mks lm li fr 2 none sn none).stick why
        | .ok (false, seen) => mk T st 25 q hd om' mks lm' li' fr 2 (some false) seen none
        | .ok (true, seen) => mk T st 31 (q + 1) (q + 1) om' mks lm' li' (fTM 25 (q + 1) om' ((n : Int) + 1) lm' li' :: fr) 3 none seen none) := by with_unfolding_all rfl
  rw [e, Bool.and_false, if_neg (by simp)]
  by_cases h : q ≥ T.size
  · rw [if_pos h, if_neg (by omega)]
  · rw [if_neg h]
    by_cases hc : T.getD q 0 = 10
    · rw [if_neg (by simp [hc]), show (T.getD q 0 != 10) = false by simp [hc]]
    · rw [if_pos ⟨by omega, hc⟩, show (T.getD q 0 != 10) = true from bne_iff_ne.mpr hc]
      rfl
theorem gb {pc q n : Nat} {om' : Bool} {lm' li' : Int} : (mk T st pc pos hd om mks lm li (fGB 42 q om' n lm' li' :: fr) 3 (some false) sn none).step =
    if n = 0 then mk T st 42 q hd om' mks lm' li' fr 2 (some false) sn none
    else mk T st 49 (q - 1) (q - 1) om' mks lm' li' (fGB 42 (q - 1) om' ((n - 1 : Nat) : Int) lm' li' :: fr) 3 none sn none := by
  have e : (mk T st pc pos hd om mks lm li (fGB 42 q om' n lm' li' :: fr) 3 (some false) sn none).step =
      (if (n : Int) - 1 < ((0 : Nat) : Int) then mk T st 42 q hd om' mks lm' li' fr 2 (some false) sn none else
        mk T st 49 (q - 1) (q - 1) om' mks lm' li' (fGB 42 (q - 1) om' ((n : Int) - 1) lm' li' :: fr) 3 none sn none) := by with_unfolding_all rfl
  rw [e]
  by_cases h : n = 0
  · rw [if_pos h, if_pos (by omega)]
  · rw [if_neg h, if_neg (by omega), show ((n - 1 : Nat) : Int) = (n : Int) - 1 by omega]
theorem dS {pc q : Nat} {om' : Bool} : (mk T st pc pos hd om mks lm li [fS q om'] 1 (some false) sn none).step =
    if q < T.size then mk T (q + 1) 5 (q + 1) (q + 1) false mks (-1) (-1) [fS (q + 1) false] 1 none sn none else mk T st 5 q hd om' mks lm li [] 0 (some false) sn none := by
  with_unfolding_all rfl
end
end Mine

end

section
set_option maxRecDepth 100000
open PySem PySem.Sre
namespace Mine

inductive Kind | run | set | opn
  deriving DecidableEq

def nlen (lit : Nat) (l : List Nat) : Nat := (l.takeWhile (· != lit)).length
def closeAt : List Nat → Option Nat
  | [] => none
  | c :: l => if c = 93 then some 0 else if c = 10 then none else (closeAt l).map (· + 1)
/-- the next match: what is passed over, its kind, its length -/
def nxt : List Nat → Option (Nat × Kind × Nat)
  | [] => none
  | c :: l => if c ≠ 91 then some (0, .run, nlen 91 l + 1) else
    match closeAt l with
    | some k => some (0, .set, k + 2)
    | none => if 93 ∈ l then (nxt l).map fun x => (x.1 + 1, x.2) else some (0, .opn, l.length + 1)

def suf (T : Array Nat) (q : Nat) : List Nat := T.toList.drop q
theorem suf_nil {T : Array Nat} {q : Nat} (h : suf T q = []) : T.size ≤ q := by
  have := List.drop_eq_nil_iff.mp h
  simpa using this
theorem suf_cons {T : Array Nat} {q c : Nat} {l : List Nat} (h : suf T q = c :: l) : q < T.size ∧ T.getD q 0 = c ∧ suf T (q + 1) = l := by
  have hq : q < T.size := by
    rcases Nat.lt_or_ge q T.size with h' | h'
    · exact h'
    · exfalso
      have : suf T q = [] := List.drop_eq_nil_iff.mpr (by simpa using h')
      rw [this] at h; cases h
  have hq' : q < T.toList.length := by simpa using hq
  have e : T.toList.drop q = T.toList[q] :: T.toList.drop (q + 1) := List.drop_eq_getElem_cons hq'
  have h' : T.toList.drop q = c :: l := h
  rw [e] at h'
  injection h' with h1 h2
  refine ⟨hq, ?_, h2⟩
  rw [← h1]
  simp [hq]
theorem cnt_suf (T : Array Nat) (lit : Nat) : ∀ n q, q + n = T.size → cnt T lit n q = nlen lit (suf T q)
  | 0, q, h => by
    have : suf T q = [] := List.drop_eq_nil_iff.mpr (by simp; omega)
    rw [this]; rfl
  | n + 1, q, h => by
    cases hs : suf T q with
    | nil => have := suf_nil hs; omega
    | cons c l =>
      obtain ⟨h1, h2, h3⟩ := suf_cons hs
      unfold cnt nlen
      rw [h2]
      by_cases hc : c = lit
      · rw [if_pos hc, List.takeWhile_cons, if_neg (by simp [hc])]; rfl
      · rw [if_neg hc, List.takeWhile_cons, if_pos (by simp [hc]), cnt_suf T lit n (q + 1) (by omega), h3]; rfl

section
variable {T : Array Nat} {st : Nat} {fr : List Sre.Frame} {mks : Array (Option Nat)} {lm li : Int}

theorem tmloop : ∀ (l : List Nat) (q hd n : Nat) (om : Bool) (sn : Seen), suf T q = l →
    match closeAt l with
    | some k => ∃ hd' q' n' sn', Go (2 * l.length + 2) (mk T st 31 q hd om mks lm li (fTM 25 q om n lm li :: fr) 3 none sn none) (mk T st 33 (q + k + 1) hd' om mks lm li (fTM 25 q' om ((n' : Nat) : Int) lm li :: fr) 3 none sn' none)
    | none => ∃ hd' q' sn', Go (2 * l.length + 2) (mk T st 31 q hd om mks lm li (fTM 25 q om n lm li :: fr) 3 none sn none) (mk T st 25 q' hd' om mks lm li fr 2 (some false) sn' none)
  | [], q, hd, n, om, sn, hs => by
    have hq := suf_nil hs
    refine ⟨hd, q, sn.add 16, Go.step rfl ?_⟩
    rw [s31.2 (by omega)]
    refine Go.step rfl ?_
    rw [tm, if_neg (by omega)]
    exact Go.refl _ _
  | c :: l, q, hd, n, om, sn, hs => by
    obtain ⟨h1, h2, h3⟩ := suf_cons hs
    unfold closeAt
    by_cases hc : c = 93
    · rw [if_pos hc]
      refine ⟨hd, q, n, sn.add 16, Go.le (Go.step rfl ?_) (b := 2 * (c :: l).length + 2) (a := 0 + 1) (by omega)⟩
      rw [s31.1 ⟨h1, h2.trans hc⟩]
      exact Go.refl _ _
    · rw [if_neg hc]
      by_cases hn : c = 10
      · rw [if_pos hn]
        refine ⟨hd, q, sn.add 16, Go.le (a := 0 + 1 + 1) (Go.step rfl ?_) (by omega)⟩
        rw [s31.2 (by rw [h2]; exact fun x => hc x.2)]
        refine Go.step rfl ?_
        rw [tm, if_neg (by rw [h2]; exact fun x => x.2 hn)]
        exact Go.refl _ _
      · rw [if_neg hn]
        have ih := tmloop l (q + 1) (q + 1) (n + 1) om (sn.add 16) h3
        cases hk : closeAt l with
        | some k =>
          rw [hk] at ih
          obtain ⟨hd', q', n', sn', g⟩ := ih
          refine ⟨hd', q', n', sn', Go.le (a := 2 * l.length + 2 + 1 + 1) (Go.step rfl ?_) (by simp only [List.length_cons]; omega)⟩
          rw [s31.2 (by rw [h2]; exact fun x => hc x.2)]
          refine Go.step rfl ?_
          rw [tm, if_pos ⟨h1, by rw [h2]; exact hn⟩, show q + (k + 1) + 1 = q + 1 + k + 1 by omega]
          exact g
        | none =>
          rw [hk] at ih
          obtain ⟨hd', q', sn', g⟩ := ih
          refine ⟨hd', q', sn', Go.le (a := 2 * l.length + 2 + 1 + 1) (Go.step rfl ?_) (by simp only [List.length_cons]; omega)⟩
          rw [s31.2 (by rw [h2]; exact fun x => hc x.2)]
          refine Go.step rfl ?_
          rw [tm, if_pos ⟨h1, by rw [h2]; exact hn⟩]
          exact g

theorem gbloop {lm' li' : Int} : ∀ (n q hd : Nat) (om : Bool) (sn : Seen) (lm li : Int), n ≤ q → q < T.size → atEnd T q = false →
    ∃ q' hd' sn', Go (2 * n + 2) (mk T st 49 q hd om mks lm li (fGB 42 q om n lm' li' :: fr) 3 none sn none) (mk T st 42 q' hd' om mks lm' li' fr 2 (some false) sn' none)
  | 0, q, hd, om, sn, lm, li, _, hq, ha => by
    refine ⟨q, hd, (sn.add 6).add (43 + 5), Go.step rfl ?_⟩
    rw [s49, ha, if_neg (by simp)]
    refine Go.step rfl ?_
    rw [gb, if_pos rfl]
    exact Go.refl _ _
  | n + 1, q, hd, om, sn, lm, li, hn, hq, ha => by
    have ha' : atEnd T (q - 1) = false := by
      unfold atEnd
      have e1 : (q - 1 == T.size) = false := by simp; omega
      have e2 : (q - 1 + 1 == T.size) = false := by simp; omega
      rw [e1, e2]; rfl
    obtain ⟨q', hd', sn', g⟩ := gbloop n (q - 1) (q - 1) om ((sn.add 6).add (43 + 5)) lm' li' (by omega) (by omega) ha'
    refine ⟨q', hd', sn', Go.le (a := 2 * n + 2 + 1 + 1) (Go.step rfl ?_) (by omega)⟩
    rw [s49, ha, if_neg (by simp)]
    refine Go.step rfl ?_
    rw [gb, if_neg (by omega)]
    exact g

@[reducible] def S0 (T : Array Nat) (q : Nat) (om : Bool) (mks : Array (Option Nat)) (sn : Seen) : M := mk T q 5 q q om mks (-1) (-1) [fS q om] 1 none sn none

/-- what is found, as the machine's last state tells it -/
structure Hit (m : M) (q r : Nat) (lm : Int) (mks : Array (Option Nat)) : Prop where
  out : m.outcome = some .matched
  start : m.start = q
  handed : m.handed = r
  last : m.lastmark = lm
  marks : m.marks = mks

theorem end3 {pos hd : Nat} {om : Bool} {sn : Seen} {f1 f2 f3 : Sre.Frame} (h1 : f1.wait = .giveBack ∨ f1.wait = .takeMore) (k1 : f1.kept.marks = #[]) (h2 : f2.wait = .nextBranch) (k2 : f2.kept.marks = #[]) (h3 : f3.wait = .nextStart) (k3 : f3.kept.marks = #[]) :
    ∃ m, Go 5 (mk T st 56 pos hd om mks lm li [f1, f2, f3] 3 none sn none) m ∧ Hit m st pos lm mks := by
  refine ⟨mk T st f3.pc f3.pos pos f3.outermost mks lm li [] 0 (some true) (sn.add 1) (some .matched), Go.step rfl ?_, ⟨rfl, rfl, rfl, rfl, rfl⟩⟩
  rw [s56]
  refine Go.step rfl ?_
  rw [up (wt := 2) (h1.elim (fun x => .inr (.inr (.inl x))) fun x => .inr (.inr (.inr x))) k1]
  refine Go.step rfl ?_
  rw [up (wt := 1) (.inl h2) k2]
  refine Go.step rfl ?_
  rw [up (wt := 0) (.inr (.inl h3)) k3]
  refine Go.step rfl ?_
  rw [up_nil]
  exact Go.refl _ _

/-- the first alternative -/
theorem alt1 (hT : T.size ≤ 16777216) {q c : Nat} {l : List Nat} {om : Bool} {a b c' d e f : Option Nat} {sn : Seen} (hs : suf T q = c :: l) (hc : c ≠ 91) :
    ∃ m, Go 10 (S0 T q om #[a, b, c', d, e, f] sn) m ∧ Hit m q (q + (nlen 91 l + 1)) 1 #[some q, some (q + (nlen 91 l + 1)), c', d, e, f] := by
  obtain ⟨h1, h2, h3⟩ := suf_cons hs
  have hn : cnt T 91 (T.size - q) q = nlen 91 l + 1 := by
    rw [cnt_suf T 91 _ q (by omega), hs]
    unfold nlen
    rw [List.takeWhile_cons, if_pos (by simp [hc])]; rfl
  obtain ⟨m, g, hm⟩ := end3 (T := T) (st := q) (mks := #[some q, some (q + (nlen 91 l + 1)), c', d, e, f]) (lm := 1) (li := 1) (pos := q + (nlen 91 l + 1)) (hd := q + (nlen 91 l + 1)) (om := om)
    (sn := (((((sn.add 7).add 17).add 24).add 20).add 17).add 15) (f1 := fGB 9 (q + (nlen 91 l + 1)) om ((nlen 91 l + 1 : Nat) : Int) 0 (-1)) (f2 := fBr 6 q om (-1) (-1)) (f3 := fS q om) (.inl rfl) rfl rfl rfl rfl rfl
  refine ⟨m, Go.step rfl ?_, hm⟩
  rw [s5]
  refine Go.step rfl ?_
  rw [s7]
  refine Go.step rfl ?_
  rw [(s9 hT).1 (by omega) (by omega), hn]
  refine Go.step rfl ?_
  rw [s16]
  refine Go.step rfl ?_
  rw [s18]
  exact g

/-- the first alternative fails -/
theorem fail1 (hT : T.size ≤ 16777216) {q : Nat} {om : Bool} {a b c' d e f : Option Nat} {sn : Seen} (hq : q ≤ T.size) (h : q = T.size ∨ T.getD q 0 = 91) :
    ∃ hd sn', Go 5 (S0 T q om #[a, b, c', d, e, f] sn) (mk T q 23 q hd om #[none, none, some q, d, e, f] 2 (-1) [fBr 20 q om (-1) (-1), fS q om] 2 none sn' none) := by
  have hn : cnt T 91 (T.size - q) q < 1 := by
    rcases h with h | h
    · rw [h, Nat.sub_self]; exact Nat.zero_lt_one
    · cases hs : T.size - q with
      | zero => exact Nat.zero_lt_one
      | succ n => unfold cnt; rw [if_pos h]; exact Nat.zero_lt_one
  obtain ⟨z, hz⟩ := (s9 (T := T) (st := q) (pos := q) (hd := q) (om := om) (mks := #[some q, b, c', d, e, f]) (lm := 0) (li := -1) (fr := [fBr 6 q om (-1) (-1), fS q om]) (sn := (sn.add 7).add 17) hT).2 hq hn
  refine ⟨q, z.add 17, Go.step rfl ?_⟩
  rw [s5]
  refine Go.step rfl ?_
  rw [s7]
  refine Go.step rfl ?_
  rw [hz]
  refine Go.step rfl ?_
  rw [b6]
  refine Go.step rfl ?_
  rw [s21]
  exact Go.refl _ _

theorem alt2 (hT : T.size ≤ 16777216) {q k : Nat} {l : List Nat} {om : Bool} {a b c' d e f : Option Nat} {sn : Seen} (hs : suf T q = 91 :: l) (hk : closeAt l = some k) :
    ∃ m, Go (2 * l.length + 20) (S0 T q om #[a, b, c', d, e, f] sn) m ∧ Hit m q (q + (k + 2)) 3 #[none, none, some q, some (q + (k + 2)), e, f] := by
  obtain ⟨h1, h2, h3⟩ := suf_cons hs
  obtain ⟨hd, sn1, g1⟩ := fail1 hT (om := om) (a := a) (b := b) (c' := c') (d := d) (e := e) (f := f) (sn := sn) (Nat.le_of_lt h1) (.inr h2)
  have t := tmloop (T := T) (st := q) (fr := [fBr 20 q om (-1) (-1), fS q om]) (mks := #[none, none, some q, d, e, f]) (lm := 2) (li := -1) l (q + 1) (q + 1) 0 om (((sn1.add 16).add 26).add 2) h3
  rw [hk] at t
  obtain ⟨hd', q', n', sn', g2⟩ := t
  obtain ⟨m, g3, hm⟩ := end3 (T := T) (st := q) (mks := #[none, none, some q, some (q + 1 + k + 1), e, f]) (lm := 3) (li := 2) (pos := q + 1 + k + 1) (hd := hd') (om := om) (sn := (sn'.add 17).add 15)
    (f1 := fTM 25 q' om ((n' : Nat) : Int) 2 (-1)) (f2 := fBr 20 q om (-1) (-1)) (f3 := fS q om) (.inr rfl) rfl rfl rfl rfl rfl
  rw [show q + (k + 2) = q + 1 + k + 1 by omega]
  refine ⟨m, Go.le (a := 5 + ((2 * l.length + 2 + (5 + 1 + 1)) + 1 + 1)) (Go.trans g1 (Go.step rfl ?_)) (by omega), hm⟩
  rw [s23.1 ⟨h1, h2⟩]
  refine Go.step rfl ?_
  rw [s25, if_neg (by omega)]
  refine Go.trans (a := 2 * l.length + 2) (b := 5 + 1 + 1) g2 (Go.step rfl ?_)
  rw [s33]
  refine Go.step rfl ?_
  rw [s35]
  exact g3

/-- the second alternative fails too -/
theorem fail2 (hT : T.size ≤ 16777216) {q : Nat} {l : List Nat} {om : Bool} {a b c' d e f : Option Nat} {sn : Seen} (hs : suf T q = 91 :: l) (hk : closeAt l = none) :
    ∃ hd sn', Go (2 * l.length + 20) (S0 T q om #[a, b, c', d, e, f] sn) (mk T q 42 (q + 1) hd om #[none, none, none, none, some q, f] 4 (-1) [fBr 37 q om (-1) (-1), fS q om] 2 none sn' none) := by
  obtain ⟨h1, h2, h3⟩ := suf_cons hs
  obtain ⟨hd, sn1, g1⟩ := fail1 hT (om := om) (a := a) (b := b) (c' := c') (d := d) (e := e) (f := f) (sn := sn) (Nat.le_of_lt h1) (.inr h2)
  have t := tmloop (T := T) (st := q) (fr := [fBr 20 q om (-1) (-1), fS q om]) (mks := #[none, none, some q, d, e, f]) (lm := 2) (li := -1) l (q + 1) (q + 1) 0 om (((sn1.add 16).add 26).add 2) h3
  rw [hk] at t
  obtain ⟨hd', q', sn', g2⟩ := t
  refine ⟨q, (sn'.add 17).add 16, Go.le (a := 5 + ((2 * l.length + 2 + (0 + 1 + 1 + 1)) + 1 + 1)) (Go.trans g1 (Go.step rfl ?_)) (by omega)⟩
  rw [s23.1 ⟨h1, h2⟩]
  refine Go.step rfl ?_
  rw [s25, if_neg (by omega)]
  refine Go.trans (a := 2 * l.length + 2) (b := 0 + 1 + 1 + 1) g2 (Go.step rfl ?_)
  rw [b20]
  refine Go.step rfl ?_
  rw [s38]
  refine Go.step rfl ?_
  rw [s40.1 ⟨h1, h2⟩]
  exact Go.refl _ _

theorem nlen_not_mem {x : Nat} : ∀ {l : List Nat}, x ∉ l → nlen x l = l.length
  | [], _ => rfl
  | c :: l, h => by
    unfold nlen
    rw [List.takeWhile_cons, if_pos (by simp; rintro rfl; exact h (.head _))]
    exact congrArg (· + 1) (nlen_not_mem fun m => h (.tail _ m))
theorem nlen_mem {x : Nat} : ∀ {l : List Nat}, x ∈ l → nlen x l < l.length ∧ (l.drop (nlen x l)).head? = some x
  | c :: l, h => by
    unfold nlen
    rw [List.takeWhile_cons]
    by_cases hc : c = x
    · rw [if_neg (by simp [hc])]; exact ⟨Nat.succ_pos _, by rw [hc]; rfl⟩
    · rw [if_pos (by simp [hc])]
      have := nlen_mem ((List.mem_cons.mp h).resolve_left fun e => hc e.symm)
      exact ⟨Nat.succ_lt_succ this.1, this.2⟩
theorem suf_len {T : Array Nat} {q : Nat} {l : List Nat} (h : suf T q = l) (hq : q ≤ T.size) : q + l.length = T.size := by
  rw [← h]; unfold suf; rw [List.length_drop]; simp; omega
theorem suf_drop {T : Array Nat} {q n : Nat} {l : List Nat} (h : suf T q = l) : suf T (q + n) = l.drop n := by
  rw [← h]; unfold suf; rw [List.drop_drop]

theorem alt3 (hT : T.size ≤ 16777216) {q : Nat} {l : List Nat} {om : Bool} {a b c' d e f : Option Nat} {sn : Seen} (hs : suf T q = 91 :: l) (hk : closeAt l = none) (hm : 93 ∉ l) :
    ∃ m, Go (2 * l.length + 30) (S0 T q om #[a, b, c', d, e, f] sn) m ∧ Hit m q (q + (l.length + 1)) 5 #[none, none, none, none, some q, some (q + (l.length + 1))] := by
  obtain ⟨h1, h2, h3⟩ := suf_cons hs
  obtain ⟨hd, sn1, g1⟩ := fail2 hT (om := om) (a := a) (b := b) (c' := c') (d := d) (e := e) (f := f) (sn := sn) hs hk
  have hl := suf_len h3 h1
  have hn : cnt T 93 (T.size - (q + 1)) (q + 1) = l.length := by
    rw [cnt_suf T 93 _ (q + 1) (by omega), h3, nlen_not_mem hm]
  have he : q + (l.length + 1) = q + 1 + l.length := by omega
  obtain ⟨m, g3, hh⟩ := end3 (T := T) (st := q) (mks := #[none, none, none, none, some q, some (q + 1 + l.length)]) (lm := 5) (li := 3) (pos := q + 1 + l.length) (hd := q + 1 + l.length) (om := om)
    (sn := ((((((sn1.add 24).add 20).add 6).add (43 + 5)).add 17).add 15)) (f1 := fGB 42 (q + 1 + l.length) om ((l.length : Nat) : Int) 4 (-1)) (f2 := fBr 37 q om (-1) (-1)) (f3 := fS q om) (.inl rfl) rfl rfl rfl rfl rfl
  rw [he]
  refine ⟨m, Go.le (a := 2 * l.length + 20 + (5 + 1 + 1 + 1 + 1)) (Go.trans g1 (Go.step rfl ?_)) (by omega), hh⟩
  rw [(s42 hT).1 (by omega) (Nat.zero_le _), hn]
  refine Go.step rfl ?_
  have ha : atEnd T (q + 1 + l.length) = true := by
    unfold atEnd
    rw [show (q + 1 + l.length == T.size) = true by simp [hl]]; rfl
  rw [s49, ha, if_pos rfl]
  refine Go.step rfl ?_
  rw [s51]
  refine Go.step rfl ?_
  rw [s53]
  exact g3

/-- no alternative serves here: on to the next place -/
theorem skip (hT : T.size ≤ 16777216) {q : Nat} {l : List Nat} {om : Bool} {a b c' d e f : Option Nat} {sn : Seen} (hs : suf T q = 91 :: l) (hk : closeAt l = none) (hm : 93 ∈ l) :
    ∃ sn', Go (4 * l.length + 40) (S0 T q om #[a, b, c', d, e, f] sn) (S0 T (q + 1) false #[none, none, none, none, some q, f] sn') := by
  obtain ⟨h1, h2, h3⟩ := suf_cons hs
  obtain ⟨hd, sn1, g1⟩ := fail2 hT (om := om) (a := a) (b := b) (c' := c') (d := d) (e := e) (f := f) (sn := sn) hs hk
  have hl := suf_len h3 h1
  obtain ⟨hlt, hh⟩ := nlen_mem hm
  have hn : cnt T 93 (T.size - (q + 1)) (q + 1) = nlen 93 l := by rw [cnt_suf T 93 _ (q + 1) (by omega), h3]
  have hr : T.getD (q + 1 + nlen 93 l) 0 = 93 := by
    have hs' : suf T (q + 1 + nlen 93 l) = l.drop (nlen 93 l) := suf_drop h3
    cases hd' : l.drop (nlen 93 l) with
    | nil => rw [hd'] at hh; cases hh
    | cons x y =>
      rw [hd'] at hh hs'
      simp only [List.head?_cons, Option.some.injEq] at hh
      rw [(suf_cons hs').2.1, hh]
  have ha : atEnd T (q + 1 + nlen 93 l) = false := by
    unfold atEnd
    rw [hr, show (q + 1 + nlen 93 l == T.size) = false by simp; omega, show ((93 : Nat) == 10) = false from rfl, Bool.and_false]; rfl
  obtain ⟨q', hd', sn', g2⟩ := gbloop (T := T) (st := q) (fr := [fBr 37 q om (-1) (-1), fS q om]) (mks := #[none, none, none, none, some q, f]) (lm' := 4) (li' := -1) (nlen 93 l) (q + 1 + nlen 93 l) (q + 1 + nlen 93 l) om ((sn1.add 24).add 20) 4 (-1) (by omega) (by omega) ha
  refine ⟨sn', Go.le (a := 2 * l.length + 20 + ((2 * nlen 93 l + 2 + (0 + 1 + 1)) + 1)) (Go.trans g1 (Go.step rfl ?_)) (by omega)⟩
  rw [(s42 hT).1 (by omega) (Nat.zero_le _), hn]
  refine Go.trans (a := 2 * nlen 93 l + 2) (b := 0 + 1 + 1) g2 (Go.step rfl ?_)
  rw [b37]
  refine Go.step rfl ?_
  have dS' : (mk T q 37 q hd' om #[none, none, none, none, some q, f] (-1) (-1) [fS q om] 1 (some false) sn' none).step = _ := dS
  rw [dS', if_pos h1]
  exact Go.refl _ _

theorem atlast (hT : T.size ≤ 16777216) {q : Nat} {om : Bool} {a b c' d e f : Option Nat} {sn : Seen} (hs : suf T q = []) (hq : q ≤ T.size) :
    ∃ m, Go 20 (S0 T q om #[a, b, c', d, e, f] sn) m ∧ m.outcome = some .failed := by
  have h1 := suf_nil hs
  have hqe : q = T.size := by omega
  obtain ⟨hd, sn1, g1⟩ := fail1 hT (om := om) (a := a) (b := b) (c' := c') (d := d) (e := e) (f := f) (sn := sn) hq (.inl hqe)
  refine ⟨mk T q 5 q q om #[none, none, none, none, some q, f] (-1) (-1) [] 0 (some false) (((sn1.add 16).add 17).add 16) (some .failed), Go.le (a := 5 + (0 + 1 + 1 + 1 + 1 + 1 + 1 + 1)) (Go.trans g1 (Go.step rfl ?_)) (by omega), ?_⟩
  · rw [s23.2 (by omega)]
    refine Go.step rfl ?_
    rw [b20]
    refine Go.step rfl ?_
    rw [s38]
    refine Go.step rfl ?_
    rw [s40.2 (by omega)]
    refine Go.step rfl ?_
    rw [b37]
    refine Go.step rfl ?_
    rw [dS, if_neg (by omega)]
    refine Go.step rfl ?_
    rw [down_nil]
    exact Go.refl _ _
  · rfl

def Found (m : M) (q r : Nat) : Kind → Prop
  | .run => ∃ c d e f, Hit m q r 1 #[some q, some r, c, d, e, f]
  | .set => ∃ e f, Hit m q r 3 #[none, none, some q, some r, e, f]
  | .opn => Hit m q r 5 #[none, none, none, none, some q, some r]

def cost (n : Nat) : Nat := (n + 1) * (4 * n + 40)

theorem search (hT : T.size ≤ 16777216) : ∀ (l : List Nat) (q : Nat) (om : Bool) (a b c d e f : Option Nat) (sn : Seen), suf T q = l → q ≤ T.size →
    ∃ m, Go (cost l.length) (S0 T q om #[a, b, c, d, e, f] sn) m ∧
      match nxt l with
      | none => m.outcome = some .failed
      | some (s, k, n) => Found m (q + s) (q + s + n) k
  | [], q, om, a, b, c, d, e, f, sn, hs, hq => by
    obtain ⟨m, g, hm⟩ := atlast hT (om := om) (a := a) (b := b) (c' := c) (d := d) (e := e) (f := f) (sn := sn) hs hq
    exact ⟨m, g.le (by show 20 ≤ (0 + 1) * (4 * 0 + 40); omega), hm⟩
  | x :: l, q, om, a, b, c, d, e, f, sn, hs, hq => by
    have hb : cost l.length + (4 * l.length + 40) ≤ cost (x :: l).length := by
      unfold cost
      simp only [List.length_cons]
      have : (l.length + 1 + 1) * (4 * (l.length + 1) + 40) = (l.length + 1) * (4 * (l.length + 1) + 40) + (4 * (l.length + 1) + 40) := by rw [Nat.succ_mul]
      have h2 : (l.length + 1) * (4 * l.length + 40) ≤ (l.length + 1) * (4 * (l.length + 1) + 40) := Nat.mul_le_mul_left _ (by omega)
      omega
    unfold nxt
    by_cases hx : x ≠ 91
    · rw [if_pos hx]
      obtain ⟨m, g, hm⟩ := alt1 hT (om := om) (a := a) (b := b) (c' := c) (d := d) (e := e) (f := f) (sn := sn) hs hx
      exact ⟨m, g.le (by omega), by simpa [Found] using ⟨_, _, _, _, hm⟩⟩
    · rw [if_neg hx]
      have hx : x = 91 := Decidable.of_not_not hx
      subst hx
      cases hk : closeAt l with
      | some k =>
        obtain ⟨m, g, hm⟩ := alt2 hT (om := om) (a := a) (b := b) (c' := c) (d := d) (e := e) (f := f) (sn := sn) hs hk
        exact ⟨m, g.le (by omega), by simpa [Found] using ⟨_, _, hm⟩⟩
      | none =>
        dsimp only
        by_cases hm : 93 ∈ l
        · rw [if_pos hm]
          obtain ⟨h1, h2, h3⟩ := suf_cons hs
          obtain ⟨sn', g1⟩ := skip hT (om := om) (a := a) (b := b) (c' := c) (d := d) (e := e) (f := f) (sn := sn) hs hk hm
          obtain ⟨m, g2, hh⟩ := search hT l (q + 1) false none none none none (some q) f sn' h3 h1
          refine ⟨m, (Go.trans g1 g2).le (by omega), ?_⟩
          cases hf : nxt l with
          | none => rw [hf] at hh; exact hh
          | some r =>
            obtain ⟨s, k, n⟩ := r
            rw [hf] at hh
            show Found m (q + (s + 1)) (q + (s + 1) + n) k
            rw [show q + (s + 1) = q + 1 + s by omega]; exact hh
        · rw [if_neg hm]
          obtain ⟨m, g, hh⟩ := alt3 hT (om := om) (a := a) (b := b) (c' := c) (d := d) (e := e) (f := f) (sn := sn) hs hk hm
          exact ⟨m, g.le (by omega), by simpa [Found] using hh⟩
end
end Mine

end

section
open PySem PySem.W PyProof.Rows
set_option Elab.async false
set_option maxRecDepth 100000
namespace Mine

/-! Part A: a model whose answer to «gc.ask 13» is False; its runs are the scheduler's runs on a state that is asleep. -/

def isAsk : Code → Bool
  | .builtin id ⟨[.int 13 0], []⟩ => id == "gc.ask"
  | _ => false

def den' (c : Code) : Sem Fin := if isAsk c then ret (.bool false) else denote table c

theorem isAsk_eq {c : Code} (h : isAsk c = true) : c = .builtin "gc.ask" ⟨[.int 13 0], []⟩ := by
  unfold isAsk at h
  split at h
  · rw [beq_iff_eq.mp h]
  · cases h

theorem den'_of {c : Code} (h : isAsk c = false) : den' c = denote table c := by unfold den'; rw [h]; rfl
theorem den'_ask {c : Code} (h : isAsk c = true) : den' c = ret (.bool false) := by unfold den'; rw [h]; rfl

theorem entry_ask : entryFor table "gc.ask" = some Builtin.«gc.ask» := entryFor_of_tree (by kernel_rfl)
abbrev askCode : Code := .builtin "lifetime.ask" ⟨[.int 13 0], []⟩
theorem den_builtin {T : String → Option Builtin} {id : String} {args : Args} {b : Builtin} (h : entryFor T id = some b) : denote T (.builtin id args) = b args := by
  show (match entryFor T id with
    | some b => b args
    | none => unsupported ((withoutEnding? id "#data").getD id)) = _
  rw [h]
theorem gives_ask (args : Args) : Builtin.«gc.ask» args = .pure (.again (.builtin "lifetime.ask" args)) := rfl
theorem den_ask {c : Code} (h : isAsk c = true) : denote table c = .pure (.again askCode) := by
  rw [isAsk_eq h]
  exact (den_builtin entry_ask).trans (gives_ask _)

abbrev M' (prog : Program) (w : World) : Model := ⟨den', prog, w⟩

section
variable (prog : Program) (w : World)

theorem sstep_ask (s : Shared) (code : Code) (pos : Pos) (stack : List Frame) (hz : s.asleep) :
    sstep (denote table) prog w (.single s ⟨.pure (.again askCode), code, pos, stack⟩) = .go (.single s ⟨ret (.bool false), code, pos, stack⟩) := by
  obtain ⟨hr, hc⟩ := hz
  have h1 : (Config.single s ⟨.pure (.again askCode), code, pos, stack⟩).collect? w.params = none := by
    simp [Config.collect?, Config.single, (nothing_to_collect _ _ _ s _ hr).1]
  have h2 : (Config.single s ⟨.pure (.again askCode), code, pos, stack⟩).collectable = [] := by
    simp [Config.collectable, Config.single, (nothing_to_collect w.params _ _ s _ hr).2]
  have hm : ∀ pr, (Config.single s ⟨.pure (.again askCode), code, pos, stack⟩).moves pr = [.run 0] := fun pr => by
    simp [Config.moves, Config.single, movesFrom, Thread.moves, Thread.atomic, Thread.rests, Thread.tells]
  have hp : (Config.single s ⟨.pure (.again askCode), code, pos, stack⟩).pick w = .ok (.run 0, .single s ⟨.pure (.again askCode), code, pos, stack⟩) := by
    simp only [Config.pick, h1, h2, Config.pickThread, hm]
    cases w.params.lifetimes <;> simp
  have hw : s.watching = false := by simp [Shared.watching, hr]
  have hct : collectorTurn? w.params [] s ⟨.pure (.again askCode), code, pos, stack⟩ = some (s, ⟨ret (.bool false), code, pos, stack⟩) := by
    simp [collectorTurn?, askTurn, hw]
  have hs : Thread.special ⟨.pure (.again askCode), code, pos, stack⟩ = true := by
    simp [Thread.special, Thread.atCollectorCode]
  have hl : lifeStep (denote table) prog w [] s ⟨.pure (.again askCode), code, pos, stack⟩ = .go s ⟨ret (.bool false), code, pos, stack⟩ := by
    simp only [lifeStep, hs, if_true, hct, hc, Bool.false_and, Bool.false_eq_true, if_false]
  simp only [sstep, hp, Config.move]
  simp [Config.run, Config.single, others_single, hl, Thread.finalizes, hs]

/-- one step of the real machine follows a step of M', with an ask between at most -/
theorem step_follow (s s₁ : Shared) (t t₁ : Thread) (h : step den' prog w s t = .go s₁ t₁) :
    step (denote table) prog w s t = .go s₁ t₁ ∨
      (step (denote table) prog w s t = .go s₁ ⟨.pure (.again askCode), t₁.code, t₁.pos, t₁.stack⟩ ∧ t₁.cur = ret (.bool false)) := by
  obtain ⟨heap, gens, drawn, toks, os⟩ := s
  obtain ⟨cur, code, pos, stack⟩ := t
  cases cur with
  | pure fin =>
    cases fin with
    | done f => exact .inl h
    | again c =>
      cases ha : isAsk c with
      | false => simp only [step, den'_of ha] at h; exact .inl (by simp only [step]; exact h)
      | true =>
        simp only [step, den'_ask ha] at h
        cases h
        exact .inr ⟨by simp only [step, den_ask ha], rfl⟩
  | call c hd g l k =>
    cases ha : isAsk c with
    | false => simp only [step, den'_of ha] at h; exact .inl (by simp only [step]; exact h)
    | true =>
      simp only [step, den'_ask ha] at h
      cases h
      exact .inr ⟨by simp only [step, den_ask ha], rfl⟩
  | resume g r l k =>
    cases hg : gens[g]? with
    | none => simp only [step, hg] at h; cases h
    | some gs =>
      cases gs with
      | fresh c =>
        cases r with
        | throw e => simp only [step, hg] at h; exact .inl (by simp only [step, hg]; exact h)
        | send v =>
          cases v <;> simp only [step, hg] at h <;> first
            | exact .inl (by simp only [step, hg]; exact h)
            | (cases ha : isAsk c with
               | false => rw [den'_of ha] at h; exact .inl (by simp only [step, hg]; exact h)
               | true =>
                 rw [den'_ask ha] at h
                 cases h
                 exact .inr ⟨by simp only [step, hg, den_ask ha], rfl⟩)
      | suspended => simp only [step, hg] at h; exact .inl (by simp only [step, hg]; exact h)
      | running => simp only [step, hg] at h; exact .inl (by simp only [step, hg]; exact h)
      | finished => simp only [step, hg] at h; exact .inl (by simp only [step, hg]; exact h)
  | _ => exact .inl h

theorem step_follow_halt (s s₁ : Shared) (t : Thread) (o : Outcome) (h : step den' prog w s t = .halt o s₁) :
    step (denote table) prog w s t = .halt o s₁ := by
  obtain ⟨heap, gens, drawn, toks, os⟩ := s
  obtain ⟨cur, code, pos, stack⟩ := t
  cases cur with
  | pure fin =>
    cases fin with
    | done f => exact h
    | again c => simp only [step] at h; cases h
  | call c hd g l k => simp only [step] at h; cases h
  | resume g r l k =>
    cases hg : gens[g]? with
    | none => simp only [step, hg] at h ⊢; exact h
    | some gs =>
      cases gs with
      | fresh c => cases r with
        | throw e => simp only [step, hg] at h; cases h
        | send v => cases v <;> simp only [step, hg] at h <;> cases h
      | _ => simp only [step, hg] at h; cases h
  | _ => exact h

theorem sched_follow : ∀ (n : Nat) (s : Shared) (t : Thread) (o : Outcome) (s' : Shared), s.asleep → runN den' prog w n s t = .halted o s' → o.ends = true →
    (∀ k s₁ t₁, runN den' prog w k s t = .running s₁ t₁ → t₁.calm = true) →
    ∃ n', schedN (denote table) prog w n' (.single s t) = .halted o s'
  | 0, s, t, o, s', _, h, _, _ => by cases h
  | n + 1, s, t, o, s', hz, h, ho, hc => by
    have hcalm : t.calm = true := hc 0 s t rfl
    simp only [runN] at h
    cases hs : step den' prog w s t with
    | halt o₁ s₁ =>
      simp only [hs] at h
      cases h
      have e := step_follow_halt prog w _ _ _ _ hs
      refine ⟨1, ?_⟩
      rcases sstep_single (denote table) prog w s t hcalm hz with q | q
      · simp only [schedN, q, e, Step.lift]
      · rw [e] at q; cases q; cases ho
    | go s₁ t₁ =>
      simp only [hs] at h
      have hz₁ : s₁.asleep := by simp only [Shared.asleep, step_life den' prog w s s₁ t t₁ hs]; exact hz
      obtain ⟨n', hn'⟩ := sched_follow n s₁ t₁ o s' hz₁ h ho fun k s₂ t₂ hk => hc (k + 1) s₂ t₂ (by simp only [runN, hs]; exact hk)
      rcases step_follow prog w s s₁ t t₁ hs with e | ⟨e, ec⟩
      · refine ⟨n' + 1, ?_⟩
        rcases sstep_single (denote table) prog w s t hcalm hz with q | q
        · simp only [schedN, q, e, Step.lift]; exact hn'
        · rw [e] at q; cases q
      · refine ⟨n' + 1 + 1, ?_⟩
        rcases sstep_single (denote table) prog w s t hcalm hz with q | q
        · simp only [schedN, q, e, Step.lift, sstep_ask prog w s₁ _ _ _ hz₁]
          obtain ⟨cur₁, code₁, pos₁, stack₁⟩ := t₁
          simp only at ec; subst ec
          exact hn'
        · rw [e] at q; cases q

abbrev Γ₀ : Ctx := ⟨.builtin "claim.caller" {}, none, none, [], none⟩

theorem thread_ends' {t : Sem Fin} {s : Shared} {R : Result → Shared → Prop} (hz : s.asleep)
    (h : Sem.wp (M' prog w) Γ₀ t (fun fin _ s' => ∃ f, fin = .done f ∧ (R (.ok f) s' ∧ leftWithCleanup s'.gens = false)) (fun e _ s' => R (.error e) s' ∧ leftWithCleanup s'.gens = false) default s) :
    ∃ n r s' s'', schedN (denote table) prog w n (.single s ⟨t, .builtin "claim.caller" {}, default, []⟩) = .halted (outcomeOf r) s' ∧
      s'.heap.life = s.heap.life ∧ s'.forget = s''.forget ∧ R r s'' := by
  have h' := Sem.wp_mono (M' prog w) Γ₀ t (post' := Sem.finPost (M' prog w) Γ₀ fun r s' => R r s' ∧ leftWithCleanup s'.gens = false) (fun fin p' s' x => by obtain ⟨f, rfl, y⟩ := x; exact y) (fun _ _ _ x => x) _ _ h
  obtain ⟨n, r, s', hn, hR⟩ := (wp_iff_halts t R default s).mp h'
  obtain ⟨s'', hr, hf, hc⟩ := runNI_real den' prog w hn (outcomeOf_ends r)
  obtain ⟨n', hn'⟩ := sched_follow prog w n s _ _ s'' hz hr (outcomeOf_ends r) hc
  exact ⟨n', r, s'', s', hn', runN_life den' prog w hr, hf, hR⟩
end

/-- what the library proves of the given model holds of M' -/
theorem quiet_ask : Code.quiet askCode = false := by decide +kernel

theorem runs_lift {prog : Program} {w : World} {Γ : Ctx} {p : Pos} {t : Sem Fin} {fs : List Frame} {s s' : Shared} {e : End}
    (h : Runs (model prog w) Γ p t fs s e s') : Runs (M' prog w) Γ p t fs s e s' ∧ t ≠ .pure (.again askCode) := by
  have key : ∀ {Γ p c s e s'}, (Runs (M' prog w) Γ p ((model prog w).den c) [] s e s' ∧ (model prog w).den c ≠ .pure (.again askCode)) → Runs (M' prog w) Γ p ((M' prog w).den c) [] s e s' := by
    intro Γ p c s e s' ⟨h, hn⟩
    have : den' c = denote table c := by
      cases ha : isAsk c with
      | false => exact den'_of ha
      | true => exact absurd (den_ask ha) hn
    show Runs (M' prog w) Γ p (den' c) [] s e s'
    rw [this]; exact h
  induction h with
  | done => exact ⟨.done, nofun⟩
  | raise => exact ⟨.raise, nofun⟩
  | again hq _ ih => exact ⟨.again hq (key ih), fun q => by cases q; rw [quiet_ask] at hq; cases hq⟩
  | rule _ ih => exact ⟨.rule ih.1, nofun⟩
  | «at» _ ih => exact ⟨.at ih.1, nofun⟩
  | load ho _ ih => exact ⟨.load ho ih.1, nofun⟩
  | update ho _ ih => exact ⟨.update ho ih.1, nofun⟩
  | loadIfAlive _ ih => exact ⟨.loadIfAlive ih.1, nofun⟩
  | point _ ih => exact ⟨.point ih.1, nofun⟩
  | alloc _ ih => exact ⟨.alloc ih.1, nofun⟩
  | fresh _ ih => exact ⟨.fresh ih.1, nofun⟩
  | ask _ ih => exact ⟨.ask ih.1, nofun⟩
  | choose hn _ ih => exact ⟨.choose hn ih.1, nofun⟩
  | os _ ih => exact ⟨.os ih.1, nofun⟩
  | handled _ ih => exact ⟨.handled ih.1, nofun⟩
  | genState hg _ ih => exact ⟨.genState hg ih.1, nofun⟩
  | stack _ ih => exact ⟨.stack ih.1, nofun⟩
  | thread _ ih => exact ⟨.thread ih.1, nofun⟩
  | newGen _ ih => exact ⟨.newGen ih.1, nofun⟩
  | call _ _ ih1 ih2 => exact ⟨.call (key ih1) ih2.1, nofun⟩
  | callSusp _ ih => exact ⟨.callSusp (key ih), nofun⟩
  | yield => exact ⟨.yield, nofun⟩
  | resumeFresh hg _ hq _ ih1 ih2 => exact ⟨.resumeFresh hg (key ih1) hq ih2.1, nofun⟩
  | resumeSuspended hg _ hq _ ih1 ih2 => exact ⟨.resumeSuspended hg ih1.1 hq ih2.1, nofun⟩
  | resumeJustStarted hg hv _ ih => exact ⟨.resumeJustStarted hg hv ih.1, nofun⟩
  | resumeThrowFresh hg _ ih => exact ⟨.resumeThrowFresh hg ih.1, nofun⟩
  | resumeRunning hg _ ih => exact ⟨.resumeRunning hg ih.1, nofun⟩
  | resumeFinished hg _ ih => exact ⟨.resumeFinished hg ih.1, nofun⟩
  | segRet _ _ ih1 ih2 => exact ⟨.segRet ih1.1 ih2.1, ih1.2⟩
  | segGen _ _ ih1 ih2 => exact ⟨.segGen ih1.1 ih2.1, ih1.2⟩
  | segSuspOut hs _ ih => exact ⟨.segSuspOut hs ih.1, ih.2⟩
  | segSuspGen hs _ hq _ ih1 ih2 => exact ⟨.segSuspGen hs ih1.1 hq ih2.1, ih1.2⟩

theorem wpCode_lift {prog : Program} {w : World} {Γ : Ctx} {R : Result → Shared → Prop} {p : Pos} {s : Shared}
    (h : wpCode (model prog w) Γ R p s) : wpCode (M' prog w) Γ R p s := by
  obtain ⟨r, s', hr, hR⟩ := h
  refine ⟨r, s', ?_, hR⟩
  obtain ⟨a, b⟩ := runs_lift hr
  have : den' Γ.code = denote table Γ.code := by
    cases ha : isAsk Γ.code with
    | false => exact den'_of ha
    | true => exact absurd (den_ask ha) b
  show Runs (M' prog w) Γ p (den' Γ.code) [] s (.ret r) s'
  rw [this]; exact a

theorem wp_lift {prog : Program} {w : World} {Γ : Ctx} {α : Type} {t : Sem α} {Q : α → Pos → Shared → Prop} {E : Value → Pos → Shared → Prop} {p : Pos} {s : Shared}
    (h : Sem.wp (model prog w) Γ t Q E p s) : Sem.wp (M' prog w) Γ t Q E p s := by
  induction t generalizing p s with
  | pure | raise => exact h
  | unsupported | finish | yield | fork | await | register => exact h
  | rule _ k ih | «at» _ k ih | alloc _ k ih | loadIfAlive _ k ih | point _ k ih | fresh k ih | ask k ih | os _ _ k ih | handled _ k ih | newGen _ k ih | stack k ih | thread k ih => exact ih _ h
  | load a _ k ih | genState a k ih => obtain ⟨o, ho, h⟩ := h; exact ⟨o, ho, ih _ h⟩
  | update a _ f k ih | choose _ _ k ih => exact ⟨h.1, ih _ h.2⟩
  | call c hd g l k ih =>
    rw [Sem.wp_call] at h ⊢
    exact wpCode_mono (fun r s' x => ih r x) (wpCode_lift h)
  | resume g r l k ih =>
    obtain ⟨res, s', hw, h⟩ := h
    refine ⟨res, s', ?_, ih _ h⟩
    unfold Wakes at hw ⊢
    split at hw
    · exact hw
    · rename_i c hg
      split at hw
      · obtain ⟨e₁, s₁, hr, rest⟩ := hw
        refine ⟨e₁, s₁, ?_, rest⟩
        obtain ⟨a, b⟩ := runs_lift hr
        have : den' c = denote table c := by
          cases ha : isAsk c with
          | false => exact den'_of ha
          | true => exact absurd (den_ask ha) b
        show Runs (M' prog w) _ p (den' c) [] _ e₁ s₁
        rw [this]; exact a
      · exact hw
      · exact hw
    · obtain ⟨e₁, s₁, hr, rest⟩ := hw
      exact ⟨e₁, s₁, (runs_lift hr).1, rest⟩
    · exact hw
    · exact hw
end Mine

end

section
open PySem PySem.W PyProof.Rows
set_option Elab.async false
set_option maxRecDepth 100000
namespace Mine
open Sem (wp)

def isNext : Code → Bool
  | .builtin id _ => id == "callable_iterator.__next__"
  | _ => false

def CleanB (Γ : Ctx) : Prop := ∀ x ∈ Γ.below, isNext x.1 = false
def Clean (Γ : Ctx) : Prop := isNext Γ.code = false ∧ CleanB Γ

/-- the library's wpAny, of contexts without a `next` under way -/
def wpC {α : Type} (M : Model) (A : Around) (t : Sem α) (Q : α → Shared → Prop) (E : Value → Shared → Prop) (s : Shared) : Prop :=
  ∀ Γ p, Γ.In A → Clean Γ → wp M Γ t (fun a _ s' => Q a s') (fun e _ s' => E e s') p s

def codeC (M : Model) (A : Around) (c : Code) (R : Result → Shared → Prop) (s : Shared) : Prop :=
  ∀ Γ p, Γ.code = c → Γ.Below A → CleanB Γ → wpCode M Γ R p s

theorem clean₀ : Clean Γ₀ := ⟨by decide +kernel, fun _ h => nomatch h⟩

section
variable {α β : Type} {prog : Program} {w : World} {A : Around} {E : Value → Shared → Prop} {s : Shared}

theorem wpC_lift {t : Sem α} {Q : α → Shared → Prop} (h : wpAny (model prog w) A t Q E s) : wpC (M' prog w) A t Q E s :=
  fun Γ p hΓ _ => wp_lift (h Γ p hΓ)
end

section
variable {α β : Type} {M : Model} {A : Around} {E : Value → Shared → Prop} {s : Shared}

theorem wpC_any {t : Sem α} {Q : α → Shared → Prop} (h : wpAny M A t Q E s) : wpC M A t Q E s := fun Γ p hΓ _ => h Γ p hΓ
theorem wpC_pure {a : α} {Q : α → Shared → Prop} (h : Q a s) : wpC M A (pure a) Q E s := fun _ _ _ _ => h
theorem wpC_mono {t : Sem α} {Q Q' : α → Shared → Prop} {E' : Value → Shared → Prop} (h : wpC M A t Q E s)
    (hQ : ∀ a s, Q a s → Q' a s) (hE : ∀ e s, E e s → E' e s) : wpC M A t Q' E' s :=
  fun Γ p hΓ hc => Sem.wp_mono M Γ t (fun a _ s => hQ a s) (fun e _ s => hE e s) p s (h Γ p hΓ hc)
theorem wpC_bind {m : Sem α} {f : α → Sem β} {Q : β → Shared → Prop} (h : wpC M A m (fun a s' => wpC M A (f a) Q E s') E s) :
    wpC M A (m >>= f) Q E s := fun Γ p hΓ hc => by
  rw [Sem.wp_bind']
  exact Sem.wp_mono M Γ m (fun a p' s' h' => h' Γ p' hΓ hc) (fun _ _ _ h' => h') p s (h Γ p hΓ hc)
theorem wpC_onRaise {m : Sem α} {k : Value → Sem Unit} {Q : α → Shared → Prop} (h : wpC M A m Q (fun _ _ => False) s) : wpC M A (m.onRaise k) Q E s :=
  fun Γ p hΓ hc => by
    rw [Sem.wp_onRaise]
    exact Sem.wp_mono M Γ m (fun _ _ _ x => x) (fun _ _ _ x => x.elim) p s (h Γ p hΓ hc)
theorem wpC_attempt {m : Sem α} {Q : Except Value α → Shared → Prop} (h : wpC M A m (fun a => Q (.ok a)) (fun _ _ => False) s) : wpC M A m.attempt Q E s :=
  fun Γ p hΓ hc => by
    rw [Sem.wp_attempt]
    exact Sem.wp_mono M Γ m (fun _ _ _ x => x) (fun _ _ _ x => x.elim) p s (h Γ p hΓ hc)
theorem wpC_attempt' {m : Sem α} {Q : Except Value α → Shared → Prop} (h : wpC M A m (fun a => Q (.ok a)) (fun e => Q (.error e)) s) : wpC M A m.attempt Q E s :=
  fun Γ p hΓ hc => by rw [Sem.wp_attempt]; exact h Γ p hΓ hc
theorem wpC_holding {vs : List Value} {m : Sem α} {Q : α → Shared → Prop} (h : wpC M A m Q E s) : wpC M A (holding vs m) Q E s :=
  fun Γ p hΓ hc => by rw [Sem.wp_holding]; exact h Γ p hΓ hc
theorem wpC_keep {vs : List Value} {m : Sem α} {Q : α → Shared → Prop} (h : wpC M A m Q E s) : wpC M A (m.keep vs) Q E s :=
  fun Γ p hΓ hc => by rw [Sem.wp_keep]; exact h Γ p hΓ hc

theorem Clean.enter {Γ : Ctx} (h : Clean Γ) (c : Code) (hd : Option Value) (p : Pos) : CleanB (Γ.enter c hd p) := fun x hx => by
  rcases List.mem_cons.mp hx with rfl | hx
  · exact h.1
  · exact h.2 x hx

theorem wpC_run {c : Code} {h : Option Value} {Q : Flow → Shared → Prop}
    (hc : codeC M (A.mark h) c (fun r s' => match r with | .ok f => Q f s' | .error e => E e s') s) (hnb : h ≠ some byPass := by intro x; cases x) :
    wpC M A (run c h) Q E s :=
  fun Γ p hΓ hcl => by rw [Sem.wp_run]; exact hc _ p rfl (hΓ.enter c h p hnb) (hcl.enter c h p)
theorem wpC_runValue {c : Code} {Q : Value → Shared → Prop}
    (hc : codeC M A c (fun r s' => match r with | .ok (.ret v) => Q v s' | .ok _ => False | .error e => E e s') s) :
    wpC M A (runValue c) Q E s := fun Γ p hΓ hcl => by rw [Sem.wp_runValue]; exact hc _ p rfl (hΓ.enter c none p (by intro x; cases x)) (hcl.enter c none p)
theorem wpC_call {f : Value} {pos : List Value} {kw : List (Str × Value)} {Q : Value → Shared → Prop}
    (hc : codeC M A (.call f ⟨pos, kw⟩) (fun r s' => match r with | .ok (.ret v) => Q v s' | .ok _ => False | .error e => E e s') s) :
    wpC M A (call f pos kw) Q E s := wpC_runValue hc
theorem codeC_mono {c : Code} {R R' : Result → Shared → Prop} (h : codeC M A c R s) (hR : ∀ r s, R r s → R' r s) : codeC M A c R' s :=
  fun Γ p hc hΓ hcl => wpCode_mono hR (h Γ p hc hΓ hcl)
theorem codeC_of_tree {c : Code} {R : Result → Shared → Prop} (hn : isNext c = false)
    (h : wpC M (A.under c) (M.den c) (fun fin s' => match fin with | .done f => R (.ok f) s' | .again c' => c'.quiet = true ∧ codeC M A c' R s')
      (fun e s' => R (.error e) s') s) : codeC M A c R s := fun Γ p hc hΓ hcl => by
  rw [wpCode_iff_wp, hc]
  refine Sem.wp_mono M Γ _ (fun fin p' s' h' => ?_) (fun _ _ _ h' => h') p s (h Γ p (hc ▸ hΓ.in) ⟨hc ▸ hn, hcl⟩)
  cases fin with
  | done f => exact h'
  | again c' => exact ⟨h'.1, h'.2 (Γ.goto c') p' rfl (hΓ.goto c') hcl⟩
theorem codeC_loop {c : Code} {R : Result → Shared → Prop} (hn : isNext c = false) (hq : c.quiet = true) (I : Nat → Shared → Prop)
    (turn : ∀ n s, I n s → wpC M (A.under c) (M.den c)
      (fun fin s' => match fin with | .done f => R (.ok f) s' | .again c' => (c' = c ∧ ∃ m, m < n ∧ I m s') ∨ (c'.quiet = true ∧ codeC M A c' R s')) (fun e s' => R (.error e) s') s)
    (n : Nat) (h : I n s) : codeC M A c R s := by
  induction n using Nat.strongRecOn generalizing s with
  | ind n ih =>
    refine codeC_of_tree hn (wpC_mono (turn n s h) (fun fin s' hf => ?_) fun _ _ h' => h')
    cases fin with
    | done f => exact hf
    | again c' =>
      rcases hf with ⟨rfl, m, hm, hI⟩ | hf
      · exact ⟨hq, ih m hm hI⟩
      · exact hf
end

/-! the head of a law that writes nothing, its walk in clean contexts of M' -/
abbrev WalkC (q : Program) (loose : List Str) (XP : (Str → Option Value) → Heap → Prop) (YP : World → Heap → Prop) (r : RowW) (d : DefRec) (kwd : List (Str × Expr)) : Prop :=
  ∀ (w : World) (s₀ s₁ : Shared) (mg mb : Str → Option Value), Ground q loose r.records XP w s₀ mg mb s₁.heap → YP w s₁.heap → ∀ (a : Addr), mg d.name = some (.ref a) → s₁.gens = #[] →
    ∀ (args : List WData) (vals : List Value) (as : List Addr), r.claim.pre args = true → WData.layableAll args = true → ReadsAllW r.records (classAt s₀.heap) s₁.heap vals args as →
      wpC (M' r.prog w) callerA (PySem.call (.ref a) vals) (fun v s' => GoodWG r.claim (classAt s₀.heap) (ExcName.means s₀.heap) args s₁ (.ok (.ret v)) s')
        (fun _ _ => False) s₁

theorem PySem.W.holds_open {r : OpenRow} {q : Program} {loose : List Str} {Xt : Shared → Bool} {XP : (Str → Option Value) → Heap → Prop} {α : Type} {Yf : Shared → α} {Ya : World → α} {YP : World → Heap → Prop} {d : DefRec} {kwd : List (Str × Expr)} {N : Nat}
    (left : LeftO r.prog q loose Xt Yf Ya N) (hY : ∀ w s, Yf s = Ya w → YP w s.heap) (hYk : ∀ w h h', YP w h → (∀ b o, h.get? b = some o → h'.get? b = some o) → YP w h')
    (hX : ∀ s, Xt s = true → XP (s.heap.nsMap mainGlobals) s.heap) (hXk : ∀ mg h h', XP mg h → (∀ b o, h.get? b = some o → h'.get? b = some o) → XP mg h')
    (hdef : defOf q r.name = some (d, kwd)) (hp : r.prog.theDef r.name = some (d.params, d.body, d.scope)) (hk : kwWritten? d.params.kwonlyargs d.params.kw_defaults = some kwd) (hRf : ∀ s, Xt s = true → RecFacts r.records s.heap) (hwr : r.writes = false)
    (k1 : r.wellSaid = true) (ok : (chainsOk q && opensWell r.prog && (frees r.toRowW && r.within.isEmpty)) = true) (hb : r.prog.bare) (hw : r.toRowW.promised)
    (walk : WalkC q loose XP YP r.toRowW d kwd) : r.Holds := by
  obtain ⟨ok₁, k5⟩ := Bool.and_eq_true_iff.mp ok
  obtain ⟨hch, hopens⟩ := Bool.and_eq_true_iff.mp ok₁
  obtain ⟨hfrees, hwith⟩ := Bool.and_eq_true_iff.mp k5
  obtain ⟨hsame, hu, ha, hap, hm⟩ := frees_parts hfrees
  have hi := ident_freeW hu ha hap
  have hwi : r.toRowW.claim.within = [] := List.isEmpty_iff.mp hwith
  have B := fun w => left.behind (XP := fun mg h => XP mg h ∧ RecFacts r.records h) (fun s hs => ⟨hX s hs, hRf s hs⟩) hch w
  refine ⟨k1, hw, ⟨hb, hopens, by show r.makers.map _ = []; rw [hm]; rfl⟩, hw.witness, fun w => ⟨(B w).1, fun s' hs' => ?_⟩⟩
  obtain ⟨s₀, hf, hg0, s, hT, hz, hgens, hg, GX, y⟩ := (B w).2 s' hs'
  have G0 : Ground q loose [] XP w s (s.heap.nsMap mainGlobals) (s.heap.nsMap builtinsNs) s.heap := ⟨GX.T, GX.B, GX.D, GX.TE, GX.TD, GX.W, GX.X.1, GX.cls, GX.has, GX.apart, GX.once, GX.K⟩
  have RF := GX.X.2
  have G : Ground q loose r.records XP w s _ _ s.heap := RF.ground G0
  have hgens : s.gens = #[] := Array.eq_empty_of_size_eq_zero (beq_iff_eq.mp hgens)
  refine ⟨s₀, hf, hg0, s, hT, fun n hn => ?_, RF.1, RF.2.1, fun args hpre hlay ord hord => ?_⟩
  · obtain rfl : n = r.name := by split at hn <;> simp_all
    exact pinned_of_view hg G0 hdef hp hk
  obtain ⟨⟨vs, s₁⟩, hlaid⟩ := Option.isSome_iff_exists.mp (layAllW_isSome (P := w.params) (ord := ord) G.has args r.args s (pre_splitW hpre).1)
  have keeps := layAllW_keeps _ _ _ hlaid
  have hal := layAllW_rest _ _ _ hlaid
  obtain ⟨as, hrd, hin, hold⟩ := reads_layAllW hord _ _ _ hlaid hlay s₁.heap (fun _ _ e => e)
  have L : Laid r.records w s s₁ args vs as := ⟨⟨ord, hord, hlaid⟩, hrd, hin, hold, keeps, hal.1.trans hgens, hal.2.2.1⟩
  have G₁ := G.keeps hXk keeps
  obtain ⟨a, o, pm, cd, doc, dV, kV, h1, _⟩ := G₁.fn hdef
  have W := walk w s s₁ _ _ G₁ (hYk _ _ _ (hY w s y) keeps) a (defOf_name hdef ▸ h1) L.gens args vs as hpre hlay L.reads
  have W' : wpC (M' r.prog w) callerA (do match ← nsGet mainNs r.name with
      | some f => do ret (← PySem.call f vs)
      | none => unsupported "claim.caller:no-such-global")
      (fun fin s' => ∃ f, fin = .done f ∧ ((r.toRowW.claim.Ends s args vs s₁ (.ok f) s' ∧ s'.os = s.os) ∧ leftWithCleanup s'.gens = false)) (fun _ _ => False) s₁ := by
    refine wpC_bind (wpC_any (wpAny_nsGet G₁.T.g ?_))
    rw [h1]
    refine wpC_bind (wpC_mono W (fun v s' g => wpC_pure ?_) fun _ _ x => x)
    have z := g.laid (c := r.toRowW.claim) hsame hwi hi L
    exact ⟨_, rfl, ⟨z.1, z.2.1⟩, leftWithCleanup_false_of_bare z.2.2⟩
  obtain ⟨k, res, s', s'', hsched, hlife, hfo, hcase, hos⟩ := thread_ends' r.prog w (R := fun res s' => r.toRowW.claim.Ends s args vs s₁ res s' ∧ s'.os = s.os)
    (Shared.asleep_of_life hal.2.2.2 hz) (Sem.wp_mono _ _ _ (fun _ _ _ x => x) (fun _ _ _ x => x.elim) _ _ (W' Γ₀ default caller_in clean₀))
  obtain ⟨eh, _, _, eo, _⟩ := Shared.forget_eq hfo
  have hcase := hcase.congr eh
  rw [← eo] at hos
  refine ⟨vs, s₁, hlaid, k, _, s', hsched, ?_, (fun _ i x hx => by rw [hgens] at hx; simp at hx), (fun q => by rw [hwr] at q; cases q), by rw [hlife, hal.2.2.2], Shared.rest_eq hos⟩
  rcases hcase with ⟨v, rfl, d1, d2, d3, d4, d5⟩ | ⟨e, ob, cls, rfl, d1, d2, d3, d4, d5⟩
  · exact .inl ⟨v, rfl, d1, d2, d3, fun b o y _ => d4 b o y, d5⟩
  · exact .inr ⟨e, ob, cls, rfl, d1, d2, d3, d4, fun b o y _ => d5 b o y⟩
end Mine

end

section
open PySem PySem.W PyProof.Rows
set_option Elab.async false
set_option maxRecDepth 100000
namespace Mine

/-! facts of the regex types -/
theorem slot_finditer : Slot "re.Pattern" "finditer" "re.Pattern.finditer" :=
  .of (owner := "re.Pattern") (n := "finditer") (by rw [typeLookup_type, builtinLookup_eq_fast]; kernel_rfl) (by decide +kernel) (by decide +kernel) (by decide +kernel)
    (by first | exact .inl (by decide +kernel) | exact .inr (by decide +kernel)) (by rw [isSubtype_type]; kernel_rfl)
theorem type_finditer : typeOf (.builtin "re.Pattern.finditer") = pure (.type "method_descriptor") := by show builtinType _ = _; rw [builtinType_eq_fast]; kernel_rfl
theorem entry_finditer : entryFor table "re.Pattern.finditer" = some Builtin.«re.Pattern.finditer» := entryFor_of_tree (by kernel_rfl)
theorem args_finditer (a b : Value) : argsOk "re.Pattern.finditer" ⟨[a, b], []⟩ := by unfold argsOk; kernel_rfl

theorem slot_group : Slot "re.Match" "group" "re.Match.group" :=
  .of (owner := "re.Match") (n := "group") (by rw [typeLookup_type, builtinLookup_eq_fast]; kernel_rfl) (by decide +kernel) (by decide +kernel) (by decide +kernel)
    (by first | exact .inl (by decide +kernel) | exact .inr (by decide +kernel)) (by rw [isSubtype_type]; kernel_rfl)
theorem type_group : typeOf (.builtin "re.Match.group") = pure (.type "method_descriptor") := by show builtinType _ = _; rw [builtinType_eq_fast]; kernel_rfl
theorem entry_group : entryFor table "re.Match.group" = some Builtin.«re.Match.group» := entryFor_of_tree (by kernel_rfl)
theorem args_group (a b : Value) : argsOk "re.Match.group" ⟨[a, b], []⟩ := by unfold argsOk; kernel_rfl

theorem slot_search : Slot "_sre.SRE_Scanner" "search" "_sre.SRE_Scanner.search" :=
  .of (owner := "_sre.SRE_Scanner") (n := "search") (by rw [typeLookup_type, builtinLookup_eq_fast]; kernel_rfl) (by decide +kernel) (by decide +kernel) (by decide +kernel)
    (by first | exact .inl (by decide +kernel) | exact .inr (by decide +kernel)) (by rw [isSubtype_type]; kernel_rfl)
theorem type_search : typeOf (.builtin "_sre.SRE_Scanner.search") = pure (.type "method_descriptor") := by show builtinType _ = _; rw [builtinType_eq_fast]; kernel_rfl
theorem entry_search : entryFor table "_sre.SRE_Scanner.search" = some Builtin.«_sre.SRE_Scanner.search» := entryFor_of_tree (by kernel_rfl)
theorem slot_scangetattr : Slot "_sre.SRE_Scanner" "__getattribute__" "object.__getattribute__" :=
  .of (owner := "object") (n := "__getattribute__") (by rw [typeLookup_type, builtinLookup_eq_fast]; kernel_rfl) (by decide +kernel) (by decide +kernel) (by decide +kernel)
    (by first | exact .inl (by decide +kernel) | exact .inr (by decide +kernel)) (by rw [isSubtype_type]; kernel_rfl)
theorem entry_objgetattr : entryFor table "object.__getattribute__" = some Builtin.«object.__getattribute__» := entryFor_of_tree (by kernel_rfl)
theorem args_objgetattr (a b : Value) : argsOk "object.__getattribute__" ⟨[a, b], []⟩ := by unfold argsOk; kernel_rfl
theorem slot_mdget : Slot "method_descriptor" "__get__" "method_descriptor.__get__" :=
  .of (owner := "method_descriptor") (n := "__get__") (by rw [typeLookup_type, builtinLookup_eq_fast]; kernel_rfl) (by decide +kernel) (by decide +kernel) (by decide +kernel)
    (by first | exact .inl (by decide +kernel) | exact .inr (by decide +kernel)) (by rw [isSubtype_type]; kernel_rfl)
theorem entry_mdget : entryFor table "method_descriptor.__get__" = some Builtin.«method_descriptor.__get__» := entryFor_of_tree (by kernel_rfl)
theorem args_mdget (a b c : Value) : argsOk "method_descriptor.__get__" ⟨[a, b, c], []⟩ := by unfold argsOk; kernel_rfl
theorem md_noset : typeLookup (.type "method_descriptor") "__set__" = pure none := by rw [typeLookup_type, builtinLookup_eq_fast]; kernel_rfl
theorem md_nodelete : typeLookup (.type "method_descriptor") "__delete__" = pure none := by rw [typeLookup_type, builtinLookup_eq_fast]; kernel_rfl

theorem plainAttrs_pattern : PlainAttrs "re.Pattern" :=
  ⟨⟨"object.__getattribute__", by rw [typeLookup_type, builtinLookup_eq_fast]; kernel_rfl, by decide +kernel⟩, by rw [typeLookup_type, builtinLookup_eq_fast]; kernel_rfl⟩
theorem plainAttrs_match : PlainAttrs "re.Match" :=
  ⟨⟨"object.__getattribute__", by rw [typeLookup_type, builtinLookup_eq_fast]; kernel_rfl, by decide +kernel⟩, by rw [typeLookup_type, builtinLookup_eq_fast]; kernel_rfl⟩

theorem slot_cinext : Slot "callable_iterator" "__next__" "callable_iterator.__next__" :=
  .of (owner := "callable_iterator") (n := "__next__") (by rw [typeLookup_type, builtinLookup_eq_fast]; kernel_rfl) (by decide +kernel) (by decide +kernel) (by decide +kernel)
    (by first | exact .inl (by decide +kernel) | exact .inr (by decide +kernel)) (by rw [isSubtype_type]; kernel_rfl)
theorem entry_cinext : entryFor table "callable_iterator.__next__" = some Builtin.«callable_iterator.__next__» := entryFor_of_tree (by kernel_rfl)
theorem args_cinext (a : Value) : argsOk "callable_iterator.__next__" ⟨[a], []⟩ := by unfold argsOk; kernel_rfl
theorem slot_matcheq : Slot "re.Match" "__eq__" "object.__eq__" :=
  .of (owner := "object") (n := "__eq__") (by rw [typeLookup_type, builtinLookup_eq_fast]; kernel_rfl) (by decide +kernel) (by decide +kernel) (by decide +kernel)
    (by first | exact .inl (by decide +kernel) | exact .inr (by decide +kernel)) (by rw [isSubtype_type]; kernel_rfl)
theorem sub_match_none : isSubtype (.type "re.Match") (.type "NoneType") = pure false := by rw [isSubtype_type]; kernel_rfl
end Mine

end

section
open PySem PySem.W PyProof.Rows
open PySem (strKind strKind_is)
set_option Elab.async false
set_option maxRecDepth 100000
namespace Mine
open Builtin Builtin.Re

abbrev codeInts : List Int := [14, 4, 0, 1, 4294967295, 7, 14, 17, 0, 24, 6, 1, 4294967295, 20, 91, 1, 17, 1, 15, 37, 17, 17, 2, 16, 91, 26, 5, 0, 4294967295, 2, 1, 16, 93, 17, 3, 15, 20, 18, 17, 4, 16, 91, 24, 6, 0, 4294967295, 20, 93, 1, 6, 5, 17, 5, 15, 2, 0, 1]
def tupObj (vs : List Value) : Obj := { cls := .type "tuple", data := .seq vs.toArray }

/-- the compiled pattern stands at P -/
structure PatAt (w : World) (h : Heap) (P : Addr) : Prop where
  ex : ∃ (v0 v1 v4 : Value) (D T : Addr) (t2 t3 : Tok), h.get? P = some { cls := .type "re.Pattern", data := .fields #[v0, v1, .int 3 0, .ref D, v4, .ref T, .int 0 0] } ∧
    h.get? T = some (tupObj (codeInts.map rawInt)) ∧
    h.get? D = some { cls := .type "dict", data := .dict #[{ hash := PyData.keyHash w.params "set", key := .str "set" t2, val := .int 2 t3 }] 1 }

theorem PatAt.keeps {w : World} {h h' : Heap} {P : Addr} (X : PatAt w h P) (k : ∀ b o, h.get? b = some o → h'.get? b = some o) : PatAt w h' P :=
  let ⟨v0, v1, v4, D, T, t2, t3, a, b, c⟩ := X.ex
  ⟨v0, v1, v4, D, T, t2, t3, k _ _ a, k _ _ b, k _ _ c⟩

/-- a match object: its text, its spans -/
def MatchAt (h : Heap) (m T P : Addr) (x : Str) (sp : List Int) : Prop :=
  ∃ (tk : Tok) (li lim : Int), h.get? m = some { cls := .type "re.Match", data := .fields #[.str x tk, .ref P, rawInt 0, rawInt lim, rawInt li, .ref T] } ∧ h.get? T = some (tupObj (sp.map rawInt))
theorem MatchAt.keeps {h h' : Heap} {m T P : Addr} {x : Str} {sp : List Int} (X : MatchAt h m T P x sp) (k : ∀ b o, h.get? b = some o → h'.get? b = some o) : MatchAt h' m T P x sp :=
  let ⟨tk, li, lim, a, b⟩ := X
  ⟨tk, li, lim, k _ _ a, k _ _ b⟩

theorem rawOf_map (sp : List Int) : (sp.map rawInt).toArray.map reRawOf = sp.toArray := by
  rw [List.map_toArray, List.map_map]
  congr 1
  exact (List.map_congr_left fun _ _ => rfl).trans (List.map_id _)

section
variable {prog : Program} {w : World} {A : Around} {E : Value → Shared → Prop} {s : Shared}

theorem rawItems_ {M : Model} {a : Addr} {sp : List Int} {Q : Array Int → Shared → Prop} (ho : s.heap.get? a = some (tupObj (sp.map rawInt))) (h : Q sp.toArray s) : wpAny M A (reRawItems (.ref a)) Q E s := by
  unfold reRawItems
  refine wpAny_bind (wpAny_seqItems ho rfl (wpAny_pure ?_))
  show Q ((sp.map rawInt).toArray.map reRawOf) s
  rw [rawOf_map]; exact h

theorem found_ {M : Model} {m T P : Addr} {x : Str} {sp : List Int} {Q : ReFound → Shared → Prop} (X : MatchAt s.heap m T P x sp)
    (h : ∀ fs tk, fs[0]? = some (.str x tk) → fs[1]? = some (.ref P) → Q ⟨fs, sp.toArray⟩ s) : wpAny M A (reFound (.ref m)) Q E s := by
  obtain ⟨tk, li, lim, a, b⟩ := X
  unfold reFound
  refine wpAny_bind (wpAny_fieldsOf a rfl ?_)
  exact wpAny_bind (rawItems_ b (wpAny_pure (h _ tk rfl rfl)))

theorem groupText_ {M : Model} {x : Str} {fs : Array Value} {tk : Tok} {sp : List Int} {g b e : Nat} {d : Value} {Q : Value → Shared → Prop} (h0 : fs[0]? = some (.str x tk)) (hb : sp[2 * g]? = some (b : Int)) (he : sp[2 * g + 1]? = some (e : Int))
    (hsz : x.length ≤ sizeLine) (h : Q (.str ⟨x.cps.extract b e⟩ s.toks) { s with toks := s.toks + 1 }) : wpAny M A (reGroupText ⟨fs, sp.toArray⟩ g d) Q E s := by
  unfold reGroupText
  have h1 : sp.toArray.getD (2 * g) (-1) = (b : Int) := by simp [hb]
  have h2 : sp.toArray.getD (2 * g + 1) (-1) = (e : Int) := by simp [he]
  have h3 : fs.getD 0 .none = .str x tk := by simp [h0]
  dsimp only
  rw [h1, h2, h3]
  rw [if_neg (by simp)]
  refine wpAny_bind (wpAny_bind (wpAny_pure (wpAny_pure ?_)))
  show wpAny M A (mkStr ⟨x.cps.extract b e⟩) Q E s
  exact wpAny_mkStr h (by show (x.cps.extract b e).size ≤ sizeLine; rw [Array.size_extract]; unfold Str.length at hsz; omega)

theorem groupText_none {M : Model} {fs : Array Value} {sp : List Int} {g : Nat} {d : Value} {Q : Value → Shared → Prop} (hb : sp[2 * g]? = some (-1)) (h : Q d s) : wpAny M A (reGroupText ⟨fs, sp.toArray⟩ g d) Q E s := by
  unfold reGroupText
  have h1 : sp.toArray.getD (2 * g) (-1) = -1 := by simp [hb]
  dsimp only
  rw [h1, if_pos (by simp)]
  exact wpAny_pure h

theorem group0 {m T P : Addr} {x : Str} {sp : List Int} {b e : Nat} {tk : Tok} {Q : Value → Shared → Prop} (X : MatchAt s.heap m T P x sp) (hl : sp.length = 8) (hb : sp[0]? = some (b : Int)) (he : sp[1]? = some (e : Int)) (hsz : x.length ≤ sizeLine)
    (h : Q (.str ⟨x.cps.extract b e⟩ s.toks) { s with toks := s.toks + 1 }) : wpAny (model prog w) A (call (.builtin "re.Match.group") [.ref m, .int 0 tk]) Q E s := by
  have hT : s.TypeIs (.ref m) "re.Match" := let ⟨_, _, _, a, _⟩ := X; ⟨_, a, rfl⟩
  refine wpAny_call_entry slot_group hT entry_group ?_ (args_group _ _)
  unfold Builtin.«re.Match.group»
  refine wpAny_bind (wpAny_pure (wpAny_bind (found_ X fun fs tk' h0 h1 => ?_)))
  refine wpAny_bind ?_
  unfold reGroupNumber
  refine wpAny_bind (m := asInt? (.int 0 tk)) (wpAny_pure ?_)
  rw [if_pos (by rfl)]
  refine wpAny_bind (m := asIndex (.int 0 tk)) (wpAny_bind (wpAny_pure (wpAny_pure ?_)))
  dsimp only
  rw [if_neg (by simp [hl])]
  refine wpAny_pure ?_
  exact wpAny_bind (groupText_ h0 hb he hsz (wpAny_pure ⟨_, rfl, h⟩))

theorem str_noindex : typeLookup (.type "str") "__index__" = pure none := by rw [typeLookup_type, builtinLookup_eq_fast]; kernel_rfl

theorem groupSet {m T P : Addr} {x : Str} {sp : List Int} {tk : Tok} {Q : Value → Shared → Prop} (Y : PatAt w s.heap P) (X : MatchAt s.heap m T P x sp) (hl : sp.length = 8)
    (h : ∀ fs tk', fs[0]? = some (.str x tk') → wpAny (model prog w) A.in1 (reGroupText ⟨fs, sp.toArray⟩ 2 .none) Q E { s with toks := s.toks + 1 }) :
    wpAny (model prog w) A (call (.builtin "re.Match.group") [.ref m, .str "set" tk]) Q E s := by
  have hT : s.TypeIs (.ref m) "re.Match" := let ⟨_, _, _, a, _⟩ := X; ⟨_, a, rfl⟩
  refine wpAny_call_entry slot_group hT entry_group ?_ (args_group _ _)
  obtain ⟨v0, v1, v4, D, T', t2, t3, y1, y2, y3⟩ := Y.ex
  unfold Builtin.«re.Match.group»
  refine wpAny_bind (wpAny_pure (wpAny_bind (found_ X fun fs tk' h0 h1 => ?_)))
  refine wpAny_bind ?_
  unfold reGroupNumber
  refine wpAny_bind (m := asInt? (.str "set" tk)) (wpAny_pure ?_)
  rw [if_neg (by simp)]
  refine wpAny_bind (wpAny_specialOf (T := "str") (by exact rfl) str_noindex ?_)
  rw [if_neg (by simp)]
  have h1' : fs.getD 1 .none = .ref P := by simp [h1]
  dsimp only
  rw [h1']
  refine wpAny_bind (wpAny_fieldsOf y1 rfl ?_)
  show wpAny _ _ (dictGet D (.str "set" tk) >>= _) _ _ _
  have hm : s.heap.MapOf (strKind prog w) D (fun k => if (strKind prog w).is k (.str "set" t2) = true then some (.int 2 t3) else none) := by
    refine ⟨_, _, _, y3, ⟨rfl, rfl, rfl⟩, rfl, fun e he => ?_, fun k => ?_⟩
    · simp at he; subst he; exact ⟨"set", strKind_is prog w "set" t2, rfl⟩
    · unfold findBy
      rw [List.find?_toArray, List.find?_cons]
      dsimp only
      cases q : (strKind prog w).is k (.str "set" t2) with
      | true => rfl
      | false => rfl
  refine wpAny_bind (wpAny_dictGet_of (strKind_is prog w "set" tk) hm ?_)
  rw [if_pos (strKind_is prog w "set" t2)]
  refine wpAny_bind (m := asInt? (.int 2 t3)) (wpAny_pure (wpAny_bind (wpAny_pure ?_)))
  rw [if_neg (by simp [hl])]
  refine wpAny_pure ?_
  exact wpAny_bind (wpAny_mono (h fs tk' h0) (fun v s' hv => wpAny_pure ⟨_, rfl, hv⟩) fun _ _ x => x)
end
end Mine

end

section
open PySem PySem.W PyProof.Rows
set_option Elab.async false
set_option maxRecDepth 100000
namespace Mine
open Builtin Builtin.Re Builtin.ObjectAttr

def scanObj (P : Addr) (x : Str) (tk : Tok) (start : Int) : Obj := { cls := .type "_sre.SRE_Scanner", data := .fields #[.ref P, .str x tk, rawInt start, rawInt 0, rawInt x.length, .bool false] }
def bmObj (S : Addr) : Obj := { cls := .type "builtin_function_or_method", data := .fields #[.builtin "_sre.SRE_Scanner.search", .ref S] }
def itObj (B : Addr) : Obj := { cls := .type "callable_iterator", data := .fields #[.ref B, .none, .bool false] }

theorem sub_scan : isSubtype (.type "_sre.SRE_Scanner") (.type "_sre.SRE_Scanner") = pure true := by rw [isSubtype_type]; kernel_rfl

section
variable {prog : Program} {w : World} {A : Around} {E : Value → Shared → Prop} {s : Shared}

theorem bm_get {a : Addr} {o : Obj} {Q : Value → Shared → Prop} (ho : s.heap.get? a = some o) (hc : o.cls = .type "_sre.SRE_Scanner")
    (h : Q (.ref s.heap.objs.size) { s with heap := s.heap.push (bmObj a) }) :
    wpAny (model prog w) A (call (.builtin "method_descriptor.__get__") [.builtin "_sre.SRE_Scanner.search", .ref a, .type "_sre.SRE_Scanner"]) Q E s := by
  have hT : s.TypeIs (.ref a) "_sre.SRE_Scanner" := ⟨o, ho, hc⟩
  refine wpAny_call_entry slot_mdget (by exact type_search) entry_mdget ?_ (args_mdget _ _ _)
  unfold Builtin.«method_descriptor.__get__»
  refine wpAny_bind (wpAny_of_eq (a := (Value.builtin "_sre.SRE_Scanner.search", some (.ref a), some (.type "_sre.SRE_Scanner"))) (by with_unfolding_all rfl) ?_)
  dsimp only
  rw [if_pos (by decide +kernel)]
  have chk : ∀ {Q : Unit → Shared → Prop} {A : Around}, Q () s → wpAny (model prog w) A (do let (name, cls) ← (pure (("search" : Str), Value.type "_sre.SRE_Scanner") : Sem (Str × Value)); if !(← isInstance (.ref a) cls) then do rule "descr.get.wrong-instance"; raiseError "TypeError" s!"descriptor '{name.toString}' for '{← typeName cls}' objects doesn't apply to a '{← typeNameOf (.ref a)}' object") Q E s := fun h => by
    refine wpAny_bind (wpAny_pure (wpAny_bind (wpAny_isInstance hT sub_scan ?_)))
    rw [if_neg (by simp)]
    exact wpAny_pure h
  refine wpAny_bind ?_
  k_delta "checkInstance"
  refine chk ?_
  refine wpAny_bind (wpAny_of_eq (a := true) (by with_unfolding_all rfl) ?_)
  rw [if_neg (by simp)]
  k_delta "bindBuiltin"
  dsimp only
  refine wpAny_bind ?_
  k_delta "checkInstance"
  refine chk ?_
  exact wpAny_bind (wpAny_newObj_type (wpAny_pure ⟨_, rfl, h⟩))

theorem scan_getattr {a : Addr} {o : Obj} {Q : Value → Shared → Prop} (ho : s.heap.get? a = some o) (hc : o.cls = .type "_sre.SRE_Scanner") (hd : o.dict = none) {fs : Array Value} (hf : o.data = .fields fs)
    (h : Q (.ref s.heap.objs.size) { s with heap := s.heap.push (bmObj a), toks := s.toks + 1 }) :
    wpAny (model prog w) A (getAttr (.ref a) "search") Q E s := by
  have hT : s.TypeIs (.ref a) "_sre.SRE_Scanner" := ⟨o, ho, hc⟩
  have hT' : ({ s with toks := s.toks + 1 } : Shared).TypeIs (.ref a) "_sre.SRE_Scanner" := ⟨o, ho, hc⟩
  unfold getAttr getAttrBy
  refine wpAny_bind (wpAny_mkText (wpAny_holding (wpAny_bind (wpAny_typeOf hT' (wpAny_bind (wpAny_of_eq slot_scangetattr.lookup ?_))))))
  dsimp only
  rw [if_neg (by simp [onTheHeap])]
  unfold getAttrByItsOwn
  refine wpAny_bind (wpAny_pure (wpAny_bind (wpAny_attempt (wpAny_holding ?_))))
  unfold callGetattribute
  rw [if_neg (by simp)]
  unfold boundAndCalled
  rw [slot_scangetattr.bind]
  refine wpAny_bind (wpAny_pure ?_)
  refine wpAny_call_entry slot_scangetattr hT' entry_objgetattr ?_ (args_objgetattr _ _)
  unfold Builtin.«object.__getattribute__»
  refine wpAny_bind (wpAny_of_eq (a := (Value.ref a, [Value.str "search" s.toks])) (by with_unfolding_all rfl) ?_)
  dsimp only
  refine wpAny_bind (wpAny_pure (wpAny_bind (wpAny_typeOf hT' (wpAny_bind ?_))))
  unfold Builtin.ObjectAttr.find
  refine wpAny_bind (wpAny_of_eq slot_search.lookup (wpAny_bind ?_))
  refine wpAny_specialOf (T := "method_descriptor") (by exact type_search) slot_mdget.lookup ?_
  refine wpAny_bind (wpAny_bind (wpAny_bind (wpAny_specialOf (T := "method_descriptor") (by exact type_search) md_noset ?_)))
  rw [if_neg (by simp)]
  refine wpAny_bind (wpAny_specialOf (T := "method_descriptor") (by exact type_search) md_nodelete (wpAny_pure ?_))
  rw [if_neg (by simp)]
  refine wpAny_pure ?_
  unfold ownThenClass
  refine wpAny_bind ?_
  unfold inOwnDict
  refine wpAny_bind ?_
  unfold Builtin.ObjectAttr.ownDict
  refine wpAny_bind (wpAny_loadPart ho ?_)
  rw [hf]
  unfold instanceDict
  refine wpAny_bind (wpAny_loadPart ho ?_)
  rw [hc, hd]
  dsimp only
  rw [if_pos (by rfl)]
  refine wpAny_pure (wpAny_pure (wpAny_bind ?_))
  unfold copiedAttributeGuard
  dsimp only
  rw [if_neg (by decide +kernel)]
  refine wpAny_pure (wpAny_bind (wpAny_rule (wpAny_pure ?_)))
  unfold bindTo
  dsimp only
  refine wpAny_bind (wpAny_holding (bm_get ho hc (wpAny_pure ⟨_, rfl, ?_⟩)))
  dsimp only
  exact wpAny_pure h


theorem finditer_ {P : Addr} {x : Str} {tk : Tok} {Q : Value → Shared → Prop} (Y : PatAt w s.heap P) (hsz : x.length ≤ sizeLine)
    (h : Q (.ref (s.heap.objs.size + 2)) { s with heap := ((s.heap.push (scanObj P x tk 0)).push (bmObj s.heap.objs.size)).push (itObj (s.heap.objs.size + 1)), toks := s.toks + 1 }) :
    wpAny (model prog w) A (call (.builtin "re.Pattern.finditer") [.ref P, .str x tk]) Q E s := by
  obtain ⟨v0, v1, v4, D, T, t2, t3, y1, y2, y3⟩ := Y.ex
  refine wpAny_call_entry slot_finditer ⟨_, y1, rfl⟩ entry_finditer ?_ (args_finditer _ _)
  unfold Builtin.«re.Pattern.finditer»
  refine wpAny_bind ?_
  unfold reTarget
  dsimp only
  refine wpAny_bind (wpAny_of_eq (a := [some (.str x tk), none, none]) (by with_unfolding_all rfl) ?_)
  dsimp only
  refine wpAny_bind (wpAny_pure (wpAny_bind (wpAny_pure ?_)))
  refine wpAny_bind (wpAny_fieldsOf y1 rfl ?_)
  refine wpAny_bind (m := reTextOf (.str x tk)) (wpAny_bind (wpAny_pure (wpAny_pure ?_)))
  dsimp only
  rw [if_neg (by simp), if_neg (by simp [reRawNat])]
  refine wpAny_bind (wpAny_of_eq (a := ()) (by with_unfolding_all rfl) ?_)
  refine wpAny_bind (rawItems_ y2 (wpAny_pure ?_))
  dsimp only
  refine wpAny_bind (wpAny_of_eq (a := ()) (by with_unfolding_all rfl) ?_)
  have hsz' : x.length ≤ 16777216 := by rw [sizeLine_eq] at hsz; exact hsz
  have hp : Min.min (Int.toNat 0) x.cps.size = 0 := by simp
  have hl : Min.min ((2 : Int) ^ 63 - 1).toNat x.cps.size = x.length := by
    have : ((2 : Int) ^ 63 - 1).toNat = 9223372036854775807 := by decide +kernel
    rw [this]; unfold Str.length at hsz' ⊢; omega
  rw [hp, hl]
  refine wpAny_bind (wpAny_newObj_type ?_)
  refine wpAny_bind (wpAny_holding (scan_getattr (fs := #[.ref P, .str x tk, rawInt 0, rawInt 0, rawInt x.length, .bool false]) (o := scanObj P x tk 0) ?_ rfl rfl rfl ?_))
  · exact Heap.get?_push_size _ rfl
  · have e1 : (s.heap.push (scanObj P x tk 0)).objs.size = s.heap.objs.size + 1 := Heap.size_push ..
    have e2 : ((s.heap.push (scanObj P x tk 0)).push (bmObj s.heap.objs.size)).objs.size = s.heap.objs.size + 2 := by rw [Heap.size_push, e1]
    refine wpAny_bind (wpAny_newObj_type (wpAny_pure ⟨_, rfl, ?_⟩))
    show Q (.ref ((s.heap.push (scanObj P x tk 0)).push (bmObj s.heap.objs.size)).objs.size) { s with heap := ((s.heap.push (scanObj P x tk 0)).push (bmObj s.heap.objs.size)).push (itObj (s.heap.push (scanObj P x tk 0)).objs.size), toks := s.toks + 1 }
    rw [e1, e2]
    exact h
end
end Mine

end

section
open PySem PySem.W PyProof.Rows
set_option Elab.async false
set_option maxRecDepth 100000
namespace Mine
open Builtin Builtin.Re

theorem runFor_done : ∀ (n : Nat) (m : Sre.M), m.outcome.isSome = true → m.runFor n = m
  | 0, _, _ => rfl
  | n + 1, m, h => by show (if m.outcome.isSome then m else _) = m; rw [if_pos h]

theorem kind_search : builtinKind "_sre.SRE_Scanner.search" = some .method := by decide +kernel
theorem bound_search (a : Value) : (match Manifest.signature? "_sre.SRE_Scanner.search" with | some sig => Bind.checkArgs "_sre.SRE_Scanner.search" { sig with full := s!"{Bind.lastOf "_sre.SRE_Scanner"}.{Bind.lastOf "_sre.SRE_Scanner.search"}" } ⟨[a], []⟩ | none => pure ()) = pure () := by kernel_rfl
theorem novar_search : Manifest.varargsMethods.contains "_sre.SRE_Scanner.search" = false := by decide +kernel
theorem scan_nomodule : isSubtype (.type "_sre.SRE_Scanner") (.type "module") = pure false := by rw [isSubtype_type]; kernel_rfl

section
variable {M : Model} {A : Around} {E : Value → Shared → Prop} {s : Shared}

theorem wpAny_lift {α : Type} {prog : Program} {w : World} {t : Sem α} {Q : α → Shared → Prop} (h : wpAny (model prog w) A t Q E s) : wpAny (M' prog w) A t Q E s :=
  fun Γ p hΓ => wp_lift (h Γ p hΓ)

theorem drive_ {Q : Sre.M → Shared → Prop} {m' : Sre.M} (ho : m'.outcome.isSome = true) (h : Q m' s) : ∀ (turns k : Nat) (m : Sre.M), k ≤ 4 * turns → 0 < turns → m.runFor k = m' → wpAny M A (reDrive turns m) Q E s
  | 0, _, _, _, h0, _ => absurd h0 (Nat.lt_irrefl 0)
  | turns + 1, k, m, hk, _, e => by
    show wpAny M A (if (m.runFor 4).outcome.isSome then pure (m.runFor 4) else do rule "sre.turn"; reDrive turns (m.runFor 4)) Q E s
    by_cases h4 : (m.runFor 4).outcome.isSome = true
    · rw [if_pos h4]
      have : m.runFor 4 = m' := by
        by_cases hk4 : k ≤ 4
        · have q : m.runFor (k + (4 - k)) = (m.runFor k).runFor (4 - k) := runFor_add _ _ _
          rw [show k + (4 - k) = 4 by omega, e, runFor_done _ _ ho] at q
          exact q
        · have q : m.runFor (4 + (k - 4)) = (m.runFor 4).runFor (k - 4) := runFor_add _ _ _
          rw [show 4 + (k - 4) = k by omega, e, runFor_done _ _ h4] at q
          exact q.symm
      rw [this]; exact wpAny_pure h
    · rw [if_neg h4]
      have hk4 : 4 < k := by
        rcases Nat.lt_or_ge 4 k with q | q
        · exact q
        · exfalso
          have q : m.runFor (k + (4 - k)) = (m.runFor k).runFor (4 - k) := runFor_add _ _ _
          rw [show k + (4 - k) = 4 by omega, e, runFor_done _ _ ho] at q
          rw [q] at h4; exact h4 ho
      refine wpAny_bind (wpAny_rule (drive_ ho h turns (k - 4) _ (by omega) (by omega) ?_))
      rw [← runFor_add, show 4 + (k - 4) = k by omega, e]

theorem runToEnd_ {Q : Option Sre.M → Shared → Prop} {m m' : Sre.M} {k : Nat} (hk : k ≤ 4 * 2 ^ 64) (e : m.runFor k = m') {r : Option Sre.M}
    (ho : (m'.outcome = some .matched ∧ r = some m') ∨ (m'.outcome = some .failed ∧ r = none)) (h : Q r s) : wpAny M A (reRunToEnd m) Q E s := by
  unfold reRunToEnd
  refine wpAny_bind (drive_ (by rcases ho with ⟨a, _⟩ | ⟨a, _⟩ <;> rw [a] <;> rfl) ?_ (2 ^ 64) k m hk (by decide) e)
  refine wpAny_bind (wpAny_mono (wpAny_forIn_list (Q := fun _ s' => s' = s) _ (fun _ _ s' => s' = s) (fun i rest b s' hs => ?_) (fun _ _ hs => hs) _ _ rfl) (fun _ s' hs => ?_) fun _ _ x => x)
  · subst hs
    split
    · exact wpAny_bind (wpAny_rule (wpAny_pure rfl))
    · exact wpAny_pure rfl
  · subst hs
    rcases ho with ⟨a, b⟩ | ⟨a, b⟩
    · rw [a, ← b]; exact wpAny_pure h
    · rw [a, ← b]; exact wpAny_pure h
end
section
variable {prog : Program} {w : World} {A : Around} {E : Value → Shared → Prop} {s : Shared}

/-- gc.ask 13 in M' -/
theorem ask_ {Q : Unit → Shared → Prop} {stop : String} (h : Q () s) : wpAny (M' prog w) A (noCollectionInside stop) Q E s := by
  unfold noCollectionInside
  refine wpAny_bind (wpAny_runValue (codeAny_of_tree ?_))
  have ha : isAsk (.builtin "gc.ask" ⟨[rawInt 13], []⟩) = true := by decide +kernel
  have e : (M' prog w).den (.builtin "gc.ask" ⟨[rawInt 13], []⟩) = ret (.bool false) := den'_ask ha
  rw [e]
  refine wpAny_pure ?_
  show wpAny (M' prog w) A (if (Value.bool false != .bool false) = true then _ else _) Q E s
  rw [if_neg (by simp)]
  exact wpAny_pure h

/-- the call of the bound method scanner.search -/
theorem bound_call {B S : Addr} {o : Obj} {Q : Value → Shared → Prop} (hB : s.heap.get? B = some (bmObj S)) (hS : s.heap.get? S = some o) (hc : o.cls = .type "_sre.SRE_Scanner") (hd : ∀ c, o.data ≠ .cls c)
    (h : wpAny (M' prog w) A.in1 (Builtin.«_sre.SRE_Scanner.search» ⟨[.ref S], []⟩) (fun fin s' => ∃ v, fin = .done (.ret v) ∧ Q v s') E s) :
    wpAny (M' prog w) A (call (.ref B) []) Q E s := by
  have hT : s.TypeIs (.ref S) "_sre.SRE_Scanner" := ⟨o, hS, hc⟩
  refine wpAny_call (codeAny_of_tree ?_)
  show wpAny (M' prog w) _ (den' (.call (.ref B) ⟨[], []⟩)) _ _ _
  rw [den'_of (by rfl)]
  show wpAny (M' prog w) _ (callAny (.ref B) ⟨[], []⟩) _ _ _
  unfold callAny
  refine wpAny_bind (wpAny_load hB ?_)
  have hu : A.under (.call (.ref B) ⟨[], []⟩) = A.in1 := Around.under_plain rfl rfl
  rw [hu]
  show wpAny (M' prog w) A.in1 (if (Value.type "builtin_function_or_method" == .type "method" || Value.type "builtin_function_or_method" == .type "builtin_function_or_method" || Value.type "builtin_function_or_method" == .type "method-wrapper") = true then _ else _) _ _ _
  rw [if_pos (by decide +kernel)]
  dsimp only [bmObj]
  show wpAny (M' prog w) A.in1 (if (Value.type "builtin_function_or_method" != .type "method") = true then _ else _) _ _ _
  rw [if_pos (by decide +kernel)]
  refine wpAny_bind ?_
  have chk : ∀ {Q : Unit → Shared → Prop}, Q () s → wpAny (M' prog w) A.in1 (checkBoundCall "_sre.SRE_Scanner.search" ⟨[.ref S], []⟩) Q E s := fun {Q} hq => by
    have bs := bound_search (.ref S)
    unfold checkBoundCall
    cases hsig : Manifest.signature? "_sre.SRE_Scanner.search" with
    | none => exact wpAny_pure hq
    | some sig =>
      rw [hsig] at bs
      rw [kind_search]
      dsimp only
      rw [if_neg (by decide)]
      refine wpAny_bind (wpAny_isInstance hT scan_nomodule ?_)
      rw [novar_search, if_neg (by simp)]
      have nt : ∀ {Q : Bool → Shared → Prop}, Q false s → wpAny (M' prog w) A.in1 (isType (.ref S)) Q E s := fun {Q} hq => by
        unfold isType
        refine wpAny_bind (wpAny_loadPart hS ?_)
        split
        · rename_i q; exact absurd q (hd _)
        · exact wpAny_pure hq
      refine wpAny_bind (m := isType (.ref S)) (nt ?_)
      rw [if_neg (by simp)]
      refine wpAny_bind (wpAny_typeOf hT ?_)
      dsimp only
      rw [show Bind.checkArgs "_sre.SRE_Scanner.search" _ ⟨[.ref S], []⟩ = pure () from bs]
      exact wpAny_pure hq
  refine chk (wpAny_pure ⟨plainId_quiet (by decide +kernel) _, codeAny_of_tree ?_⟩)
  rw [Around.under_plainId (by decide +kernel) _]
  show wpAny (M' prog w) _ (den' (.builtin "_sre.SRE_Scanner.search" ⟨[.ref S], []⟩)) _ _ _
  rw [den'_of (by rfl), den_builtin entry_search]
  refine wpAny_mono h (fun fin s' hf => ?_) fun _ _ x => x
  obtain ⟨v, rfl, hv⟩ := hf
  exact hv
end
end Mine

end

section
open PySem PySem.W PyProof.Rows
set_option Elab.async false
set_option maxRecDepth 100000
namespace Mine
open Builtin Builtin.Re

theorem codeC_toNat : codeInts.toArray.map (·.toNat) = C := by decide +kernel

/-- the spans that a kind of match tells -/
def spansOf (k : Kind) (q r : Nat) : List Int := match k with
  | .run => [q, r, q, r, -1, -1, -1, -1]
  | .set => [q, r, -1, -1, q, r, -1, -1]
  | .opn => [q, r, -1, -1, -1, -1, q, r]

section
variable {M : Model} {A : Around} {E : Value → Shared → Prop} {s : Shared}
theorem spans_found {m : Sre.M} {q r : Nat} {k : Kind} (F : Found m q r k) (hqr : q ≤ r) :
    (rawInt m.start :: rawInt m.handed :: ((List.range 3).flatMap fun g =>
      match if ((2 * g + 1 : Nat) : Int) ≤ m.lastmark then (m.marks.getD (2 * g) none, m.marks.getD (2 * g + 1) none) else (none, none) with
      | (some b, some e) => [rawInt b, rawInt e]
      | _ => [rawInt (-1), rawInt (-1)])) = (spansOf k q r).map rawInt ∧
    ((List.range 3).any fun g => match m.marks.getD (2 * g) none, m.marks.getD (2 * g + 1) none with | some b, some e => ((2 * g + 1 : Nat) : Int) ≤ m.lastmark && e < b | _, _ => false) = false ∧
    m.outcome = some .matched ∧ m.start = q ∧ m.handed = r := by
  have hlt : decide (r < q) = false := by simp; omega
  cases k with
  | run =>
    obtain ⟨c, d, e, f, ⟨h1, h2, h3, h4, h5⟩⟩ := F
    rw [h2, h3, h4, h5]
    refine ⟨rfl, ?_, h1, rfl, rfl⟩
    simp only [List.range, List.range.loop, List.any_cons, List.any_nil]
    cases c <;> cases d <;> cases e <;> cases f <;> simp [hlt]
    all_goals omega
  | set =>
    obtain ⟨e, f, ⟨h1, h2, h3, h4, h5⟩⟩ := F
    rw [h2, h3, h4, h5]
    refine ⟨rfl, ?_, h1, rfl, rfl⟩
    simp only [List.range, List.range.loop, List.any_cons, List.any_nil]
    cases e <;> cases f <;> simp [hlt]
    all_goals omega
  | opn =>
    obtain ⟨h1, h2, h3, h4, h5⟩ := F
    rw [h2, h3, h4, h5]
    refine ⟨rfl, ?_, h1, rfl, rfl⟩
    simp only [List.range, List.range.loop, List.any_cons, List.any_nil]
    simp [hlt]
    all_goals omega

theorem newMatch_ {P : Addr} {x : Str} {tk : Tok} {m : Sre.M} {q r lim : Nat} {k : Kind} {Q : Value → Shared → Prop} (F : Found m q r k) (hqr : q ≤ r)
    (h : ∀ h' : Heap, (∀ b o, s.heap.get? b = some o → h'.get? b = some o) → MatchAt h' (s.heap.objs.size + 1) s.heap.objs.size P x (spansOf k q r) → Q (.ref (s.heap.objs.size + 1)) { s with heap := h' }) :
    wpAny M A (reNewMatch (.ref P) (.str x tk) 3 0 lim m) Q E s := by
  obtain ⟨e1, e2, e3, e4, e5⟩ := spans_found F hqr
  unfold reNewMatch
  dsimp only
  rw [if_neg (by rw [Bool.not_eq_true]; exact e2)]
  refine wpAny_bind (m := newTuple _) ?_
  refine Eq.mpr (congrArg (fun vs => wpAny M A (newTuple vs) _ E s) e1) ?_
  refine wpAny_newObj_type ?_ ?_
  · have es : (s.heap.push (tupObj ((spansOf k q r).map rawInt))).objs.size = s.heap.objs.size + 1 := Heap.size_push ..
    have hs2 := (s.heap.push (tupObj ((spansOf k q r).map rawInt))).get?_push_size (o := { cls := .type "re.Match", data := .fields #[.str x tk, .ref P, rawInt 0, rawInt lim, rawInt m.lastindex, .ref s.heap.objs.size] }) rfl
    rw [es] at hs2
    refine wpAny_newObj_type ?_
    show Q (.ref (s.heap.push (tupObj ((spansOf k q r).map rawInt))).objs.size) _
    rw [es]
    exact h _ (fun b o hb => Heap.get?_push_of_some _ (Heap.get?_push_of_some _ hb)) ⟨tk, m.lastindex, lim, hs2, Heap.get?_push_of_some _ (Heap.get?_push_size _ rfl)⟩
  · show (List.toArray _).size ≤ sizeLine
    rw [sizeLine_eq]
    cases k <;> simp [spansOf]
end
end Mine

end

section
open PySem PySem.W PyProof.Rows
set_option Elab.async false
set_option maxRecDepth 100000
namespace Mine
open Builtin Builtin.Re

theorem takeWhile_len (lit : Nat) : ∀ l : List Nat, nlen lit l ≤ l.length
  | [] => Nat.le_refl _
  | c :: l => by
    unfold nlen
    rw [List.takeWhile_cons]
    split
    · exact Nat.succ_le_succ (takeWhile_len lit l)
    · exact Nat.zero_le _
theorem closeAt_lt : ∀ {l : List Nat} {k : Nat}, closeAt l = some k → k < l.length
  | [], k, h => by cases h
  | c :: l, k, h => by
    unfold closeAt at h
    split at h
    · cases h; exact Nat.succ_pos _
    · split at h
      · cases h
      · cases hk : closeAt l with
        | none => rw [hk] at h; cases h
        | some j =>
          rw [hk] at h
          simp only [Option.map_some, Option.some.injEq] at h
          have := closeAt_lt hk
          simp only [List.length_cons]; omega
theorem nxt_pos : ∀ {l : List Nat} {s : Nat} {k : Kind} {n : Nat}, nxt l = some (s, k, n) → 1 ≤ n ∧ s + n ≤ l.length
  | [], _, _, _, h => by cases h
  | c :: l, s, k, n, h => by
    unfold nxt at h
    split at h
    · cases h; have := takeWhile_len 91 l; simp only [List.length_cons]; omega
    · split at h
      · rename_i j hj; cases h; have := closeAt_lt hj; simp only [List.length_cons]; omega
      · split at h
        · cases hf : nxt l with
          | none => rw [hf] at h; cases h
          | some r =>
            obtain ⟨s', k', n'⟩ := r
            rw [hf] at h
            simp only [Option.map_some, Option.some.injEq, Prod.mk.injEq] at h
            obtain ⟨rfl, rfl, rfl⟩ := h
            have := nxt_pos hf
            simp only [List.length_cons]; omega
        · cases h; simp only [List.length_cons]; omega

theorem forSearch_lt {T : Array Nat} {p : Nat} (h : p < T.size) : Sre.forSearch C T 3 p T.size false = S0 T p true #[none, none, none, none, none, none] (({} : Sre.Seen).add 14) := by
  have e : Sre.forSearch C T 3 p T.size false = if (decide (p > T.size) || decide (T.size - p < 1)) = true then (Sre.forSearch C T 3 p T.size false) else S0 T p true #[none, none, none, none, none, none] (({} : Sre.Seen).add 14) := by
    by_cases q : (decide (p > T.size) || decide (T.size - p < 1)) = true
    · rw [if_pos q]
    · rw [if_neg q]
      have e' : Sre.forSearch C T 3 p T.size false = if (decide (p > T.size) || decide (T.size - p < 1)) = true then
          { code := C, text := T, lim := T.size, start := p, pc := 5, pos := p, handed := p, marks := #[none, none, none, none, none, none], seen := ({} : Sre.Seen).add 14, answer := some false } else S0 T p true #[none, none, none, none, none, none] (({} : Sre.Seen).add 14) := by with_unfolding_all rfl
      rw [e', if_neg q]
  rw [e, if_neg (by simp; omega)]
theorem forSearch_end {T : Array Nat} : ((Sre.forSearch C T 3 T.size T.size false).runFor 1).outcome = some .failed := by
  have e' : Sre.forSearch C T 3 T.size T.size false = if (decide (T.size > T.size) || decide (T.size - T.size < 1)) = true then
      { code := C, text := T, lim := T.size, start := T.size, pc := 5, pos := T.size, handed := T.size, marks := #[none, none, none, none, none, none], seen := ({} : Sre.Seen).add 14, answer := some false } else S0 T T.size true #[none, none, none, none, none, none] (({} : Sre.Seen).add 14) := by with_unfolding_all rfl
  rw [e', if_pos (by simp)]
  rfl

theorem cost_le {n : Nat} (h : n ≤ 16777216) : cost n ≤ 4 * 2 ^ 64 := by
  have h1 : cost n ≤ 16777217 * 67108904 := Nat.mul_le_mul (by omega) (by omega)
  exact Nat.le_trans h1 (by decide)

theorem findFrom {T : Array Nat} {p : Nat} (hT : T.size ≤ 16777216) (hp : p ≤ T.size) :
    ∃ k m, k ≤ 4 * 2 ^ 64 ∧ (Sre.forSearch C T 3 p T.size false).runFor k = m ∧
      match nxt (suf T p) with
      | none => m.outcome = some .failed
      | some (s, k, n) => Found m (p + s) (p + s + n) k := by
  rcases Nat.lt_or_ge p T.size with h | h
  · obtain ⟨m, ⟨k, hk, e⟩, hm⟩ := search hT (suf T p) p true none none none none none none (({} : Sre.Seen).add 14) rfl hp
    refine ⟨k, m, Nat.le_trans hk (cost_le ?_), by rw [forSearch_lt h]; exact e, hm⟩
    have := suf_len (T := T) (q := p) rfl hp; omega
  · have : p = T.size := by omega
    subst this
    have hs : suf T T.size = [] := List.drop_eq_nil_iff.mpr (by simp)
    exact ⟨1, _, by decide, rfl, by rw [hs]; exact forSearch_end⟩

section
variable {prog : Program} {w : World} {A : Around} {E : Value → Shared → Prop} {s : Shared}

theorem search_ {S P : Addr} {x : Str} {tk : Tok} {p : Nat} {Q : Value → Shared → Prop} (hS : s.heap.get? S = some (scanObj P x tk p)) (Y : PatAt w s.heap P) (hsz : x.length ≤ sizeLine) (hp : p ≤ x.length)
    (hnone : nxt (suf x.cps p) = none → ∀ h' : Heap, (∀ b o, b ≠ S → s.heap.get? b = some o → h'.get? b = some o) → Q .none { s with heap := h' })
    (hsome : ∀ sk k n, nxt (suf x.cps p) = some (sk, k, n) → ∀ (h' : Heap) (m T : Addr), (∀ b o, b ≠ S → s.heap.get? b = some o → h'.get? b = some o) → h'.get? S = some (scanObj P x tk ((p + sk + n : Nat) : Int)) →
      MatchAt h' m T P x (spansOf k (p + sk) (p + sk + n)) → s.heap.get? m = none → s.heap.get? T = none → Q (.ref m) { s with heap := h' }) :
    wpAny (M' prog w) A (Builtin.«_sre.SRE_Scanner.search» ⟨[.ref S], []⟩) (fun fin s' => ∃ v, fin = .done (.ret v) ∧ Q v s') E s := by
  obtain ⟨v0, v1, v4, D, T', t2, t3, y1, y2, y3⟩ := Y.ex
  have hT : x.cps.size ≤ 16777216 := by rw [sizeLine_eq] at hsz; exact hsz
  obtain ⟨k, m, hk, e, hm⟩ := findFrom hT hp
  unfold Builtin.«_sre.SRE_Scanner.search» reScan
  dsimp only
  rw [if_neg (by simp)]
  refine wpAny_bind (wpAny_fieldsOf hS rfl ?_)
  have e2 : reRawOf (#[Value.ref P, .str x tk, rawInt p, rawInt 0, rawInt x.length, .bool false].getD 2 .none) = (p : Int) := rfl
  rw [e2, if_neg (by omega)]
  refine wpAny_bind (ask_ ?_)
  refine wpAny_bind ?_
  unfold reWholeTarget
  refine wpAny_bind (wpAny_fieldsOf y1 rfl ?_)
  refine wpAny_bind (m := reTextOf (.str x tk)) (wpAny_bind (wpAny_pure (wpAny_pure ?_)))
  dsimp only
  rw [if_neg (by simp), if_neg (by simp [reRawNat])]
  refine wpAny_bind (wpAny_of_eq (a := ()) (by with_unfolding_all rfl) ?_)
  refine wpAny_bind (rawItems_ y2 (wpAny_pure ?_))
  dsimp only
  rw [if_pos rfl]
  have em : Sre.forSearch (codeInts.toArray.map fun x => x.toNat) x.cps (reRawNat (#[v0, v1, Value.int 3 0, Value.ref D, v4, Value.ref T', Value.int 0 0].getD 2 .none)) (p : Int).toNat (reRawNat (#[Value.ref P, .str x tk, rawInt p, rawInt 0, rawInt x.length, .bool false].getD 4 .none))
      (#[Value.ref P, .str x tk, rawInt p, rawInt 0, rawInt x.length, .bool false].getD 5 .none == .bool true) = Sre.forSearch C x.cps 3 p x.cps.size false := by
    rw [codeC_toNat]; rfl
  cases hn : nxt (suf x.cps p) with
  | none =>
    rw [hn] at hm
    refine wpAny_bind ?_
    rw [em]
    refine runToEnd_ hk e (.inr ⟨hm, rfl⟩) ?_
    dsimp only
    refine wpAny_bind (wpAny_setField hS rfl (show 2 < 6 by decide) ?_)
    refine wpAny_pure ⟨_, rfl, hnone hn _ fun b o hb ho => ?_⟩
    exact (Heap.get?_update_ne _ _ _ _ hb).trans ho
  | some r =>
    obtain ⟨sk, kd, n⟩ := r
    rw [hn] at hm
    obtain ⟨hn1, hn2⟩ := nxt_pos hn
    obtain ⟨f1, f2, f3, f4, f5⟩ := spans_found hm (by omega)
    refine wpAny_bind ?_
    rw [em]
    refine runToEnd_ hk e (.inl ⟨f3, rfl⟩) ?_
    dsimp only
    refine wpAny_bind (wpAny_setField hS rfl (show 2 < 6 by decide) ?_)
    have g1 := Heap.get?_update_self (Obj.mapFields (·.setIfInBounds 2 (rawInt m.handed))) hS rfl
    refine wpAny_bind (wpAny_setField g1 rfl (show 5 < 6 by decide) ?_)
    have g2 := Heap.get?_update_self (Obj.mapFields (·.setIfInBounds 5 (.bool (m.handed == m.start)))) g1 rfl
    have e0 : (m.handed == m.start) = false := by rw [f4, f5]; simp; omega
    refine wpAny_bind (newMatch_ (lim := x.length) hm (by omega) fun h' hk' hM => wpAny_pure ⟨_, rfl, ?_⟩)
    refine hsome _ _ _ hn h' _ _ (fun b o hb ho => hk' _ _ ?_) (hk' _ _ ?_) hM ?_ ?_
    · exact (Heap.get?_update_ne _ _ _ _ hb).trans ((Heap.get?_update_ne _ _ _ _ hb).trans ho)
    · refine g2.trans ?_
      rw [e0, f5]; rfl
    · exact Heap.get?_none_of_le (by show s.heap.objs.size ≤ _; rw [Heap.size_after_update, Heap.size_after_update]; omega)
    · exact Heap.get?_none_of_le (by show s.heap.objs.size ≤ _; rw [Heap.size_after_update, Heap.size_after_update]; exact Nat.le_refl _)
end
end Mine

end

section
open PySem PySem.W PyProof.Rows
set_option Elab.async false
set_option maxRecDepth 100000
namespace Mine
open Builtin Builtin.Re
open Sem (wp)

section
variable {prog : Program} {w : World} {A : Around} {E : Value → Shared → Prop} {s : Shared}

/-- None == a match object: False -/
theorem eqNoneMatch {m T P : Addr} {x : Str} {sp : List Int} {Q : Bool → Shared → Prop} (X : MatchAt s.heap m T P x sp) (hu : A.units < cLine) (h : Q false s) : wpAny (model prog w) A (eqBool .none (.ref m)) Q E s := by
  have hT : s.TypeIs (.ref m) "re.Match" := let ⟨_, _, _, a, _⟩ := X; ⟨_, a, rfl⟩
  unfold eqBool
  refine wpAny_holding ?_
  rw [if_neg (by simp)]
  dsimp only
  refine wpAny_bind (SeqAt.rc_eq_decline_or (Ta := "NoneType") (Tb := "re.Match") (ida := "NoneType.__eq__") (idb := "object.__eq__") (k := false) (by exact rfl) hT (by decide) sub_match_none F.slot_NoneType_eq slot_matcheq ?_ ?_ ?_ (.inr hu) ?_)
  · intro Q' hq
    refine wpAny_call_entry F.slot_NoneType_eq (by exact rfl) F.entry_NoneType_eq ?_ (F.args_NoneType_eq_2 _ _)
    exact wpAny_of_eq (a := .done (.ret .notImplemented)) (by with_unfolding_all rfl) ⟨_, rfl, hq⟩
  · intro Q' hq
    refine wpAny_call_entry slot_matcheq hT F.cmpEntry_eq ?_ (F.cmpArgs_eq _ _)
    exact wpAny_of_eq (a := .done (.ret .notImplemented)) (by with_unfolding_all rfl) ⟨_, rfl, hq⟩
  · intro Q' hq
    exact wpAny_of_eq (a := false) (by with_unfolding_all rfl) hq
  · exact wpAny_of_eq (a := false) (by with_unfolding_all rfl) h

def wpN {α : Type} (M : Model) (A : Around) (c : Code) (t : Sem α) (Q : α → Shared → Prop) (E : Value → Shared → Prop) (s : Shared) : Prop :=
  ∀ Γ p, Γ.code = c → Γ.In A → CleanB Γ → wp M Γ t (fun a _ s' => Q a s') (fun e _ s' => E e s') p s
theorem wpN_any {M : Model} {c : Code} {α : Type} {t : Sem α} {Q : α → Shared → Prop} (h : wpAny M A t Q E s) : wpN M A c t Q E s := fun Γ p _ hΓ _ => h Γ p hΓ
theorem wpN_bind {M : Model} {c : Code} {α β : Type} {m : Sem α} {f : α → Sem β} {Q : β → Shared → Prop} (h : wpN M A c m (fun a s' => wpN M A c (f a) Q E s') E s) :
    wpN M A c (m >>= f) Q E s := fun Γ p hc hΓ hl => by
  rw [Sem.wp_bind']
  exact Sem.wp_mono M Γ m (fun a p' s' h' => h' Γ p' hc hΓ hl) (fun _ _ _ h' => h') p s (h Γ p hc hΓ hl)
theorem wpN_mono {M : Model} {c : Code} {α : Type} {t : Sem α} {Q Q' : α → Shared → Prop} {E' : Value → Shared → Prop} (h : wpN M A c t Q E s)
    (hQ : ∀ a s, Q a s → Q' a s) (hE : ∀ e s, E e s → E' e s) : wpN M A c t Q' E' s :=
  fun Γ p hc hΓ hl => Sem.wp_mono M Γ t (fun a _ s => hQ a s) (fun e _ s => hE e s) p s (h Γ p hc hΓ hl)

theorem wpN_stack {M : Model} {c : Code} {Q : List (Code × Pos) → Shared → Prop} (h : ∀ p below, (∀ x ∈ below, isNext x.1 = false) → Q ((c, p) :: below) s) : wpN M A c stack Q E s := fun Γ p hc _ hl => by
  show Q ((Γ.code, p) :: Γ.below) s
  rw [hc]; exact h p Γ.below hl
theorem eqNoneNone {M : Model} {Q : Bool → Shared → Prop} (h : Q true s) : wpAny M A (eqBool .none .none) Q E s := by
  unfold eqBool
  refine wpAny_holding ?_
  rw [if_pos (by simp)]
  exact wpAny_bind (wpAny_rule (wpAny_pure h))

def nextCode (I : Addr) : Code := .builtin "callable_iterator.__next__" ⟨[.ref I], []⟩

/-- the body of next, from a text's scanner -/
theorem next_body {S B I P : Addr} {x : Str} {tk : Tok} {p : Nat} {Q : Value → Shared → Prop} {Qe : Shared → Prop} (hu : A.units + 1 < cLine) (hh : A.handled = none)
    (hS : s.heap.get? S = some (scanObj P x tk p)) (hB : s.heap.get? B = some (bmObj S)) (hI : s.heap.get? I = some (itObj B)) (hSB : S ≠ B) (hSI : S ≠ I) (Y : PatAt w s.heap P) (hsz : x.length ≤ sizeLine) (hp : p ≤ x.length)
    (hnone : nxt (suf x.cps p) = none → ∀ h' : Heap, (∀ b o, b ≠ S → b ≠ I → s.heap.get? b = some o → h'.get? b = some o) → Qe { s with heap := h' })
    (hsome : ∀ sk k n, nxt (suf x.cps p) = some (sk, k, n) → ∀ (h' : Heap) (m T : Addr), (∀ b o, b ≠ S → s.heap.get? b = some o → h'.get? b = some o) → h'.get? S = some (scanObj P x tk ((p + sk + n : Nat) : Int)) →
      MatchAt h' m T P x (spansOf k (p + sk) (p + sk + n)) → s.heap.get? m = none → s.heap.get? T = none → Q (.ref m) { s with heap := h' }) :
    wpN (M' prog w) A (nextCode I) (Builtin.«callable_iterator.__next__» ⟨[.ref I], []⟩) (fun fin s' => ∃ v, fin = .done (.ret v) ∧ Q v s')
      (fun e s' => ∃ a o, e = .ref a ∧ s'.heap.get? a = some o ∧ o.cls = .type "StopIteration" ∧ Qe s') s := by
  unfold Builtin.«callable_iterator.__next__»
  refine wpN_bind (wpN_any (wpAny_of_eq (a := (Value.ref I, [])) (by with_unfolding_all rfl) ?_))
  dsimp only
  refine wpN_bind (wpN_any (wpAny_field hI rfl (x := .bool false) rfl ?_))
  rw [if_neg (by simp)]
  refine wpN_bind (wpN_any (wpAny_field hI rfl (x := .ref B) rfl ?_))
  refine wpN_bind ?_
  have hcall : ∀ {R : Value → Shared → Prop}, (nxt (suf x.cps p) = none → ∀ h' : Heap, (∀ b o, b ≠ S → s.heap.get? b = some o → h'.get? b = some o) → R .none { s with heap := h' }) →
      (∀ sk k n, nxt (suf x.cps p) = some (sk, k, n) → ∀ (h' : Heap) (m T : Addr), (∀ b o, b ≠ S → s.heap.get? b = some o → h'.get? b = some o) → h'.get? S = some (scanObj P x tk ((p + sk + n : Nat) : Int)) →
      MatchAt h' m T P x (spansOf k (p + sk) (p + sk + n)) → s.heap.get? m = none → s.heap.get? T = none → R (.ref m) { s with heap := h' }) →
      wpN (M' prog w) A (nextCode I) (callOutOfASlot (.ref B)).attempt (fun r s' => match r with | .ok v => R v s' | .error _ => False) (fun e s' => ∃ a o, e = .ref a ∧ s'.heap.get? a = some o ∧ o.cls = .type "StopIteration" ∧ Qe s') s := by
    intro R r1 r2
    refine wpN_any (wpAny_attempt ?_)
    unfold callOutOfASlot
    refine wpAny_bind ?_
    unfold borrowsExactly
    refine wpAny_bind (wpAny_load hB ?_)
    dsimp only [bmObj]
    rw [if_neg (by decide +kernel), if_pos (by decide +kernel)]
    refine wpAny_pure ?_
    rw [if_neg (by simp)]
    exact bound_call hB hS rfl (fun c q => by cases q) (search_ hS Y hsz hp r1 r2)
  refine wpN_mono (hcall (R := fun v s' => (v = .none ∧ nxt (suf x.cps p) = none ∧ ∃ h' : Heap, s' = { s with heap := h' } ∧ ∀ b o, b ≠ S → s.heap.get? b = some o → h'.get? b = some o) ∨
      (∃ sk k n, nxt (suf x.cps p) = some (sk, k, n) ∧ ∃ (h' : Heap) (m T : Addr), v = .ref m ∧ s' = { s with heap := h' } ∧ (∀ b o, b ≠ S → s.heap.get? b = some o → h'.get? b = some o) ∧ h'.get? S = some (scanObj P x tk ((p + sk + n : Nat) : Int)) ∧
        MatchAt h' m T P x (spansOf k (p + sk) (p + sk + n)) ∧ s.heap.get? m = none ∧ s.heap.get? T = none))
      (fun hn h' hk => .inl ⟨rfl, hn, h', rfl, hk⟩) (fun sk k n hn h' m T hk hS' hM hm hT => .inr ⟨sk, k, n, hn, h', m, T, rfl, rfl, hk, hS', hM, hm, hT⟩)) (fun r s' hr => ?_) fun _ _ x => x
  cases r with
  | error e => exact hr.elim
  | ok v =>
    rcases hr with ⟨rfl, hn, h', rfl, hk⟩ | ⟨sk, k, n, hn, h', m, T, rfl, rfl, hk, hS', hM, hm, hT⟩
    · have hI' : h'.get? I = some (itObj B) := hk I _ (Ne.symm hSI) hI
      have hB' : h'.get? B = some (bmObj S) := hk B _ (Ne.symm hSB) hB
      dsimp only
      refine wpN_bind (wpN_any (wpAny_field hI' rfl (x := .bool false) rfl ?_))
      rw [if_neg (by simp)]
      refine wpN_bind (wpN_any (wpAny_field hI' rfl (x := .none) rfl ?_))
      refine wpN_bind (wpN_any (wpAny_holding (eqNoneNone ?_)))
      rw [if_neg (by simp)]
      refine wpN_bind (wpN_any (wpAny_rule ?_))
      refine wpN_bind ?_
      k_delta "callableEnd"
      refine wpN_bind (wpN_any (wpAny_field hI' rfl (x := .ref B) rfl ?_))
      refine wpN_bind ?_
      unfold slotLetsGo
      dsimp only
      refine wpN_bind (wpN_any ?_)
      unfold borrowsExactly
      refine wpAny_bind (wpAny_load hB' ?_)
      dsimp only [bmObj]
      rw [if_neg (by decide +kernel), if_pos (by decide +kernel)]
      refine wpAny_pure ?_
      rw [if_neg (by simp)]
      refine wpN_bind (wpN_stack fun p' below hb => ?_)
      have hno : (List.drop 1 ((nextCode I, p') :: below)).any (fun x => match x with | (c, _) => (match c with | .builtin "callable_iterator.__next__" y => y.pos.head? == some (Value.ref I) | _ => false)) = false := by
        rw [List.drop_one, List.tail_cons, List.any_eq_false]
        rintro ⟨c, q⟩ hx hq
        have := hb _ hx
        dsimp only at hq this
        split at hq
        · simp [isNext] at this
        · cases hq
      rw [if_neg (by rw [Bool.not_eq_true]; exact hno)]
      refine wpN_any (wpAny_pure ?_)
      refine wpN_bind (wpN_any (wpAny_setField hI' rfl (show 0 < 3 by decide) ?_))
      have g1 := Heap.get?_update_self (Obj.mapFields (·.setIfInBounds 0 .none)) hI' rfl
      refine wpN_bind (wpN_any (wpAny_setField g1 rfl (show 1 < 3 by decide) ?_))
      have g2 := Heap.get?_update_self (Obj.mapFields (·.setIfInBounds 1 .none)) g1 rfl
      refine wpN_any (wpAny_setField g2 rfl (show 2 < 3 by decide) ?_)
      have keep : ∀ b o, b ≠ S → b ≠ I → s.heap.get? b = some o → (((h'.update I (Obj.mapFields (·.setIfInBounds 0 .none))).update I (Obj.mapFields (·.setIfInBounds 1 .none))).update I (Obj.mapFields (·.setIfInBounds 2 (.bool true)))).get? b = some o := fun b o h1 h2 ho =>
        (Heap.get?_update_ne _ _ _ _ h2).trans ((Heap.get?_update_ne _ _ _ _ h2).trans ((Heap.get?_update_ne _ _ _ _ h2).trans (hk b o h1 ho)))
      show wpN (M' prog w) A _ (newExc (.type "StopIteration") [] >>= _) _ _ _
      refine wpN_bind (wpN_any ?_)
      simp only [newExc, newTuple]
      refine wpAny_bind (wpAny_newObj_type ?_ (by size_fits))
      refine wpAny_bind (m := firstArgMember _ _) (wpAny_of_eq (a := Value.none) (by first | rfl | (simp only [firstArgMember]; rfl)) ?_)
      refine wpAny_newObj_type ?_ (by size_fits)
      simp only [raiseNew]
      refine wpN_bind (wpN_any (wpAny_handled ?_))
      rw [hh]
      refine wpN_bind (wpN_any (wpAny_pure (wpN_any (wpAny_throw ?_))))
      exact ⟨_, _, rfl, Heap.get?_push_size _ rfl, rfl, hnone hn _ fun b o h1 h2 ho => Heap.get?_push_of_some _ (Heap.get?_push_of_some _ (keep b o h1 h2 ho))⟩
    · have hI' : h'.get? I = some (itObj B) := hk I _ (Ne.symm hSI) hI
      dsimp only
      refine wpN_bind (wpN_any (wpAny_field hI' rfl (x := .bool false) rfl ?_))
      rw [if_neg (by simp)]
      refine wpN_bind (wpN_any (wpAny_field hI' rfl (x := .none) rfl ?_))
      refine wpN_bind (wpN_any (wpAny_holding (wpAny_lift (eqNoneMatch hM (Nat.lt_of_succ_lt hu) ?_))))
      rw [if_pos (by simp)]
      exact wpN_any (wpAny_pure ⟨_, rfl, hsome sk k n hn h' m T hk hS' hM hm hT⟩)
end
end Mine

end

section
open PySem PySem.W PyProof.Rows
set_option Elab.async false
set_option maxRecDepth 100000
namespace Mine
open Builtin Builtin.Re
open Sem (wp)

section
variable {prog : Program} {w : World} {A : Around} {E : Value → Shared → Prop} {s : Shared}

theorem codeC_next {I : Addr} {R : Result → Shared → Prop} (h : wpN (M' prog w) A.in1 (nextCode I) (Builtin.«callable_iterator.__next__» ⟨[.ref I], []⟩) (fun fin s' => ∃ v, fin = .done (.ret v) ∧ R (.ok (.ret v)) s') (fun e s' => R (.error e) s') s) :
    codeC (M' prog w) A (nextCode I) R s := fun Γ p hc hΓ hl => by
  rw [wpCode_iff_wp, hc]
  have e : (M' prog w).den (nextCode I) = Builtin.«callable_iterator.__next__» ⟨[.ref I], []⟩ := by
    show den' (nextCode I) = _
    rw [den'_of (by rfl)]
    exact den_builtin entry_cinext
  rw [e]
  have hin : Γ.In A.in1 := by
    have := hΓ.in
    rw [hc, show A.under (nextCode I) = A.in1 from Around.under_plainId (by decide +kernel) _] at this
    exact this
  refine Sem.wp_mono (M' prog w) Γ _ (fun fin p' s' h' => ?_) (fun _ _ _ h' => h') p s (h Γ p hc hin hl)
  obtain ⟨v, rfl, hv⟩ := h'
  exact hv

theorem pyNext_ {S B I P : Addr} {x : Str} {tk : Tok} {p : Nat} {Q : Option Value → Shared → Prop} (hu : A.units + 2 < cLine) (hh : A.handled = none)
    (hS : s.heap.get? S = some (scanObj P x tk p)) (hB : s.heap.get? B = some (bmObj S)) (hI : s.heap.get? I = some (itObj B)) (hSB : S ≠ B) (hSI : S ≠ I) (Y : PatAt w s.heap P) (hsz : x.length ≤ sizeLine) (hp : p ≤ x.length)
    (hnone : nxt (suf x.cps p) = none → ∀ h' : Heap, (∀ b o, b ≠ S → b ≠ I → s.heap.get? b = some o → h'.get? b = some o) → Q none { s with heap := h' })
    (hsome : ∀ sk k n, nxt (suf x.cps p) = some (sk, k, n) → ∀ (h' : Heap) (m T : Addr), (∀ b o, b ≠ S → s.heap.get? b = some o → h'.get? b = some o) → h'.get? S = some (scanObj P x tk ((p + sk + n : Nat) : Int)) →
      MatchAt h' m T P x (spansOf k (p + sk) (p + sk + n)) → s.heap.get? m = none → s.heap.get? T = none → Q (some (.ref m)) { s with heap := h' }) :
    wpC (M' prog w) A (pyNext (.ref I)) Q E s := by
  have hT : s.TypeIs (.ref I) "callable_iterator" := ⟨_, hI, rfl⟩
  unfold pyNext
  refine wpC_bind (wpC_attempt' ?_)
  simp only [callSpecial?]
  refine wpC_bind (wpC_any (wpAny_specialOf hT slot_cinext.lookup ?_))
  simp only [slot_cinext.bind]
  refine wpC_holding (wpC_bind (wpC_pure (wpC_bind ?_)))
  refine wpC_call (codeC_of_tree (by rfl) ?_)
  have hu1 : A.under (.call (.builtin "callable_iterator.__next__") ⟨[.ref I] ++ [], []⟩) = A.in1 := Around.under_plain rfl rfl
  rw [hu1]
  show wpC (M' prog w) A.in1 (do checkBuiltinCall "callable_iterator.__next__" ⟨[.ref I], []⟩; again (.builtin "callable_iterator.__next__" ⟨[.ref I], []⟩)) _ _ s
  refine wpC_bind (wpC_any (slot_cinext.check _ _ _ _ _ _ _ _ hT (args_cinext _) ?_))
  refine wpC_pure ⟨plainId_quiet (by decide +kernel) _, ?_⟩
  refine codeC_next (fun Γ p' hc hΓ hl => ?_)
  have h := next_body (prog := prog) (A := A.in1) (Q := fun v s' => wpC (M' prog w) A (pure (some v)) (fun a => wpC (M' prog w) A (match (Except.ok a : Except Value (Option Value)) with
      | .ok (some v) => pure (some v)
      | .ok none => unsupported "iter:the-iterator's-class-has-lost-its-__next__-amid-the-walk"
      | .error e => do if ← isInstance e (.type "StopIteration") then pure none else throw e) Q E) (fun e => wpC (M' prog w) A (match (Except.error e : Except Value (Option Value)) with
      | .ok (some v) => pure (some v)
      | .ok none => unsupported "iter:the-iterator's-class-has-lost-its-__next__-amid-the-walk"
      | .error e => do if ← isInstance e (.type "StopIteration") then pure none else throw e) Q E) s') (Qe := fun s' => Q none s') hu hh hS hB hI hSB hSI Y hsz hp hnone ?_ Γ p' hc hΓ hl
  · refine Sem.wp_mono (M' prog w) Γ _ (fun _ _ _ x => x) (fun e _ s' x => ?_) p' s h
    obtain ⟨a, o, rfl, ho, hcl, hq⟩ := x
    show wpC (M' prog w) A (do if ← isInstance (.ref a) (.type "StopIteration") then pure none else throw (.ref a)) Q E s'
    refine wpC_bind (wpC_any (wpAny_isInstance (T := "StopIteration") (b := true) ⟨_, ho, hcl⟩ isSubtype_stop ?_))
    rw [if_pos rfl]
    exact wpC_pure hq
  · intro sk k n hn h' m T hk hS' hM hm hT
    exact wpC_pure (wpC_pure (hsome sk k n hn h' m T hk hS' hM hm hT))
end
end Mine

end

section
open PySem PySem.W PyProof.Rows
set_option Elab.async false
set_option maxRecDepth 100000
namespace Mine

/-! data, what stands for them in a heap without some addresses; the state of a function's frame -/

/-- the heap without the objects of some addresses -/
def er (h : Heap) (mu : List Addr) : Heap := ⟨h.objs.mapIdx fun i o => if mu.contains i then { o with data := .freed } else o, h.life⟩
theorem er_get (h : Heap) (mu : List Addr) (b : Addr) : (er h mu).get? b = if b ∈ mu then none else h.get? b := by
  unfold er Heap.get?
  simp only [Array.getElem?_mapIdx]
  by_cases hb : b ∈ mu
  · rw [if_pos hb]
    cases h.objs[b]? with
    | none => rfl
    | some o => simp [hb]
  · rw [if_neg hb]
    cases h.objs[b]? with
    | none => rfl
    | some o => simp [hb]
theorem er_of {h : Heap} {mu : List Addr} {b : Addr} {o : Obj} (hb : b ∉ mu) (e : h.get? b = some o) : (er h mu).get? b = some o := by rw [er_get, if_neg hb]; exact e
theorem er_to {h : Heap} {mu : List Addr} {b : Addr} {o : Obj} (e : (er h mu).get? b = some o) : b ∉ mu ∧ h.get? b = some o := by
  rw [er_get] at e
  by_cases hb : b ∈ mu
  · rw [if_pos hb] at e; cases e
  · rw [if_neg hb] at e; exact ⟨hb, e⟩
/-- the part of heap h off mu stands in the part of heap h' off mu' -/
theorem er_mono {h h' : Heap} {mu mu' : List Addr} (k : ∀ b o, b ∉ mu → h.get? b = some o → b ∉ mu' ∧ h'.get? b = some o) : ∀ b o, (er h mu).get? b = some o → (er h' mu').get? b = some o := fun b o e => by
  obtain ⟨hb, e⟩ := er_to e
  obtain ⟨h1, h2⟩ := k b o hb e
  exact er_of h1 h2

inductive V where
  | d (x : PyData)
  | m (x : Str) (k : Kind) (q r : Nat)

/-- the value stands for the datum -/
def Rep (w : World) (h : Heap) (v : Value) : V → Prop
  | .d x => ∃ as, Reads h v x as
  | .m x k q r => ∃ m T P, v = .ref m ∧ MatchAt h m T P x (spansOf k q r) ∧ PatAt w h P
theorem Rep.keeps {w : World} {h h' : Heap} {v : Value} {d : V} (r : Rep w h v d) (k : ∀ b o, h.get? b = some o → h'.get? b = some o) : Rep w h' v d := by
  cases d with
  | d x => obtain ⟨as, r⟩ := r; exact ⟨as, Reads.keeps k r⟩
  | m x kd q r' => obtain ⟨m, T, P, e, a, b⟩ := r; exact ⟨m, T, P, e, a.keeps k, b.keeps k⟩

structure Cfg where
  prog : Program
  w : World
  os : OsState
  mg : Str → Option Value
  mb : Str → Option Value
  G : Heap → Prop
  mono : ∀ {h h' : Heap}, G h → (∀ b o, h.get? b = some o → h'.get? b = some o) → G h'
  ns : ∀ {h}, G h → h.Ns mainGlobals mg
  bs : ∀ {h}, G h → h.Ns builtinsNs mb
  lim : ∀ {h}, G h → h.NoLimit

/-- what every state bears; mu: what may turn -/
structure Bs (C : Cfg) (mu : List Addr) (s : Shared) : Prop where
  g : C.G (er s.heap mu)
  gens : s.gens = #[]
  os : s.os = C.os
  live : ∀ a ∈ mu, (s.heap.get? a).isSome = true

/-- nothing that stood is changed -/
structure Ext (s s' : Shared) : Prop where
  keep : ∀ b o, s.heap.get? b = some o → s'.heap.get? b = some o
  gens : s'.gens = s.gens
  os : s'.os = s.os

theorem Ext.refl (s : Shared) : Ext s s := ⟨fun _ _ e => e, rfl, rfl⟩
theorem Ext.toks (s : Shared) (n : Nat) : Ext s { s with toks := n } := ⟨fun _ _ e => e, rfl, rfl⟩
theorem Ext.push (s : Shared) (o : Obj) (n : Nat) : Ext s { s with heap := s.heap.push o, toks := n } := ⟨fun _ _ e => Heap.get?_push_of_some _ e, rfl, rfl⟩

theorem Bs.er {C : Cfg} {mu : List Addr} {s s' : Shared} (_ : Bs C mu s) (k : Ext s s') : ∀ b o, (Mine.er s.heap mu).get? b = some o → (Mine.er s'.heap mu).get? b = some o :=
  er_mono fun b o hb e => ⟨hb, k.keep b o e⟩
theorem Bs.ext {C : Cfg} {mu : List Addr} {s s' : Shared} (X : Bs C mu s) (k : Ext s s') : Bs C mu s' :=
  ⟨C.mono X.g (X.er k), k.gens.trans X.gens, k.os.trans X.os, fun a ha => by
    obtain ⟨o, ho⟩ := Option.isSome_iff_exists.mp (X.live a ha)
    rw [k.keep a o ho]; rfl⟩
theorem Bs.fresh {C : Cfg} {mu : List Addr} {s : Shared} (X : Bs C mu s) {a : Addr} (h : s.heap.get? a = none) : a ∉ mu := fun ha => by
  have := X.live a ha
  rw [h] at this; cases this
theorem size_none (h : Heap) : h.get? h.objs.size = none := Heap.get?_none_of_le (Nat.le_refl _)
theorem Bs.sub {C : Cfg} {mu mu' : List Addr} {s : Shared} (X : Bs C mu s) (h : ∀ a ∈ mu', a ∈ mu) : Bs C mu' s :=
  ⟨C.mono X.g (er_mono fun b _ hb e => ⟨fun q => hb (h b q), e⟩), X.gens, X.os, fun a ha => X.live a (h a ha)⟩
theorem er_sub {h : Heap} {mu mu' : List Addr} (k : ∀ a ∈ mu', a ∈ mu) : ∀ b o, (er h mu).get? b = some o → (er h mu').get? b = some o := er_mono fun b _ hb e => ⟨fun q => hb (k b q), e⟩

def listObj (vs : List Value) (n : Nat) : Obj := { cls := .type "list", data := .seq vs.toArray n }

/-- the one list that the function is filling -/
def OwnAt (m : Str → Option Value) (h g : Heap) (oa : List Addr) : Option (Str × List PyData) → Prop
  | none => oa = []
  | some (x, ds) => ∃ a vs n as, oa = [a] ∧ m x = some (.ref a) ∧ h.get? a = some (listObj vs n) ∧ ReadsAll g vs ds as

/-- a frame's state: h₀ stands, the locals L bear env, own is the list in hand, tmp the values in hand -/
structure WW (C : Cfg) (h₀ : Heap) (mu : List Addr) (L : Addr) (env : List (Str × V)) (own : Option (Str × List PyData)) (tmp : List (Value × V)) (s : Shared) (m : Str → Option Value) (oa : List Addr) : Prop where
  ns : s.heap.Ns L m
  own : OwnAt m s.heap (er s.heap (L :: (oa ++ mu))) oa own
  bs : Bs C (L :: (oa ++ mu)) s
  env : ∀ x d, env.lookup x = some d → ∃ v, m x = some v ∧ Rep C.w (er s.heap (L :: (oa ++ mu))) v d
  tmp : ∀ p ∈ tmp, Rep C.w (er s.heap (L :: (oa ++ mu))) p.1 p.2
  keep : ∀ b o, h₀.get? b = some o → s.heap.get? b = some o
  offL : h₀.get? L = none
  offA : ∀ a ∈ oa, h₀.get? a = none ∧ a ≠ L ∧ a ∉ mu
  offM : L ∉ mu

def W (C : Cfg) (h₀ : Heap) (mu : List Addr) (L : Addr) (env : List (Str × V)) (own : Option (Str × List PyData)) (tmp : List (Value × V)) (s : Shared) : Prop := ∃ m oa, WW C h₀ mu L env own tmp s m oa

section
variable {C : Cfg} {h₀ : Heap} {mu : List Addr} {L : Addr} {env env' : List (Str × V)} {own : Option (Str × List PyData)} {tmp tmp' : List (Value × V)} {s s' : Shared} {m : Str → Option Value} {oa : List Addr}

theorem OwnAt.ext {g g' h h' : Heap} (X : OwnAt m h g oa own) (k : ∀ b o, h.get? b = some o → h'.get? b = some o) (kg : ∀ b o, g.get? b = some o → g'.get? b = some o) : OwnAt m h' g' oa own := by
  cases own with
  | none => exact X
  | some p =>
    obtain ⟨x, ds⟩ := p
    obtain ⟨a, vs, n, as, h1, h2, h3, h4⟩ := X
    exact ⟨a, vs, n, as, h1, h2, k _ _ h3, ReadsAll.keeps kg h4⟩

theorem WW.ext (X : WW C h₀ mu L env own tmp s m oa) (k : Ext s s') (t : ∀ p ∈ tmp', Rep C.w (er s'.heap (L :: (oa ++ mu))) p.1 p.2) : WW C h₀ mu L env own tmp' s' m oa :=
  have ke := X.bs.er k
  { ns := X.ns.keeps k.keep
    own := X.own.ext k.keep ke
    bs := X.bs.ext k
    env := fun x d e => let ⟨v, h1, h2⟩ := X.env x d e; ⟨v, h1, h2.keeps ke⟩
    tmp := t
    keep := fun b o e => k.keep _ _ (X.keep b o e)
    offL := X.offL
    offA := X.offA
    offM := X.offM }
/-- env told otherwise, or in part -/
theorem W.less (X : W C h₀ mu L env own tmp s) (h : ∀ x d, env'.lookup x = some d → env.lookup x = some d) : W C h₀ mu L env' own tmp s :=
  let ⟨m, oa, Y⟩ := X; ⟨m, oa, { Y with env := fun x d e => Y.env x d (h x d e) }⟩

theorem WW.w (Y : WW C h₀ mu L env own tmp s m oa) : W C h₀ mu L env own tmp s := ⟨m, oa, Y⟩
theorem WW.step (Y : WW C h₀ mu L env own tmp s m oa) (k : Ext s s') : WW C h₀ mu L env own tmp s' m oa := Y.ext k fun p hp => (Y.tmp p hp).keeps (Y.bs.er k)
theorem WW.drop (Y : WW C h₀ mu L env own tmp s m oa) (h : ∀ p ∈ tmp', p ∈ tmp) : WW C h₀ mu L env own tmp' s m oa := Y.ext (Ext.refl s) fun p hp => Y.tmp p (h p hp)

/-- a step that changes nothing that stood, and gives a value -/
structure Op (C : Cfg) (A : Around) (t : Sem Value) (ins : List (Value × V)) (d : V) : Prop where
  go : ∀ mu s, Bs C mu s → (∀ p ∈ ins, Rep C.w (er s.heap mu) p.1 p.2) → wpC (M' C.prog C.w) A t (fun v s' => Ext s s' ∧ Rep C.w (er s'.heap mu) v d) (fun _ _ => False) s

theorem Op.use {A : Around} {t : Sem Value} {ins : List (Value × V)} {d : V} (h : Op C A t ins d) (Y : WW C h₀ mu L env own tmp s m oa) (hi : ∀ p ∈ ins, p ∈ tmp) (ht : ∀ p ∈ tmp', p ∈ tmp) :
    wpC (M' C.prog C.w) A t (fun v s' => WW C h₀ mu L env own ((v, d) :: tmp') s' m oa) (fun _ _ => False) s := by
  refine wpC_mono (h.go (L :: (oa ++ mu)) s Y.bs fun p hp => Y.tmp p (hi p hp)) (fun v s' hv => Y.ext hv.1 fun p hp => ?_) fun _ _ x => x
  rcases List.mem_cons.mp hp with rfl | hp
  · exact hv.2
  · exact (Y.tmp p (ht p hp)).keeps (Y.bs.er hv.1)
end
end Mine

end

section
open PySem PySem.W PyProof.Rows
set_option Elab.async false
set_option maxRecDepth 100000
namespace Mine

/-! the expressions: what each gives, said of data -/

structure FD where
  sc : Scope
  cells : List (Str × Addr)
  qual : Str
  func : Option Addr
  code : Value
  frame : Addr → Option Addr
/-- the environment of a frame -/
@[reducible] def FD.env (f : FD) (L : Addr) : Env := { scope := f.sc, locals := L, globals := mainGlobals, cells := f.cells, qual := f.qual, func := f.func, code := f.code, frame := f.frame L, builtins := builtinsNs }
/-- of a function's frame -/
@[reducible] def FD.fn (nm : Str) (sc : Scope) (a : Addr) (cd : Value) : FD := ⟨sc, [], nm ++ ".<locals>.", some a, cd, fun L => some L⟩
/-- of a comprehension's, within -/
@[reducible] def FD.comp (sc : Scope) (f : FD) (L₀ : Addr) : FD := ⟨sc, [], f.qual, none, f.code, fun _ => f.frame L₀⟩

def S (l : List Nat) : Str := ⟨l.toArray⟩
abbrev vs (l : List Nat) : V := .d (.str (S l))
abbrev vi (i : Int) : V := .d (.int i)
abbrev vb (b : Bool) : V := .d (.bool b)
abbrev vn : V := .d .none
theorem S_len (l : List Nat) : (S l).length = l.length := by simp [S, Str.length]
theorem S_append (a b : List Nat) : S a ++ S b = S (a ++ b) := by
  show Str.append (S a) (S b) = _
  simp [S, Str.append]
theorem S_inj {a b : List Nat} : S a = S b ↔ a = b := by
  constructor
  · intro h
    have := congrArg (fun s => s.cps.toList) h
    simpa [S] using this
  · rintro rfl; rfl

set_option linter.unusedVariables false
def Room (A : Around) (n : Nat) : Prop := A.handled = none ∧ A.depth + n ≤ recursionLimit ∧ A.units + 20 * n + 200 ≤ cLine
theorem Room.le {A : Around} {n m : Nat} (h : Room A n) (k : m ≤ n) : Room A m := ⟨h.1, by have := h.2.1; omega, by have := h.2.2; omega⟩

section
variable (C : Cfg) (A : Around) (f : FD) (env : List (Str × V)) (own : Option (Str × List PyData))
structure Ev (e : Expr) (d : V) : Prop where
  go : ∀ h₀ mu L tmp s m oa, WW C h₀ mu L env own tmp s m oa →
  wpC (M' C.prog C.w) A (eval e (f.env L)) (fun v s' => WW C h₀ mu L env own ((v, d) :: tmp) s' m oa) (fun _ _ => False) s
structure Tst (e : Expr) (b : Bool) : Prop where
  go : ∀ h₀ mu L tmp s m oa, WW C h₀ mu L env own tmp s m oa →
  wpC (M' C.prog C.w) A (isTrue e (f.env L) (eval e (f.env L))) (fun b' s' => b' = b ∧ WW C h₀ mu L env own tmp s' m oa) (fun _ _ => False) s
structure Evs (es : List Expr) (ds : List V) : Prop where
  go : ∀ pos h₀ mu L tmp s m oa, WW C h₀ mu L env own tmp s m oa →
  wpC (M' C.prog C.w) A (spliced (backTo pos (starEach es (f.env L)))) (fun vs s' => vs.length = ds.length ∧ WW C h₀ mu L env own (vs.zip ds ++ tmp) s' m oa) (fun _ _ => False) s
end

section
variable {C : Cfg} {A : Around} {f : FD} {env : List (Str × V)} {own : Option (Str × List PyData)} {h₀ : Heap} {mu : List Addr} {L : Addr} {tmp tmp' : List (Value × V)} {s s' : Shared} {m : Str → Option Value} {oa : List Addr}

theorem WW.tail1 {p : Value × V} (X : WW C h₀ mu L env own (p :: tmp) s m oa) : WW C h₀ mu L env own tmp s m oa := X.drop fun _ hp => .tail _ hp

/-- from a step that changes nothing -/
theorem WW.put {v : Value} {d : V} (X : WW C h₀ mu L env own tmp s m oa) (k : Ext s s') (r : ∀ mu, Bs C mu s → (∀ p ∈ tmp, Rep C.w (er s.heap mu) p.1 p.2) → Rep C.w (er s'.heap mu) v d) : WW C h₀ mu L env own ((v, d) :: tmp) s' m oa := by
  refine X.ext k fun p hp => ?_
  rcases List.mem_cons.mp hp with rfl | hp
  · exact r _ X.bs X.tmp
  · exact (X.tmp p hp).keeps (X.bs.er k)

theorem Ev.name {x : Str} {pos : Pos} {d : V} (h : env.lookup x = some d) (hk : f.sc.kind = .function := by rfl) (hl : (f.env 0).kindOf x = some .local := by rfl) (hd : (x == ("__debug__" : Str)) = false := by decide +kernel) :
    Ev C A f env own (.Name x pos) d := by
  refine ⟨fun h₀ mu L tmp s m oa Y => ?_⟩
  obtain ⟨v, hv, r⟩ := Y.env x d h
  refine wpC_any (wpAny_Name (wpAny_loadName_local hk hl Y.ns hv (Y.ext (Ext.refl s) fun p hp => ?_)) hd)
  rcases List.mem_cons.mp hp with rfl | hp
  · exact r
  · exact Y.tmp p hp
theorem Ev.str {x : Str} {l : List Nat} {k : Nat} {pos : Pos} (hx : x = S l) : Ev C A f env own (.Constant (.str x) k pos) (vs l) := by
  refine ⟨fun h₀ mu L tmp s m oa X => ?_⟩
  subst hx
  exact wpC_any (wpAny_Constant_str (X.put (Ext.toks s _) fun mu _ _ => ⟨_, .str _ _⟩))
theorem Ev.int {i : Int} {k : Nat} {pos : Pos} : Ev C A f env own (.Constant (.int i) k pos) (vi i) := ⟨fun h₀ mu L tmp s m oa X =>
  wpC_any (wpAny_Constant_int (X.put (Ext.toks s _) fun mu _ _ => ⟨_, .int _ _⟩))⟩
theorem Ev.bool {b : Bool} {k : Nat} {pos : Pos} : Ev C A f env own (.Constant (.bool b) k pos) (vb b) := ⟨fun h₀ mu L tmp s m oa X =>
  wpC_any (wpAny_Constant_bool (X.put (Ext.refl s) fun mu _ _ => ⟨_, .bool _⟩))⟩
theorem Ev.none {k : Nat} {pos : Pos} : Ev C A f env own (.Constant .none k pos) vn := ⟨fun h₀ mu L tmp s m oa X =>
  wpC_any (wpAny_Constant_none (X.put (Ext.refl s) fun mu _ _ => ⟨_, .none⟩))⟩

theorem wpC_operate {M : Model} {vs : List Value} {m : Sem Value} {Q : Value → Shared → Prop} {E : Value → Shared → Prop} (h : wpC M A m Q E s) : wpC M A (operate vs m) Q E s :=
  fun Γ p hΓ hc => by rw [Sem.wp_operate]; exact h Γ p hΓ hc
theorem wpC_standAt {M : Model} {pos : Pos} {Q : Unit → Shared → Prop} {E : Value → Shared → Prop} (h : Q () s) : wpC M A (standAt pos) Q E s := wpC_any (wpAny_standAt h)

theorem Ev.bin {e₁ e₂ : Expr} {o : Operator} {pos : Pos} {d₁ d₂ d : V} (h1 : Ev C A f env own e₁ d₁) (h2 : Ev C A f env own e₂ d₂)
    (op : ∀ v₁ v₂, Op C A (binaryOp o v₁ v₂) [(v₁, d₁), (v₂, d₂)] d) : Ev C A f env own (.BinOp e₁ o e₂ pos) d := by
  refine ⟨fun h₀ mu L tmp s m oa X => ?_⟩
  rw [eval_BinOp]
  refine wpC_bind (wpC_mono (h1.go _ _ _ _ _ _ _ X) (fun v₁ s₁ X₁ => ?_) fun _ _ x => x)
  refine wpC_bind (wpC_holding (wpC_mono (h2.go _ _ _ _ _ _ _ X₁) (fun v₂ s₂ X₂ => ?_) fun _ _ x => x))
  refine wpC_bind (wpC_standAt (wpC_operate ((op v₁ v₂).use X₂ ?_ fun p hp => .tail _ (.tail _ hp))))
  simp

theorem Ev.cmp {e₁ e₂ : Expr} {o : CmpOp} {pos : Pos} {d₁ d₂ d : V} (h1 : Ev C A f env own e₁ d₁) (h2 : Ev C A f env own e₂ d₂)
    (op : ∀ v₁ v₂, Op C A (compareOp o v₁ v₂) [(v₁, d₁), (v₂, d₂)] d) (hm : behindInMarks o e₂ = false := by rfl) : Ev C A f env own (.Compare e₁ [o] [e₂] pos) d := by
  refine ⟨fun h₀ mu L tmp s m oa X => ?_⟩
  rw [eval_Compare1, markedBehindIn_of_false hm]
  refine wpC_bind (wpC_mono (h1.go _ _ _ _ _ _ _ X) (fun v₁ s₁ X₁ => ?_) fun _ _ x => x)
  refine wpC_bind (wpC_holding (wpC_mono (h2.go _ _ _ _ _ _ _ X₁) (fun v₂ s₂ X₂ => ?_) fun _ _ x => x))
  refine wpC_bind (wpC_standAt (wpC_operate ((op v₁ v₂).use X₂ ?_ fun p hp => .tail _ (.tail _ hp))))
  simp

theorem wpC_truthy_bool {M : Model} {b : Bool} {Q : Bool → Shared → Prop} {E : Value → Shared → Prop} (h : Q b s) : wpC M A (truthy (.bool b)) Q E s := wpC_any (wpAny_truthy_bool h)

theorem Tst.cmp {e₁ e₂ : Expr} {o : CmpOp} {pos : Pos} {d₁ d₂ : V} {b : Bool} (h1 : Ev C A f env own e₁ d₁) (h2 : Ev C A f env own e₂ d₂)
    (op : ∀ v₁ v₂, Op C A (compareOp o v₁ v₂) [(v₁, d₁), (v₂, d₂)] (vb b)) (hm : behindInMarks o e₂ = false := by rfl) : Tst C A f env own (.Compare e₁ [o] [e₂] pos) b := by
  refine ⟨fun h₀ mu L tmp s m oa X => ?_⟩
  rw [isTrue_Compare1, markedBehindIn_of_false hm]
  refine wpC_bind (wpC_mono (h1.go _ _ _ _ _ _ _ X) (fun v₁ s₁ X₁ => ?_) fun _ _ x => x)
  refine wpC_bind (wpC_holding (wpC_mono (h2.go _ _ _ _ _ _ _ X₁) (fun v₂ s₂ X₂ => ?_) fun _ _ x => x))
  refine wpC_bind (wpC_standAt (wpC_bind (wpC_operate (wpC_mono ((op v₁ v₂).use X₂ (by simp) fun p hp => .tail _ (.tail _ hp)) (fun c s₃ X₃ => ?_) fun _ _ x => x))))
  have : c = .bool b := by
    have Y := X₃
    obtain ⟨as, r⟩ := Y.tmp _ (.head _)
    cases r; rfl
  subst this
  exact wpC_holding (wpC_truthy_bool ⟨rfl, X₃.tail1⟩)

/-- truth of ints, bools, texts -/
def truth : PyData → Bool
  | .bool b => b
  | .int i => i != 0
  | .str x => (x.length : Int) != 0
  | _ => false
theorem Tst.value {e : Expr} {d : PyData} (h : Ev C A f env own e (.d d)) (hd : match d with | .bool _ => True | .int _ => True | .str x => x.length ≤ sizeLine | _ => False)
    (he : ∀ L whole, isTrue e (f.env L) whole = (do let v ← whole; standAt e.pos; holding [v] (truthy v)) := by intro L whole; rfl) : Tst C A f env own e (truth d) := by
  refine ⟨fun h₀ mu L tmp s m oa X => ?_⟩
  rw [he]
  refine wpC_bind (wpC_mono (h.go _ _ _ _ _ _ _ X) (fun v s₁ X₁ => wpC_bind (wpC_standAt (wpC_holding ?_))) fun _ _ x => x)
  have : ∃ as h, Reads h v d as := by
    have Y := X₁
    obtain ⟨as, r⟩ := Y.tmp _ (.head _)
    exact ⟨as, _, r⟩
  obtain ⟨as, hp, r⟩ := this
  cases d with
  | bool b => cases r; exact wpC_truthy_bool ⟨rfl, X₁.tail1⟩
  | int i => cases r; exact wpC_lift (P.truthy_int ⟨rfl, X₁.tail1⟩)
  | str x =>
    cases r
    dsimp only at hd
    rw [sizeLine_eq] at hd
    exact wpC_lift (P.truthy_str (by omega) ⟨rfl, X₁.tail1.step (Ext.toks _ _)⟩)
  | _ => exact hd.elim

theorem Ev.ifexp {t e₁ e₂ : Expr} {pos : Pos} {b : Bool} {d : V} (h : Tst C A f env own t b) (h1 : b = true → Ev C A f env own e₁ d) (h2 : b = false → Ev C A f env own e₂ d) : Ev C A f env own (.IfExp t e₁ e₂ pos) d := by
  refine ⟨fun h₀ mu L tmp s m oa X => ?_⟩
  rw [arm_eval_IfExp]
  refine wpC_bind (wpC_mono (h.go _ _ _ _ _ _ _ X) (fun b' s₁ hb => ?_) fun _ _ x => x)
  obtain ⟨rfl, X₁⟩ := hb
  cases b' with
  | true => exact (h1 rfl).go _ _ _ _ _ _ _ X₁
  | false => exact (h2 rfl).go _ _ _ _ _ _ _ X₁

theorem Evs.nil : Evs C A f env own [] [] := ⟨fun pos h₀ mu L tmp s m oa X => wpC_pure ⟨rfl, X⟩⟩
theorem Evs.cons {e : Expr} {es : List Expr} {d : V} {ds : List V} (h : Ev C A f env own e d) (hs : Evs C A f env own es ds)
    (he : ∀ env, starEach (e :: es) env = (false, eval e env) :: starEach es env := by intro _; rfl) : Evs C A f env own (e :: es) (d :: ds) := by
  refine ⟨fun pos h₀ mu L tmp s m oa X => ?_⟩
  rw [he]
  show wpC _ _ (do
    let v ← eval e (f.env L)
    let here ← (pure [v] : Sem (List Value))
    return here ++ (← holding here (spliced (backTo pos (starEach es (f.env L)))))) _ _ s
  refine wpC_bind (wpC_mono (h.go _ _ _ _ _ _ _ X) (fun v s₁ X₁ => wpC_bind (wpC_pure (wpC_bind (wpC_holding (wpC_mono (hs.go pos _ _ _ _ _ _ _ X₁) (fun vs s₂ X₂ => wpC_pure ?_) fun _ _ x => x))))) fun _ _ x => x)
  refine ⟨by simp [X₂.1], X₂.2.drop fun p hp => ?_⟩
  simp only [List.singleton_append, List.zip_cons_cons, List.cons_append, List.mem_cons, List.mem_append] at hp ⊢
  rcases hp with hp | hp | hp
  · exact .inr (.inl hp)
  · exact .inl hp
  · exact .inr (.inr hp)

theorem reps_reads {w : World} {h : Heap} : ∀ {vs : List Value} {ds : List PyData}, vs.length = ds.length → (∀ p ∈ vs.zip (ds.map V.d), Rep w h p.1 p.2) → ∃ as, ReadsAll h vs ds as
  | [], [], _, _ => ⟨_, .nil⟩
  | v :: vs, d :: ds, hl, h => by
    obtain ⟨as, r⟩ := h (v, .d d) (.head _)
    obtain ⟨bs, q⟩ := reps_reads (Nat.succ.inj hl) fun p hp => h p (.tail _ hp)
    exact ⟨_, .cons r q⟩

theorem Ev.tuple {es : List Expr} {ds : List PyData} {k : Nat} {pos : Pos} (h : Evs C A f env own es (ds.map V.d)) (hl : ds.length ≤ 100 := by decide) : Ev C A f env own (.Tuple es k pos) (.d (.tuple ds)) := by
  refine ⟨fun h₀ mu L tmp s m oa X => ?_⟩
  rw [arm_eval_Tuple]
  refine wpC_bind (wpC_standAt (wpC_bind (wpC_mono (h.go pos _ _ _ _ _ _ _ X) (fun vs s₁ X₁ => ?_) fun _ _ x => x)))
  obtain ⟨hlen, X₁⟩ := X₁
  rw [List.length_map] at hlen
  refine wpC_any (wpAny_newObj_type ?_ ?_)
  · refine WW.drop (X₁.put (v := .ref s₁.heap.objs.size) (d := .d (.tuple ds)) (Ext.push s₁ _ _) fun mu B R => ?_) (tmp' := (.ref s₁.heap.objs.size, .d (.tuple ds)) :: tmp) fun p hp => ?_
    · obtain ⟨as, r⟩ := reps_reads hlen fun p hp => R p (List.mem_append_left _ hp)
      exact ⟨as, reads_tuple_at (er_of (B.fresh (size_none _)) (Heap.get?_push_size _ rfl)) rfl rfl (by
        simpa using ReadsAll.keeps (B.er (Ext.push s₁ _ s₁.toks)) r)⟩
    · rcases List.mem_cons.mp hp with rfl | hp
      · exact .head _
      · exact .tail _ (List.mem_append_right _ hp)
  · show vs.toArray.size ≤ sizeLine
    rw [List.size_toArray, sizeLine_eq]; omega
end
end Mine

end

section
open PySem PySem.W PyProof.Rows
set_option Elab.async false
set_option maxRecDepth 100000
set_option linter.unusedVariables false
namespace Mine

section
variable {C : Cfg} {A : Around} {f : FD} {env : List (Str × V)} {own : Option (Str × List PyData)} {h₀ : Heap} {mu : List Addr} {L : Addr} {tmp tmp' : List (Value × V)} {s s' : Shared}

theorem er_le {h : Heap} {mu : List Addr} : ∀ b o, (er h mu).get? b = some o → h.get? b = some o := fun b o e => (er_to e).2

theorem Op.of1 {t : Sem Value} {v₁ : Value} {d₁ d : V} (h : ∀ mu s, Bs C mu s → Rep C.w (er s.heap mu) v₁ d₁ → wpC (M' C.prog C.w) A t (fun v s' => Ext s s' ∧ Rep C.w (er s'.heap mu) v d) (fun _ _ => False) s) :
    Op C A t [(v₁, d₁)] d := ⟨fun mu s B R => h mu s B (R _ (.head _))⟩
theorem Op.of2 {t : Sem Value} {v₁ v₂ : Value} {d₁ d₂ d : V} (h : ∀ mu s, Bs C mu s → Rep C.w (er s.heap mu) v₁ d₁ → Rep C.w (er s.heap mu) v₂ d₂ → wpC (M' C.prog C.w) A t (fun v s' => Ext s s' ∧ Rep C.w (er s'.heap mu) v d) (fun _ _ => False) s) :
    Op C A t [(v₁, d₁), (v₂, d₂)] d := ⟨fun mu s B R => h mu s B (R _ (.head _)) (R _ (.tail _ (.head _)))⟩
theorem Rep.str {w : World} {h : Heap} {v : Value} {x : Str} (r : Rep w h v (.d (.str x))) : ∃ t, v = .str x t := by
  obtain ⟨as, r⟩ := r; cases r; exact ⟨_, rfl⟩
theorem Rep.int {w : World} {h : Heap} {v : Value} {x : Int} (r : Rep w h v (vi x)) : ∃ t, v = .int x t := by
  obtain ⟨as, r⟩ := r; cases r; exact ⟨_, rfl⟩
theorem Rep.bool {w : World} {h : Heap} {v : Value} {x : Bool} (r : Rep w h v (vb x)) : v = .bool x := by
  obtain ⟨as, r⟩ := r; cases r; rfl
theorem Rep.none {w : World} {h : Heap} {v : Value} (r : Rep w h v vn) : v = .none := by
  obtain ⟨as, r⟩ := r; cases r; rfl
theorem Rep.mkStr {w : World} {h : Heap} (x : Str) (t : Tok) : Rep w h (.str x t) (.d (.str x)) := ⟨_, .str _ _⟩
theorem Rep.mkInt {w : World} {h : Heap} (x : Int) (t : Tok) : Rep w h (.int x t) (vi x) := ⟨_, .int _ _⟩
theorem Rep.mkBool {w : World} {h : Heap} (x : Bool) : Rep w h (.bool x) (vb x) := ⟨_, .bool _⟩

theorem Op.add {v₁ v₂ : Value} {a b : List Nat} (hsz : a.length + b.length ≤ sizeLine) : Op C A (binaryOp .Add v₁ v₂) [(v₁, vs a), (v₂, vs b)] (vs (a ++ b)) := .of2 fun mu s B r₁ r₂ => by
  obtain ⟨t, rfl⟩ := r₁.str
  obtain ⟨u, rfl⟩ := r₂.str
  refine wpC_lift (PyProof.Rows.add_str (fun t' tk => ⟨Ext.toks s tk, ?_⟩) (by rw [S_len, S_len]; exact hsz))
  rw [S_append]; exact Rep.mkStr _ _
theorem Op.addi {v₁ v₂ : Value} {a b : Int} : Op C A (binaryOp .Add v₁ v₂) [(v₁, vi a), (v₂, vi b)] (vi (a + b)) := .of2 fun mu s B r₁ r₂ => by
  obtain ⟨t, rfl⟩ := r₁.int
  obtain ⟨u, rfl⟩ := r₂.int
  exact wpC_lift (PyProof.Rows.add_int ⟨Ext.toks s _, Rep.mkInt _ _⟩)
theorem Op.modi {v₁ v₂ : Value} {a b : Int} (hb : b ≠ 0) : Op C A (binaryOp .Mod v₁ v₂) [(v₁, vi a), (v₂, vi b)] (vi (a.fmod b)) := .of2 fun mu s B r₁ r₂ => by
  obtain ⟨t, rfl⟩ := r₁.int
  obtain ⟨u, rfl⟩ := r₂.int
  exact wpC_lift (PyProof.Rows.mod_int' hb ⟨Ext.toks s _, Rep.mkInt _ _⟩)
theorem Op.divi {v₁ v₂ : Value} {a b : Int} (hb : b ≠ 0) (hp : Builtin.divisionGoesByPylong a b = false) : Op C A (binaryOp .FloorDiv v₁ v₂) [(v₁, vi a), (v₂, vi b)] (vi (a.fdiv b)) := .of2 fun mu s B r₁ r₂ => by
  obtain ⟨t, rfl⟩ := r₁.int
  obtain ⟨u, rfl⟩ := r₂.int
  exact wpC_lift (PyProof.Rows.floordiv_int hb ⟨Ext.toks s _, Rep.mkInt _ _⟩ (.inl hp))
theorem Op.lti {v₁ v₂ : Value} {a b : Int} : Op C A (compareOp .Lt v₁ v₂) [(v₁, vi a), (v₂, vi b)] (vb (decide (a < b))) := .of2 fun mu s B r₁ r₂ => by
  obtain ⟨t, rfl⟩ := r₁.int
  obtain ⟨u, rfl⟩ := r₂.int
  exact wpC_lift (PyProof.Rows.lt_int ⟨Ext.refl s, Rep.mkBool _⟩)
theorem Op.ne {v₁ v₂ : Value} {a b : PyData} (ha : SeqAt.shaped a = true) (hb : SeqAt.shaped b = true) (hu : A.units + 64 < cLine) : Op C A (compareOp .NotEq v₁ v₂) [(v₁, .d a), (v₂, .d b)] (vb (!PyData.eqv a b)) := .of2 fun mu s B r₁ r₂ => by
  obtain ⟨as, r₁⟩ := r₁
  obtain ⟨bs, r₂⟩ := r₂
  exact wpC_lift (ne_dataH (Reads.keeps er_le r₁) (Reads.keeps er_le r₂) ha hb hu ⟨Ext.refl s, Rep.mkBool _⟩)

def isNone : V → Bool
  | .d .none => true
  | _ => false
theorem Rep.isNone {w : World} {h : Heap} {v : Value} {d : V} (r : Rep w h v d) : (v == .none) = isNone d := by
  cases d with
  | d x =>
    obtain ⟨as, r⟩ := r
    cases r <;> rfl
  | m x k q e => obtain ⟨m, T, P, rfl, _⟩ := r; rfl
theorem Op.isnot {v₁ v₂ : Value} {d : V} : Op C A (compareOp .IsNot v₁ v₂) [(v₁, d), (v₂, vn)] (vb (!isNone d)) := .of2 fun mu s B r₁ r₂ => by
  obtain rfl := r₂.none
  exact wpC_any (isNot_none ⟨Ext.refl s, by rw [r₁.isNone]; exact Rep.mkBool _⟩)

/-! subscripts -/
theorem Ev.sub {e₁ e₂ : Expr} {pos : Pos} {d₁ d₂ d : V} (h1 : Ev C A f env own e₁ d₁) (h2 : Ev C A f env own e₂ d₂)
    (op : ∀ v₁ v₂, Op C A (subscriptTail e₁ e₂ v₁ v₂) [(v₁, d₁), (v₂, d₂)] d) : Ev C A f env own (.Subscript e₁ e₂ pos) d := by
  refine ⟨fun h₀ mu L tmp s m oa X => ?_⟩
  rw [arm_eval_Subscript]
  refine wpC_bind (wpC_mono (h1.go _ _ _ _ _ _ _ X) (fun v₁ s₁ X₁ => ?_) fun _ _ x => x)
  refine wpC_bind (wpC_holding (wpC_mono (h2.go _ _ _ _ _ _ _ X₁) (fun v₂ s₂ X₂ => ?_) fun _ _ x => x))
  refine wpC_bind (wpC_standAt ((op v₁ v₂).use X₂ ?_ fun p hp => .tail _ (.tail _ hp)))
  simp

theorem seqIndex_range {i : Int} {n j : Nat} (h : seqIndex? i n = some j) : -(n : Int) ≤ i ∧ i < n := by
  unfold seqIndex? at h
  dsimp only at h
  by_cases hi : i < 0
  · rw [if_pos hi] at h
    by_cases hc : (decide (0 ≤ i + (n : Int)) && decide (i + (n : Int) < n)) = true
    · simp at hc; omega
    · rw [if_neg hc] at h; cases h
  · rw [if_neg hi] at h
    by_cases hc : (decide (0 ≤ i) && decide (i < (n : Int))) = true
    · simp at hc; omega
    · rw [if_neg hc] at h; cases h
/-- the sign at a place -/
theorem Op.chr {e₁ e₂ : Expr} {v₁ v₂ : Value} {l : List Nat} {i : Int} {c : Nat} (hl : l.length ≤ sizeLine) (hc : (seqIndex? i l.length).bind (l[·]?) = some c)
    (hs : ∀ o i, subscripted e₂ false o i = operate [o, i] (getItem o i) := by intro _ _; rfl) (ht : ∀ x t r, letTemporaryGo e₁ (.str x t) r = pure () := by intro _ _ _; rfl) :
    Op C A (subscriptTail e₁ e₂ v₁ v₂) [(v₁, vs l), (v₂, vi i)] (vs [c]) := .of2 fun mu s B r₁ r₂ => by
  obtain ⟨t, rfl⟩ := r₁.str
  obtain ⟨u, rfl⟩ := r₂.int
  rw [sizeLine_eq] at hl
  have hr : (decide (i < -(2 ^ 63 : Int)) || decide (i ≥ 2 ^ 63)) = false := by
    cases hq : seqIndex? i l.length with
    | none => rw [hq] at hc; cases hc
    | some j =>
      have := seqIndex_range hq
      simp only [Bool.or_eq_false_iff, decide_eq_false_iff_not]
      omega
  refine wpC_lift (subscriptTail_builtin (typeIs_str s _ t) F.slot_str_getitem.lookup (P.getItem_str hr (c := c) ?_ ⟨Ext.toks s _, ?_⟩) (hs _ _) (ht _ _))
  · rw [S_len]
    refine Eq.trans ?_ hc
    congr 1
    funext j
    simp [S]
  · exact Rep.mkStr _ _
end
end Mine

end

section
open PySem PySem.W PyProof.Rows
set_option Elab.async false
set_option maxRecDepth 100000
set_option linter.unusedVariables false
namespace Mine
open Builtin.Str

def sl (l : List Nat) (lo hi : Option Int) (st : Int) : List Nat := (strSliceIndices lo hi st l.length).filterMap (l[·]?)
def clipN (v : Option Int) (dflt n : Nat) : Nat := match v with
  | none => dflt
  | some i => (max 0 (min (if i < 0 then i + (n : Int) else i) (n : Int))).toNat
theorem sliceRange_one {a b : Nat} : sliceRange a b 1 = (List.range (b - a)).map (fun k => a + k) := by
  unfold sliceRange
  simp only [show ((1 : Int) > 0) = True from by simp, if_true]
  by_cases hlt : (a : Int) < b
  · have e3 : (((b : Int) - a + 1 - 1) / 1).toNat = b - a := by rw [Int.ediv_one]; omega
    simp only [hlt, if_true, e3]
    exact List.map_congr_left fun k _ => by omega
  · have : b - a = 0 := by omega
    simp [hlt, this]
theorem indices_one (lo hi : Option Int) (n : Nat) : strSliceIndices lo hi 1 n = (List.range (clipN hi n n - clipN lo 0 n)).map (fun k => clipN lo 0 n + k) := by
  rw [← sliceRange_one]
  unfold strSliceIndices clipN
  simp only [show ((1 : Int) > 0) = True from by simp, if_true]
  congr 1
  · cases lo with
    | none => rfl
    | some i => dsimp only; split <;> omega
  · cases hi with
    | none => rfl
    | some i => dsimp only; split <;> omega
theorem clipN_le (v : Option Int) {d n : Nat} (hd : d ≤ n) : clipN v d n ≤ n := by
  unfold clipN; cases v with
  | none => exact hd
  | some i => dsimp only; split <;> omega
theorem sl_one (l : List Nat) (lo hi : Option Int) : sl l lo hi 1 = (l.drop (clipN lo 0 l.length)).take (clipN hi l.length l.length - clipN lo 0 l.length) := by
  unfold sl
  rw [indices_one]
  have h1 := clipN_le lo (Nat.zero_le l.length)
  have h2 := clipN_le hi (Nat.le_refl l.length)
  exact StrLaws.picks l _ _ (by omega)
theorem sl_whole (l : List Nat) (lo hi : Option Int) (h : (strSliceIndices lo hi 1 l.length).length = l.length) : sl l lo hi 1 = l := by
  rw [sl_one]
  rw [indices_one, List.length_map, List.length_range] at h
  have h1 := clipN_le lo (Nat.zero_le l.length)
  have h2 := clipN_le hi (Nat.le_refl l.length)
  by_cases h0 : l.length = 0
  · have : l = [] := List.length_eq_zero_iff.mp h0
    subst this; simp
  · have e1 : clipN lo 0 l.length = 0 := by omega
    rw [e1, List.drop_zero, List.take_of_length_le]; omega

section
variable {C : Cfg} {A : Around} {f : FD} {env : List (Str × V)} {own : Option (Str × List PyData)} {h₀ : Heap} {mu : List Addr} {L : Addr} {tmp tmp' : List (Value × V)} {s s' : Shared}

/-- a part of a slice: left out, or an int -/
def Part (C : Cfg) (A : Around) (f : FD) (env : List (Str × V)) (own : Option (Str × List PyData)) : Option Expr → Option Int → Prop
  | none, none => True
  | some e, some i => Ev C A f env own e (vi i)
  | _, _ => False

theorem Part.go {eo : Option Expr} {io : Option Int} {m : Str → Option Value} {oa : List Addr} (h : Part C A f env own eo io) (X : WW C h₀ mu L env own tmp s m oa) :
    wpC (M' C.prog C.w) A (valueOrNone (evalOpt eo (f.env L))) (fun v s' => ∃ l : Option (Int × Tok), v = partValue l ∧ l.map (·.1) = io ∧ WW C h₀ mu L env own tmp s' m oa) (fun _ _ => False) s := by
  cases eo with
  | none =>
    cases io with
    | none => exact wpC_pure ⟨none, rfl, rfl, X⟩
    | some i => exact h.elim
  | some e =>
    cases io with
    | none => exact h.elim
    | some i =>
      rw [arm_evalOpt_some]
      refine wpC_mono (Ev.go h _ _ _ _ _ _ _ X) (fun v s' X' => ?_) fun _ _ x => x
      obtain ⟨t, rfl⟩ : ∃ t, v = .int i t := by
        have Y := X'
        exact (Y.tmp _ (.head _)).int
      exact ⟨some (i, t), rfl, rfl, X'.tail1⟩

theorem sliceMade_post {l : List Nat} {t : Tok} {lo hi st : Option (Int × Tok)} {Q : Value → Shared → Prop} (hsz : (sl l (lo.map (·.1)) (hi.map (·.1)) ((st.map (·.1)).getD 1)).length ≤ sizeLine)
    (h : ∀ t' k, Q (.str (S (sl l (lo.map (·.1)) (hi.map (·.1)) ((st.map (·.1)).getD 1))) t') { s with toks := k }) : (sliceMade (S l) t lo hi st).post Q s := by
  have e0 : (S l).length = l.length := S_len l
  have e1 : (⟨((slicePicked (S l) lo hi st).filterMap ((S l).cps[·]?)).toArray⟩ : Str) = S (sl l (lo.map (·.1)) (hi.map (·.1)) ((st.map (·.1)).getD 1)) := by
    unfold sl S slicePicked Str.length
    simp
  unfold sliceMade
  rw [e1]
  split
  · rename_i hc
    rw [Bool.and_eq_true] at hc
    have hst : (st.map (·.1)).getD 1 = 1 := eq_of_beq hc.1
    have hlen := eq_of_beq hc.2
    unfold slicePicked at hlen
    rw [e0, hst] at hlen
    have := sl_whole l _ _ hlen
    have q := h t s.toks
    rw [hst, this] at q
    exact q
  · exact ⟨by rw [S_len]; exact hsz, h _ _⟩

theorem Ev.slice {e : Expr} {lo hi st : Option Expr} {p pos : Pos} {l : List Nat} {a b c : Option Int} (h : Ev C A f env own e (vs l)) (h1 : Part C A f env own lo a) (h2 : Part C A f env own hi b) (h3 : Part C A f env own st c)
    (h0 : (c.getD 1 == 0) = false) (hsz : l.length ≤ sizeLine) (hlen : (sl l a b (c.getD 1)).length ≤ l.length) (ht : ∀ x t r, letTemporaryGo e (.str x t) r = pure () := by intro _ _ _; rfl) :
    Ev C A f env own (.Subscript e (.Slice lo hi st p) pos) (vs (sl l a b (c.getD 1))) := by
  refine ⟨fun h₀ mu L tmp s m oa X => ?_⟩
  rw [arm_eval_Subscript]
  refine wpC_bind (wpC_mono (h.go _ _ _ _ _ _ _ X) (fun v₁ s₁ X₁ => ?_) fun _ _ x => x)
  obtain ⟨t, rfl⟩ : ∃ t, v₁ = .str (S l) t := by
    have Y := X₁
    exact (Y.tmp _ (.head _)).str
  rw [arm_eval_Slice]
  refine wpC_bind (wpC_holding (wpC_bind (wpC_mono (h1.go X₁) (fun vl s₂ X₂ => ?_) fun _ _ x => x)))
  obtain ⟨la, rfl, ea, X₂⟩ := X₂
  refine wpC_bind (wpC_holding (wpC_mono (h2.go X₂) (fun vu s₃ X₃ => ?_) fun _ _ x => x))
  obtain ⟨lb, rfl, eb, X₃⟩ := X₃
  refine wpC_bind (wpC_holding (wpC_mono (h3.go X₃) (fun vc s₄ X₄ => ?_) fun _ _ x => x))
  obtain ⟨lc, rfl, ec, X₄⟩ := X₄
  refine wpC_any (wpAny_newObj_type ?_)
  refine wpC_bind (wpC_standAt ?_)
  have hI : ({ s₄ with heap := s₄.heap.push { cls := .type "slice", data := .fields #[partValue la, partValue lb, partValue lc] } } : Shared).heap.IsSlice s₄.heap.objs.size la lb lc := ⟨_, Heap.get?_push_size _ rfl, rfl, rfl⟩
  have hop : subscripted (.Slice lo hi st p) false (.str (S l) t) (.ref s₄.heap.objs.size) = operate [.ref s₄.heap.objs.size, .str (S l) t] (getItem (.str (S l) t) (.ref s₄.heap.objs.size)) ∨
      subscripted (.Slice lo hi st p) false (.str (S l) t) (.ref s₄.heap.objs.size) = operate [.str (S l) t, .ref s₄.heap.objs.size] (getItem (.str (S l) t) (.ref s₄.heap.objs.size)) := by
    cases st with
    | none => exact .inl rfl
    | some x => exact .inr rfl
  have hget : wpC (M' C.prog C.w) A (subscripted (.Slice lo hi st p) false (.str (S l) t) (.ref s₄.heap.objs.size)) (fun v s' => WW C h₀ mu L env own ((v, vs (sl l a b (c.getD 1))) :: tmp) s' m oa) (fun _ _ => False)
      { s₄ with heap := s₄.heap.push { cls := .type "slice", data := .fields #[partValue la, partValue lb, partValue lc] } } := by
    have g : wpC (M' C.prog C.w) A (getItem (.str (S l) t) (.ref s₄.heap.objs.size)) (fun v s' => WW C h₀ mu L env own ((v, vs (sl l a b (c.getD 1))) :: tmp) s' m oa) (fun _ _ => False)
      { s₄ with heap := s₄.heap.push { cls := .type "slice", data := .fields #[partValue la, partValue lb, partValue lc] } } := by
      refine wpC_lift (wpAny_getItem_str_slice hI (by rw [ec]; exact h0) (sliceMade_post ?_ fun t' k => ?_))
      · rw [ea, eb, ec]; omega
      · rw [ea, eb, ec]
        exact WW.drop (X₄.put (v := .str _ t') (d := vs (sl l a b (c.getD 1))) (Ext.push s₄ _ k) fun mu _ _ => Rep.mkStr _ _) fun p hp => by
          rcases List.mem_cons.mp hp with rfl | hp
          · exact .head _
          · exact .tail _ (.tail _ hp)
    rcases hop with e | e
    · rw [e]; exact wpC_operate g
    · rw [e]; exact wpC_operate g
  rw [getitemInPython_of_ne (typeIs_str s₄ (S l) t).not_modules]
  refine wpC_bind (wpC_any (wpAny_bind (wpAny_specialOf (typeIs_str _ _ t) F.slot_str_getitem.lookup (wpAny_pure ?_))))
  exact wpC_bind (wpC_mono hget (fun r s₅ X₅ => by rw [ht]; exact wpC_bind (wpC_pure (wpC_pure X₅))) fun _ _ x => x)
end
end Mine

end

section
open PySem PySem.W PyProof.Rows
set_option Elab.async false
set_option maxRecDepth 100000
set_option linter.unusedVariables false
namespace Mine

/-! calls of functions: from outside, from inside -/

section
variable (C : Cfg) (A : Around) (f : FD)
/-- what a block does: r the value given back, or none -/
structure Ex (env : List (Str × V)) (own : Option (Str × List PyData)) (ss : List Stmt) (P : Option V → List (Str × V) → Option (Str × List PyData) → Prop) : Prop where
  go : ∀ h₀ mu L s, W C h₀ mu L env own [] s → wpC (M' C.prog C.w) A (execs ss (f.env L)) (fun fl s' => ∃ r env' own', P r env' own' ∧
    (match (r : Option V) with | none => fl = .next ∧ W C h₀ mu L env' own' [] s' | some d => ∃ v, fl = .ret v ∧ W C h₀ mu L env' own' [(v, d)] s')) (fun _ _ => False) s
end

/-- a function of the text stands at a -/
def FnAt (C : Cfg) (a : Addr) (nm : Str) (params : Arguments) (body : List Stmt) (sc : Scope) (cd : Value) : Prop :=
  ∀ h, C.G h → ∃ o pm doc, h.get? a = some o ∧ o.data = .func (Calls.docDef nm params body sc pm cd doc) ∧ h.CodeRec cd nm

/-- the contract of a function: of these data it makes this datum -/
def Fun (C : Cfg) (a : Addr) (n : Nat) (ds : List V) (d : V) : Prop := ∀ A vals, Room A n → vals.length = ds.length → Op C A (call (.ref a) vals) (vals.zip ds) d

section
variable {C : Cfg} {A : Around} {f : FD} {env : List (Str × V)} {own : Option (Str × List PyData)} {h₀ : Heap} {mu : List Addr} {L : Addr} {tmp tmp' : List (Value × V)} {s s' : Shared}

theorem codeC_func {prog : Program} {w : World} {body : List Stmt} {env : Env} {R : Result → Shared → Prop}
    (h : wpC (M' prog w) (A.deeper env) (execs body env) (fun f s' => R (.ok (.ret (match f with | .ret v => v | _ => .none))) s') (fun _ _ => False) s) : codeC (M' prog w) A (.func body env) R s := by
  refine codeC_of_tree (by rfl) ?_
  show wpC _ (A.deeper env) (den' (.func body env)) _ _ s
  rw [den'_of (by rfl)]
  show wpC _ (A.deeper env) (do point; match ← (execs body env).onRaise (leaving env) with | .ret v => ret v | _ => ret .none) _ _ s
  refine wpC_bind (wpC_any (wpAny_point (wpC_bind (wpC_onRaise (wpC_mono h (fun f s' h' => ?_) fun _ _ x => x)))))
  cases f <;> exact wpC_pure h'

theorem codeC_call_fn {prog : Program} {w : World} {nm : Str} {params : Arguments} {body : List Stmt} {sc : Scope} {pm cd doc : Value} {a : Addr} {o : Obj} {args : List Value} {binds : List (Str × Value)} {R : Result → Shared → Prop}
    (hroom : A.depth < recursionLimit) (ho : s.heap.get? a = some o) (hdata : o.data = .func (Calls.docDef nm params body sc pm cd doc)) (hlim : s.heap.NoLimit) (hcd : s.heap.CodeRec cd nm)
    (hbind : bindArgs (Calls.docDef nm params body sc pm cd doc) ⟨args, []⟩ = pure binds) (hloc : ∀ x ∈ binds, sc.names.lookup x.1 = some .local)
    (h : ∀ h₁, Fr s.heap s.heap.objs.size h₁ (fun x => binds.reverse.lookup x) →
      wpC (M' prog w) (A.deeper (envOf nm sc s.heap.objs.size a cd)) (execs body (envOf nm sc s.heap.objs.size a cd))
        (fun f s' => R (.ok (.ret (match f with | .ret v => v | _ => .none))) s') (fun _ _ => False) { s with heap := h₁, toks := s.toks + binds.length })
    (hco : sc.isCoroutine = false) (hgen : sc.isGenerator = false) (hk : sc.kind = .function) (hcell : ∀ x ∈ sc.names, x.2 ≠ .cell) :
    codeC (M' prog w) A (.call (.ref a) ⟨args, []⟩) R s := by
  refine codeC_of_tree (by rfl) ?_
  rw [Around.under_plain (A := A) (c := .call (.ref a) ⟨args, []⟩) rfl rfl]
  show wpC _ _ (den' (.call (.ref a) ⟨args, []⟩)) _ _ s
  rw [den'_of (by rfl)]
  show wpC _ A.in1 (callAny (.ref a) ⟨args, []⟩) _ _ s
  simp only [callAny]
  refine wpC_bind (wpC_any (wpAny_load ho ?_))
  obtain ⟨c, oc, vs, tq, hc, hoc, hdc, hq⟩ := hcd
  rw [hdata]
  show wpC _ A.in1 (callFunction a (Calls.docDef nm params body sc pm cd doc) ⟨args, []⟩) _ _ s
  unfold callFunction
  rw [hbind]
  dsimp only [Calls.docDef]
  rw [hc, hco, hgen]
  refine wpC_bind (m := field (.ref c) 1) (wpC_any (wpAny_field hoc hdc hq (wpC_bind (wpC_pure ?_))))
  refine wpC_bind (wpC_pure (wpC_bind (wpC_any (wpAny_newFunctionEnv hcell hloc (fun h₁ hns hsb => ?_) hk))))
  refine wpC_bind (wpC_any (wpAny_enterFrame (hlim.fresh _ hsb) hroom ?_))
  refine wpC_pure ⟨rfl, ?_⟩
  have h' := h h₁ ⟨hns, fun b o e => hsb.extBut b o (Nat.ne_of_lt (Heap.lt_size e)) (Heap.get?_push_of_some _ e), Nat.le_refl _⟩
  rw [hc] at h'
  exact codeC_func h'

theorem Room.deeper {n : Nat} (h : Room A (n + 1)) (env : Env) : Room (A.deeper env) n := by
  refine ⟨h.1, ?_, ?_⟩
  · have := h.2.1
    show A.depth + 1 + n ≤ recursionLimit
    omega
  · have := h.2.2
    show A.units + 3 + 20 * n + 200 ≤ cLine
    omega

theorem zip_lookup {x : Str} {d : V} : ∀ {xs : List Str} {ds : List V} {vals : List Value}, vals.length = ds.length → (xs.zip ds).lookup x = some d → ∃ v, (xs.zip vals).lookup x = some v ∧ (v, d) ∈ vals.zip ds
  | [], _, _, _, h => by cases h
  | _ :: _, [], _, _, h => by cases h
  | y :: ys, e :: es, [], hl, h => by cases hl
  | y :: ys, e :: es, v :: vs, hl, h => by
    simp only [List.zip_cons_cons, List.lookup_cons] at h ⊢
    by_cases hx : (x == y) = true
    · rw [hx] at h ⊢
      dsimp only at h ⊢
      cases h
      exact ⟨v, rfl, .head _⟩
    · rw [Bool.not_eq_true] at hx
      rw [hx] at h ⊢
      dsimp only at h ⊢
      obtain ⟨v', a, b⟩ := zip_lookup (Nat.succ.inj hl) h
      exact ⟨v', a, .tail _ b⟩

theorem lookup_rev {x : Str} {v : Value} : ∀ {l : List (Str × Value)}, (l.map (·.1)).Nodup → l.lookup x = some v → l.reverse.lookup x = some v := by
  intro l hn h
  have key : ∀ (l : List (Str × Value)) (r : List (Str × Value)), (l.map (·.1)).Nodup → l.lookup x = some v → (∀ p ∈ r, p.1 ∉ l.map (·.1)) → (l.reverse ++ r).lookup x = some v := by
    intro l
    induction l with
    | nil => intro r _ h; cases h
    | cons p l ih =>
      intro r hn h hr
      obtain ⟨y, u⟩ := p
      rw [List.reverse_cons, List.append_assoc]
      simp only [List.map_cons, List.nodup_cons] at hn
      simp only [List.lookup_cons] at h
      by_cases hx : (x == y) = true
      · have : x = y := eq_of_beq hx
        subst this
        simp only [beq_self_eq_true, Option.some.injEq] at h
        subst h
        have gen : ∀ (q : List (Str × Value)), x ∉ q.map (·.1) → (q ++ ([(x, u)] ++ r)).lookup x = some u := by
          intro q
          induction q with
          | nil => intro _; simp
          | cons z q iq =>
            intro hz
            simp only [List.map_cons, List.mem_cons, not_or] at hz
            rw [List.cons_append, List.lookup_cons]
            have : (x == z.1) = false := beq_eq_false_iff_ne.mpr hz.1
            rw [this]
            exact iq hz.2
        refine gen _ ?_
        rw [List.map_reverse, List.mem_reverse]; exact hn.1
      · rw [Bool.not_eq_true] at hx
        rw [hx] at h
        refine ih _ hn.2 h fun p hp => ?_
        rcases List.mem_append.mp hp with hp | hp
        · simp only [List.mem_singleton] at hp
          subst hp; exact hn.1
        · intro hm; exact hr p hp (by simp only [List.map_cons, List.mem_cons]; exact .inr hm)
  have := key l [] hn h (fun _ hp => nomatch hp)
  simpa using this

/-- a call of a function of the text: its frame is entered -/
theorem enter_fn {a : Addr} {nm : Str} {params : Arguments} {body : List Stmt} {sc : Scope} {cd : Value} {ds : List V} {xs : List Str} {vals : List Value} {Q : Value → Shared → Prop} (F : FnAt C a nm params body sc cd)
    (hb : ∀ pm doc (vals : List Value), vals.length = ds.length → bindArgs (Calls.docDef nm params body sc pm cd doc) ⟨vals, []⟩ = pure (xs.zip vals))
    (hxs : xs.length = ds.length) (hnd : xs.Nodup) (hloc : ∀ x ∈ xs, sc.names.lookup x = some .local) (hroom : A.depth < recursionLimit) (hlen : vals.length = ds.length) (B : Bs C mu s) (R : ∀ p ∈ vals.zip ds, Rep C.w (er s.heap mu) p.1 p.2)
    (h : ∀ L s₁, W C s.heap mu L (xs.zip ds) none [] s₁ → Ext s s₁ → wpC (M' C.prog C.w) (A.deeper ((FD.fn nm sc a cd).env L)) (execs body ((FD.fn nm sc a cd).env L))
      (fun fl s' => Q (match fl with | .ret v => v | _ => .none) s') (fun _ _ => False) s₁)
    (hco : sc.isCoroutine = false := by rfl) (hgen : sc.isGenerator = false := by rfl) (hk : sc.kind = .function := by rfl) (hcell : (sc.names.all fun x => x.2 != .cell) = true := by rfl) :
    wpC (M' C.prog C.w) A (call (.ref a) vals) Q (fun _ _ => False) s := by
  have kk : ∀ b o, (er s.heap mu).get? b = some o → s.heap.get? b = some o := er_le
  obtain ⟨o, pm, doc, ho, hdata, hcd⟩ := F _ B.g
  refine wpC_call (codeC_call_fn hroom (kk _ _ ho) hdata ((C.lim B.g).keeps kk) (hcd.keeps kk) (hb pm doc vals hlen) ?_ (fun h₁ Fh => ?_) hco hgen hk fun x hx => bne_iff_ne.mp (List.all_eq_true.mp hcell x hx))
  · intro x hx
    obtain ⟨y, v⟩ := x
    exact hloc y (List.of_mem_zip hx).1
  · have hfresh : s.heap.objs.size ∉ mu := B.fresh (size_none _)
    have hlive : ∀ a ∈ mu, (h₁.get? a).isSome = true := fun a ha => by
      obtain ⟨oa, hoa⟩ := Option.isSome_iff_exists.mp (B.live a ha)
      rw [Fh.keep a oa hoa]; rfl
    have kmono : ∀ b o, (er s.heap mu).get? b = some o → (er h₁ (s.heap.objs.size :: ([] ++ mu))).get? b = some o := er_mono fun b o hbm e => ⟨by
      simp only [List.nil_append, List.mem_cons, not_or]
      exact ⟨Nat.ne_of_lt (Heap.lt_size e), hbm⟩, Fh.keep b o e⟩
    have X : W C s.heap mu s.heap.objs.size (xs.zip ds) none [] { s with heap := h₁, toks := s.toks + (xs.zip vals).length } := by
      refine ⟨fun x => (xs.zip vals).reverse.lookup x, [], ?_⟩
      constructor
      · exact Fh.ns
      · rfl
      · refine ⟨C.mono B.g kmono, B.gens, B.os, fun a ha => ?_⟩
        rcases List.mem_cons.mp ha with rfl | ha
        · obtain ⟨oL, _, _, hL, _⟩ := Fh.ns
          rw [hL]; rfl
        · exact hlive a ha
      · intro x dx hx
        obtain ⟨v, h1, h2⟩ := zip_lookup hlen hx
        refine ⟨v, lookup_rev ?_ h1, (R _ h2).keeps kmono⟩
        rw [List.map_fst_zip (by omega)]; exact hnd
      · exact fun p hp => nomatch hp
      · exact Fh.keep
      · exact size_none _
      · exact fun a ha => nomatch ha
      · exact hfresh
    exact wpC_mono (h _ _ X ⟨Fh.keep, rfl, rfl⟩) (fun fl s' hq => hq) fun _ _ x => x

/-- a function's contract, from what its body does -/
theorem Fun.of_body {a : Addr} {nm : Str} {params : Arguments} {body : List Stmt} {sc : Scope} {cd : Value} {n : Nat} {ds : List V} {d : V} {xs : List Str} (F : FnAt C a nm params body sc cd)
    (hb : ∀ pm doc (vals : List Value), vals.length = ds.length → bindArgs (Calls.docDef nm params body sc pm cd doc) ⟨vals, []⟩ = pure (xs.zip vals))
    (hxs : xs.length = ds.length) (hnd : xs.Nodup) (hloc : ∀ x ∈ xs, sc.names.lookup x = some .local)
    (hbody : ∀ A, Room A n → Ex C A (FD.fn nm sc a cd) (xs.zip ds) none body fun r _ _ => r = some d)
    (hco : sc.isCoroutine = false := by rfl) (hgen : sc.isGenerator = false := by rfl) (hk : sc.kind = .function := by rfl) (hcell : (sc.names.all fun x => x.2 != .cell) = true := by rfl) :
    Fun C a (n + 1) ds d := fun A vals hR hlen => by
  refine ⟨fun mu s B R => ?_⟩
  refine enter_fn F hb hxs hnd hloc (by have := hR.2.1; omega) hlen B R (fun L s₁ X _ => ?_) hco hgen hk hcell
  refine wpC_mono ((hbody _ (hR.deeper _)).go _ _ _ _ X) (fun fl s' hp => ?_) fun _ _ x => x
  obtain ⟨r, env', own', rfl, v, rfl, m, oa, Y⟩ := hp
  dsimp only
  refine ⟨⟨Y.keep, Y.bs.gens.trans B.gens.symm, Y.bs.os.trans B.os.symm⟩, ?_⟩
  exact (Y.tmp _ (.head _)).keeps (er_mono fun b o hbm e => ⟨fun q => hbm (.tail _ (List.mem_append_right _ q)), e⟩)
end
end Mine

end

section
open PySem PySem.W PyProof.Rows
set_option Elab.async false
set_option maxRecDepth 100000
set_option linter.unusedVariables false
namespace Mine

section
variable {C : Cfg} {A : Around} {f : FD} {env : List (Str × V)} {own : Option (Str × List PyData)} {h₀ : Heap} {mu : List Addr} {L : Addr} {tmp tmp' : List (Value × V)} {s s' : Shared} {m : Str → Option Value} {oa : List Addr}

/-- a name of the text's top -/
theorem glob_name {x : Str} {pos : Pos} {v : Value} {Q : Value → Shared → Prop} (hg : C.mg x = some v) (X : WW C h₀ mu L env own tmp s m oa) (h : Q v s)
    (hk : f.sc.kind = .function) (hx : (f.env L).kindOf x = some .globalImplicit) (hd : (x == ("__debug__" : Str)) = false) : wpC (M' C.prog C.w) A (eval (.Name x pos) (f.env L)) Q (fun _ _ => False) s := by
  have Y := X
  exact wpC_any (Calls.Name_function_global hk hx (Calls.loadGlobal_global (env := f.env L) ((C.ns Y.bs.g).keeps er_le) hg h) hd)
theorem built_name {x : Str} {pos : Pos} {v : Value} {Q : Value → Shared → Prop} (hg : C.mg x = none) (hb : C.mb x = some v) (X : WW C h₀ mu L env own tmp s m oa) (h : Q v s)
    (hk : f.sc.kind = .function) (hx : (f.env L).kindOf x = some .globalImplicit) (hd : (x == ("__debug__" : Str)) = false) : wpC (M' C.prog C.w) A (eval (.Name x pos) (f.env L)) Q (fun _ _ => False) s := by
  have Y := X
  exact wpC_any (Calls.Name_function_global hk hx (Calls.loadGlobal_builtin (env := f.env L) ((C.ns Y.bs.g).keeps er_le) hg ((C.bs Y.bs.g).keeps er_le) hb h) hd)

theorem evalArgs_ {es : List Expr} {ds : List V} {fv : Value} {pos : Pos} (h : Evs C A f env own es ds) (hst : (backTo pos (starEach es (f.env L))).any (·.1) = false) (X : WW C h₀ mu L env own tmp s m oa) :
    wpC (M' C.prog C.w) A (evalArgs fv true (backTo pos (starEach es (f.env L))) []) (fun x s' => x.kw = [] ∧ x.pos.length = ds.length ∧ WW C h₀ mu L env own (x.pos.zip ds ++ tmp) s' m oa) (fun _ _ => False) s := by
  have key : wpC (M' C.prog C.w) A (spliced (backTo pos (starEach es (f.env L))) >>= fun vs => (pure (vs, (none : Option Value)) : Sem (List Value × Option Value)) >>= fun r => holding (r.1 ++ r.2.toList) (do
      let kw := ([] : List Str).zip (← evalAll [])
      return ⟨← (pure r.1 : Sem (List Value)), kw⟩)) (fun (x : Args) s' => x.kw = [] ∧ x.pos.length = ds.length ∧ WW C h₀ mu L env own (x.pos.zip ds ++ tmp) s' m oa) (fun _ _ => False) s := by
    refine wpC_bind (wpC_mono (h.go pos _ _ _ _ _ _ _ X) (fun vs s' h' => ?_) fun _ _ x => x)
    refine wpC_bind (wpC_pure (wpC_holding ?_))
    refine wpC_bind (wpC_pure (wpC_bind (wpC_pure (wpC_pure ⟨rfl, h'.1, h'.2⟩))))
  unfold evalArgs
  cases hb : backTo pos (starEach es (f.env L)) with
  | nil => rw [hb] at key; exact key
  | cons p r =>
    obtain ⟨b, t⟩ := p
    rw [hb] at key hst
    simp only [List.any_cons, Bool.or_eq_false_iff] at hst
    cases b with
    | true => exact absurd hst.1 (by simp)
    | false => exact key

/-- a callee that callWith keeps: a builtin, or a function of the text -/
def Callee (C : Cfg) (fv : Value) : Prop := (∀ a, fv ≠ .ref a) ∨ ∃ a, fv = .ref a ∧ ∀ h, C.G h → ∃ o fd, h.get? a = some o ∧ o.data = .func fd
theorem FnAt.callee {a : Addr} {nm : Str} {params : Arguments} {body : List Stmt} {sc : Scope} {cd : Value} (F : FnAt C a nm params body sc cd) : Callee C (.ref a) :=
  .inr ⟨a, rfl, fun h g => let ⟨o, pm, doc, h1, h2, _⟩ := F h g; ⟨o, _, h1, h2⟩⟩

theorem callWith_ {es : List Expr} {ds : List V} {fv : Value} {first : List Value} {pos : Pos} {Q : Value → Shared → Prop} (hf : Callee C fv) (h : Evs C A f env own es ds) (hst : (backTo pos (starEach es (f.env L))).any (·.1) = false) (X : WW C h₀ mu L env own tmp s m oa)
    (op : ∀ vals s', vals.length = ds.length → WW C h₀ mu L env own (vals.zip ds ++ tmp) s' m oa → wpC (M' C.prog C.w) A (call fv (first ++ vals)) Q (fun _ _ => False) s') :
    wpC (M' C.prog C.w) A (callWith pos fv first (backTo pos (starEach es (f.env L))) []) Q (fun _ _ => False) s := by
  unfold callWith
  refine wpC_bind (wpC_holding (wpC_mono (evalArgs_ h hst X) (fun x s₁ hx => wpC_bind (wpC_standAt ?_)) fun _ _ x => x))
  obtain ⟨p, k⟩ := x
  obtain ⟨rfl, hl, X₁⟩ := hx
  simp only [hst, List.any_nil, Bool.or_false]
  have C₁ := op p s₁ hl X₁
  have tail : ∀ {t : Sem Value}, wpC (M' C.prog C.w) A t Q (fun _ _ => False) s₁ → wpC (M' C.prog C.w) A (t >>= fun r => holding [r] point >>= fun _ => pure r) Q (fun _ _ => False) s₁ :=
    fun ht => wpC_bind (wpC_mono ht (fun r s₂ hr => wpC_bind (wpC_holding (wpC_any (wpAny_point (wpC_pure hr))))) fun _ _ x => x)
  have keeper : ∀ {Q' : Keeper → Shared → Prop}, Q' .machine s₁ → Q' .frame s₁ → wpC (M' C.prog C.w) A (keeperOf fv) Q' (fun _ _ => False) s₁ := by
    intro Q' q1 q2
    rcases hf with hf | ⟨a, rfl, hf⟩
    · unfold keeperOf
      cases fv with
      | ref a => exact absurd rfl (hf a)
      | _ => exact wpC_pure q1
    · have Y := X₁
      obtain ⟨o, fd, ho, hd⟩ := hf _ Y.bs.g
      unfold keeperOf
      refine wpC_bind (wpC_any (wpAny_load (er_le _ _ ho) ?_))
      rw [hd]
      exact wpC_pure q2
  refine wpC_bind (keeper ?_ ?_)
  · exact tail C₁
  · dsimp only
    split
    · exact tail C₁
    · exact tail (by unfold callMarked; exact wpC_keep C₁)

theorem Ev.call {x : Str} {p pos : Pos} {args : List Expr} {ds : List V} {fv : Value} {d : V} (hg : C.mg x = some fv ∨ (C.mg x = Option.none ∧ C.mb x = some fv)) (hf : Callee C fv) (h : Evs C A f env own args ds)
    (op : ∀ vals, vals.length = ds.length → Op C A (PySem.call fv vals) (vals.zip ds) d)
    (hk : f.sc.kind = .function := by rfl) (hx : ∀ L, (f.env L).kindOf x = some .globalImplicit := by intro _; rfl) (hd : (x == ("__debug__" : Str)) = false := by decide +kernel)
    (hst : ∀ L, (backTo pos (starEach args (f.env L))).any (·.1) = false := by intro _; rfl) : Ev C A f env own (.Call (.Name x p) args [] pos) d := by
  refine ⟨fun h₀ mu L tmp s m oa X => ?_⟩
  rw [arm_eval_Call_Name']
  have go : wpC (M' C.prog C.w) A (callWith pos fv [] (backTo pos (starEach args (f.env L))) []) (fun v s' => WW C h₀ mu L env own ((v, d) :: tmp) s' m oa) (fun _ _ => False) s :=
    callWith_ hf h (hst L) X fun vals s' hl X' => (op vals hl).use X' (fun p hp => List.mem_append_left _ hp) fun p hp => List.mem_append_right _ hp
  rcases hg with hg | ⟨hg, hb⟩
  · exact wpC_bind (glob_name hg X go hk (hx L) hd)
  · exact wpC_bind (built_name hg hb X go hk (hx L) hd)

theorem methodCall_ {o : Expr} {name : Str} {apos pos : Pos} {args : List Expr} {ov : Value} {T id : String} {Q : Value → Shared → Prop} (pa : PlainAttrs T) (slot : Slot T name id) (hty : typeOf (.builtin id) = pure (.type "method_descriptor"))
    (hT : s.TypeIs ov T) (hd : ∀ a, ov = .ref a → ∃ ob, s.heap.get? a = some ob ∧ ob.dict = none)
    (hfew : methodCallForm (args.length + 0) (backTo pos (starEach args (f.env L))) [] = true) (hline : (apos.endLine == pos.line) = true)
    (h : wpC (M' C.prog C.w) A (callWith pos (.builtin id) [ov] (backTo pos (starEach args (f.env L))) []) Q (fun _ _ => False) s) :
    wpC (M' C.prog C.w) A (methodCall o name apos pos (f.env L) ov (args.length + 0) (backTo pos (starEach args (f.env L))) []) Q (fun _ _ => False) s := by
  have hpos : methodCallPos true o (f.env L) apos pos = pure pos := by unfold methodCallPos; simp [hline]
  unfold methodCall
  rw [hfew]
  refine wpC_bind (wpC_holding (wpC_any (getMethod_builtin hT pa slot hty hd ?_)))
  rw [hpos]
  exact wpC_bind (wpC_pure h)

/-- data that are of a built-in type -/
def OfT (T : String) (d : V) : Prop := ∀ (w : World) (mu : List Addr) (s : Shared) (v : Value), Rep w (er s.heap mu) v d → s.TypeIs v T ∧ ∀ a, v = .ref a → ∃ ob : Obj, s.heap.get? a = some ob ∧ ob.dict = none
theorem OfT.str (x : Str) : OfT "str" (.d (.str x)) := fun w mu s v r => by
  obtain ⟨t, rfl⟩ := r.str
  exact ⟨typeIs_str _ _ _, fun _ e => nomatch e⟩
theorem OfT.mat {x : Str} {k : Kind} {q e : Nat} : OfT "re.Match" (.m x k q e) := fun w mu s v r => by
  obtain ⟨m, T, P, rfl, ⟨tk, li, lim, a, b⟩, _⟩ := r
  exact ⟨⟨_, er_le _ _ a, rfl⟩, fun a' e => by cases e; exact ⟨_, er_le _ _ a, rfl⟩⟩

theorem Ev.meth {o : Expr} {name : Str} {apos pos : Pos} {args : List Expr} {ds : List V} {T id : String} {dv d : V} (ho : Ev C A f env own o dv) (hT : OfT T dv) (pa : PlainAttrs T) (slot : Slot T name id) (hty : typeOf (.builtin id) = pure (.type "method_descriptor")) (h : Evs C A f env own args ds)
    (op : ∀ ov vals, vals.length = ds.length → Op C A (PySem.call (.builtin id) (ov :: vals)) ((ov, dv) :: vals.zip ds) d)
    (hbase : ∀ L, attributeBase o name (f.env L) (eval o (f.env L)) = eval o (f.env L) := by intro _; rfl) (hline : (apos.endLine == pos.line) = true := by rfl)
    (hfew : ∀ L, methodCallForm (args.length + 0) (backTo pos (starEach args (f.env L))) [] = true := by intro _; rfl)
    (hst : ∀ L, (backTo pos (starEach args (f.env L))).any (·.1) = false := by intro _; rfl) : Ev C A f env own (.Call (.Attribute o name apos) args [] pos) d := by
  refine ⟨fun h₀ mu L tmp s m oa X => ?_⟩
  rw [arm_eval_Call, hbase]
  refine wpC_bind (wpC_mono (ho.go _ _ _ _ _ _ _ X) (fun ov s₁ X₁ => ?_) fun _ _ x => x)
  refine wpC_bind (wpC_standAt ?_)
  have tt : s₁.TypeIs ov T ∧ ∀ a, ov = .ref a → ∃ ob : Obj, s₁.heap.get? a = some ob ∧ ob.dict = Option.none := by
    have Y := X₁
    exact hT _ _ _ _ (Y.tmp _ (.head _))
  refine methodCall_ pa slot hty tt.1 tt.2 (hfew L) hline (callWith_ (.inl fun a e => nomatch e) h (hst L) X₁ fun vals s' hl X' => ?_)
  refine (op ov vals hl).use X' (fun p hp => ?_) fun p hp => List.mem_append_right _ (.tail _ hp)
  rcases List.mem_cons.mp hp with rfl | hp
  · exact List.mem_append_right _ (.head _)
  · exact List.mem_append_left _ hp
end
end Mine

end

section
open PySem PySem.W PyProof.Rows
set_option Elab.async false
set_option maxRecDepth 100000
set_option linter.unusedVariables false
namespace Mine

/-! statements -/

section
variable {C : Cfg} {A : Around} {f : FD} {env : List (Str × V)} {own : Option (Str × List PyData)} {h₀ : Heap} {mu : List Addr} {L : Addr} {tmp tmp' : List (Value × V)} {s s' : Shared}
  {P P' : Option V → List (Str × V) → Option (Str × List PyData) → Prop} {rest : List Stmt}

abbrev notOwn (own : Option (Str × List PyData)) (x : Str) : Prop := match own with
  | none => True
  | some p => (p.1 == x) = false

theorem W.store {x : Str} {v : Value} {d : V} {Q : Unit → Shared → Prop} (X : W C h₀ mu L env own ((v, d) :: tmp) s) (ho : notOwn own x) (h : ∀ s', W C h₀ mu L ((x, d) :: env) own tmp s' → Q () s')
    (hk : f.sc.kind = .function) (hl : (f.env L).kindOf x = some .local) : wpC (M' C.prog C.w) A (bindName (f.env L) x v) Q (fun _ _ => False) s := by
  obtain ⟨m, oa, Y⟩ := X
  refine wpC_any (wpAny_bindName (wpAny_storeName_local hl Y.ns (fun h' hn hs => h _ ?_) (by show (f.sc.kind == .class || (f.sc.kind == .module && L != mainGlobals)) = false; rw [hk]; rfl)))
  have ke : ∀ b o, (er s.heap (L :: (oa ++ mu))).get? b = some o → (er h' (L :: (oa ++ mu))).get? b = some o := er_mono fun b o hb e => ⟨hb, (hs.2 b fun q => hb (q ▸ .head _)).trans e⟩
  have hL : ∀ b o, b ≠ L → s.heap.get? b = some o → h'.get? b = some o := fun b o hb e => (hs.2 b hb).trans e
  refine ⟨fun y => if y = x then some v else m y, oa, ?_⟩
  constructor
  · exact hn
  · cases own with
    | none => exact Y.own
    | some p =>
      obtain ⟨y, ds⟩ := p
      obtain ⟨a, vs, n, as, h1, h2, h3, h4⟩ := Y.own
      refine ⟨a, vs, n, as, h1, ?_, hL _ _ ((Y.offA a (by rw [h1]; exact .head _)).2.1) h3, ReadsAll.keeps ke h4⟩
      show (if y = x then some v else m y) = some (.ref a)
      rw [if_neg (by intro e; subst e; simp [notOwn] at ho)]
      exact h2
  · refine ⟨C.mono Y.bs.g ke, Y.bs.gens, Y.bs.os, fun a ha => ?_⟩
    by_cases hq : a = L
    · subst hq
      obtain ⟨o, _, _, e, _⟩ := hn
      exact (congrArg Option.isSome e : (h'.get? a).isSome = true)
    · obtain ⟨o, e⟩ := Option.isSome_iff_exists.mp (Y.bs.live a ha)
      exact (congrArg Option.isSome (hL a o hq e) : (h'.get? a).isSome = true)
  · intro y dy hy
    rw [List.lookup_cons] at hy
    by_cases hq : y = x
    · subst hq
      simp only [beq_self_eq_true, Option.some.injEq] at hy
      subst hy
      exact ⟨v, if_pos rfl, (Y.tmp _ (.head _)).keeps ke⟩
    · have : (y == x) = false := beq_eq_false_iff_ne.mpr hq
      rw [this] at hy
      obtain ⟨v', h1, h2⟩ := Y.env y dy hy
      exact ⟨v', (if_neg hq).trans h1, h2.keeps ke⟩
  · exact fun p hp => (Y.tmp p (.tail _ hp)).keeps ke
  · exact fun b o e => hL b o (by rintro rfl; rw [Y.offL] at e; cases e) (Y.keep b o e)
  · exact Y.offL
  · exact Y.offA
  · exact Y.offM

theorem Ex.nil (h : P none env own) : Ex C A f env own [] P := by
  refine ⟨fun h₀ mu L s X => ?_⟩
  rw [execs_nil]
  exact wpC_pure ⟨none, env, own, h, rfl, X⟩

theorem Ex.assign {x : Str} {p pos : Pos} {e : Expr} {d : V} (h : Ev C A f env own e d) (hr : Ex C A f ((x, d) :: env) own rest P) (ho : notOwn own x := by first | trivial | decide +kernel)
    (hs : ∀ L, swapsWith e (some (.Name x p)) pos.line (f.env L) = pure false := by intro _; rfl)
    (hk : f.sc.kind = .function := by rfl) (hl : ∀ L, (f.env L).kindOf x = some .local := by intro _; rfl) : Ex C A f env own (.Assign [.Name x p] e pos :: rest) P := by
  refine ⟨fun h₀ mu L s X => ?_⟩
  obtain ⟨m, oa, X⟩ := X
  rw [execs_cons, exec_Assign_Name _ _ _ _ _ (hs L)]
  refine wpC_bind (wpC_bind (wpC_standAt (wpC_bind (wpC_mono (h.go _ _ _ _ _ _ _ X) (fun v s₁ X₁ => ?_) fun _ _ x => x))))
  exact wpC_bind (wpC_standAt (wpC_bind (X₁.w.store ho (fun s₂ X₂ => wpC_pure (hr.go _ _ _ _ X₂)) hk (hl L))))

theorem Ex.aug {x : Str} {p pos : Pos} {o : Operator} {e : Expr} {d₁ d₂ d : V} (h1 : env.lookup x = some d₁) (h2 : Ev C A f env own e d₂) (op : ∀ v₁ v₂, Op C A (inplaceOp o v₁ v₂) [(v₁, d₁), (v₂, d₂)] d)
    (hr : Ex C A f ((x, d) :: env) own rest P) (ho : notOwn own x := by first | trivial | decide +kernel) (hk : f.sc.kind = .function := by rfl) (hl : ∀ L, (f.env L).kindOf x = some .local := by intro _; rfl) :
    Ex C A f env own (.AugAssign (.Name x p) o e pos :: rest) P := by
  refine ⟨fun h₀ mu L s X => ?_⟩
  obtain ⟨m, oa, X⟩ := X
  rw [execs_cons, exec_AugAssign_Name]
  refine wpC_bind (wpC_bind (wpC_standAt (wpC_bind ?_)))
  have hload : wpC (M' C.prog C.w) A (loadName (f.env L) x) (fun v s' => WW C h₀ mu L env own [(v, d₁)] s' m oa) (fun _ _ => False) s := by
    obtain ⟨v, hv, r⟩ := X.env x d₁ h1
    exact wpC_any (wpAny_loadName_local hk (hl L) X.ns hv (X.ext (Ext.refl s) fun p hp => by
      rcases List.mem_cons.mp hp with rfl | hp
      · exact r
      · cases hp))
  refine wpC_mono hload (fun v₁ s₁ X₁ => ?_) fun _ _ x => x
  refine wpC_bind (wpC_holding (wpC_mono (h2.go _ _ _ _ _ _ _ X₁) (fun v₂ s₂ X₂ => ?_) fun _ _ x => x))
  refine wpC_bind (wpC_standAt (wpC_bind (wpC_operate (wpC_mono ((op v₁ v₂).use X₂ (tmp' := []) (by simp) (by simp)) (fun v s₃ X₃ => ?_) fun _ _ x => x))))
  exact wpC_bind (wpC_standAt (wpC_bind (X₃.w.store ho (fun s₂ X₂ => wpC_pure (hr.go _ _ _ _ X₂)) hk (hl L))))

theorem Ex.ret {e : Expr} {pos : Pos} {d : V} (h : Ev C A f env own e d) (hp : P (some d) env own) : Ex C A f env own (.Return (some e) pos :: rest) P := by
  refine ⟨fun h₀ mu L s X => ?_⟩
  obtain ⟨m, oa, X⟩ := X
  rw [execs_cons, exec_Return_some]
  exact wpC_bind (wpC_bind (wpC_standAt (wpC_bind (wpC_mono (h.go _ _ _ _ _ _ _ X) (fun v s₁ X₁ => wpC_pure (wpC_pure ⟨some d, env, own, hp, v, rfl, X₁.w⟩)) fun _ _ x => x))))

theorem execs_append (env : Env) : ∀ a b : List Stmt, execs (a ++ b) env = (do match ← execs a env with | .next => execs b env | f => pure f)
  | [], b => by rw [execs_nil, pure_bind]; rfl
  | st :: a, b => by
    rw [List.cons_append, execs_cons, execs_cons, bind_assoc]
    congr 1
    funext f
    cases f with
    | next => exact execs_append env a b
    | _ => rw [pure_bind]

theorem Ex.append {a b : List Stmt} (h : Ex C A f env own (a ++ b) P) : ∀ h₀ mu L s, W C h₀ mu L env own [] s → wpC (M' C.prog C.w) A (do match ← execs a (f.env L) with | .next => execs b (f.env L) | f => pure f)
    (fun fl s' => ∃ r env' own', P r env' own' ∧ (match (r : Option V) with | none => fl = .next ∧ W C h₀ mu L env' own' [] s' | some d => ∃ v, fl = .ret v ∧ W C h₀ mu L env' own' [(v, d)] s')) (fun _ _ => False) s := fun h₀ mu L s X => by
  rw [← execs_append]; exact h.go _ _ _ _ X

theorem Ex.cond {t : Expr} {a b : List Stmt} {pos : Pos} {c : Bool} (h : Tst C A f env own t c) (h1 : c = true → Ex C A f env own (a ++ rest) P) (h2 : c = false → Ex C A f env own (b ++ rest) P) :
    Ex C A f env own (.If t a b pos :: rest) P := by
  refine ⟨fun h₀ mu L s X => ?_⟩
  obtain ⟨m, oa, X⟩ := X
  rw [execs_cons, exec_If, bind_assoc]
  refine wpC_bind (wpC_standAt ?_)
  rw [bind_assoc]
  refine wpC_bind (wpC_mono (h.go _ _ _ _ _ _ _ X) (fun c' s₁ hc => ?_) fun _ _ x => x)
  obtain ⟨rfl, X₁⟩ := hc
  cases c' with
  | true => exact (h1 rfl).append _ _ _ _ X₁.w
  | false => exact (h2 rfl).append _ _ _ _ X₁.w

/-- the list in hand is done: it is data now -/
theorem W.freeze {x : Str} {ds : List PyData} (X : W C h₀ mu L env (some (x, ds)) tmp s) : W C h₀ mu L ((x, .d (.list ds)) :: env) none tmp s := by
  obtain ⟨m, oa, Y⟩ := X
  obtain ⟨a, vs, n, as, rfl, h2, h3, h4⟩ := Y.own
  have ke : ∀ b o, (er s.heap (L :: ([a] ++ mu))).get? b = some o → (er s.heap (L :: ([] ++ mu))).get? b = some o := er_sub fun b hb => by
    simp only [List.nil_append, List.mem_cons, List.cons_append] at hb ⊢
    rcases hb with hb | hb
    · exact .inl hb
    · exact .inr (.inr hb)
  have hoff := Y.offA a (.head _)
  refine ⟨m, [], ?_⟩
  constructor
  · exact Y.ns
  · rfl
  · exact Y.bs.sub fun b hb => by
      simp only [List.nil_append, List.mem_cons, List.cons_append] at hb ⊢
      rcases hb with hb | hb
      · exact .inl hb
      · exact .inr (.inr hb)
  · intro y dy hy
    rw [List.lookup_cons] at hy
    by_cases hq : y = x
    · subst hq
      simp only [beq_self_eq_true, Option.some.injEq] at hy
      subst hy
      refine ⟨_, h2, _, reads_list_at (er_of ?_ h3) rfl rfl (by simpa using ReadsAll.keeps ke h4)⟩
      simp only [List.nil_append, List.mem_cons, not_or]
      exact ⟨hoff.2.1, hoff.2.2⟩
    · have : (y == x) = false := beq_eq_false_iff_ne.mpr hq
      rw [this] at hy
      obtain ⟨v', h1, h2⟩ := Y.env y dy hy
      exact ⟨v', h1, h2.keeps ke⟩
  · exact fun p hp => (Y.tmp p hp).keeps ke
  · exact Y.keep
  · exact Y.offL
  · exact fun a ha => nomatch ha
  · exact Y.offM
theorem Ex.freeze {x : Str} {ds : List PyData} {ss : List Stmt} (h : Ex C A f ((x, .d (.list ds)) :: env) none ss P) : Ex C A f env (some (x, ds)) ss P := ⟨fun h₀ mu L s X => h.go _ _ _ _ X.freeze⟩
end
end Mine

end

section
open PySem PySem.W PyProof.Rows
set_option Elab.async false
set_option maxRecDepth 100000
set_option linter.unusedVariables false
namespace Mine

/-! loops over anything that can be walked -/

/-- an iterator: az what it turns, Z k: it stands before its k-th item -/
structure Steps (C : Cfg) (A : Around) (tg : Expr) (az : List Addr) (Z : Nat → Heap → Heap → Prop) (it : Value) (items : List V) : Prop where
  iter : ∀ k s lo mu (Q : Value → Shared → Prop), Z k (er s.heap lo) (er s.heap mu) → Q it s → wpC (M' C.prog C.w) A (pyIter it) Q (fun _ _ => False) s
  mono : ∀ k g g' e e', Z k g e → (∀ b o, g.get? b = some o → g'.get? b = some o) → (∀ b o, e.get? b = some o → e'.get? b = some o) → Z k g' e'
  next : ∀ k s lo mu, (∀ a ∈ az, a ∈ mu ∧ a ∉ lo) → (∀ a ∈ lo, a ∈ mu) → Bs C mu s → Z k (er s.heap lo) (er s.heap mu) → k ≤ items.length →
    wpC (M' C.prog C.w) A (pyNext it) (fun r s' => match r with
      | none => k = items.length ∧ ((∀ b o, b ∉ az → s.heap.get? b = some o → s'.heap.get? b = some o) ∧ s'.gens = s.gens ∧ s'.os = s.os)
      | some v => wpC (M' C.prog C.w) A (letOwnedTupleGo tg it v) (fun _ s'' => (∃ d, items[k]? = some d ∧ Rep C.w (er s''.heap mu) v d ∧ Z (k + 1) (er s''.heap lo) (er s''.heap mu)) ∧
          ((∀ b o, b ∉ az → s.heap.get? b = some o → s''.heap.get? b = some o) ∧ s''.gens = s.gens ∧ s''.os = s.os ∧ ∀ a ∈ az, (s''.heap.get? a).isSome = true)) (fun _ _ => False) s') (fun _ _ => False) s

/-- the state at a loop's head -/
def WI (C : Cfg) (az : List Addr) (Z : Nat → Heap → Heap → Prop) (h₀ : Heap) (mu : List Addr) (L : Addr) (env : List (Str × V)) (own : Option (Str × List PyData)) (tmp : List (Value × V)) (k : Nat) (s : Shared) (m : Str → Option Value) (oa : List Addr) : Prop :=
  WW C h₀ (az ++ mu) L env own tmp s m oa ∧ Z k (er s.heap (L :: oa)) (er s.heap (L :: (oa ++ (az ++ mu)))) ∧ ∀ a ∈ az, h₀.get? a = none ∧ a ∉ mu

structure Starts (C : Cfg) (A : Around) (f : FD) (env : List (Str × V)) (own : Option (Str × List PyData)) (tg iter : Expr) (items : List V) : Prop where
  go : ∀ h₀ mu L tmp s m oa, WW C h₀ mu L env own tmp s m oa →
  wpC (M' C.prog C.w) A (eval iter (f.env L)) (fun v s₁ => wpC (M' C.prog C.w) A (pyIter v) (fun it s₂ => ∃ az Z, Steps C A tg az Z it items ∧ WI C az Z h₀ mu L env own tmp 0 s₂ m oa) (fun _ _ => False) s₁) (fun _ _ => False) s

/-- binding of a target -/
structure Asg (C : Cfg) (A : Around) (f : FD) (own : Option (Str × List PyData)) (tg : Expr) (d : V) (ext : List (Str × V)) : Prop where
  go : ∀ h₀ mu L env v tmp s, W C h₀ mu L env own ((v, d) :: tmp) s →
  wpC (M' C.prog C.w) A (assign tg (f.env L) v) (fun _ s' => W C h₀ mu L (ext ++ env) own tmp s') (fun _ _ => False) s

section
variable {C : Cfg} {A : Around} {f : FD} {env : List (Str × V)} {own : Option (Str × List PyData)} {h₀ : Heap} {mu : List Addr} {L : Addr} {tmp tmp' : List (Value × V)} {s s' : Shared}
  {P P' : Option V → List (Str × V) → Option (Str × List PyData) → Prop} {rest : List Stmt} {az : List Addr} {Z : Nat → Heap → Heap → Prop} {m : Str → Option Value} {oa : List Addr}

theorem Asg.name {x : Str} {p : Pos} {d : V} (ho : notOwn own x := by first | trivial | decide +kernel) (hk : f.sc.kind = .function := by rfl) (hl : ∀ L, (f.env L).kindOf x = some .local := by intro _; rfl) :
    Asg C A f own (.Name x p) d [(x, d)] := by
  refine ⟨fun h₀ mu L env v tmp s X => ?_⟩
  show wpC _ _ (do standAt p; bindName (f.env L) x v) _ _ s
  exact wpC_bind (wpC_standAt (X.store ho (fun s' X' => X') hk (hl L)))

/-- an iterator turns its own objects alone -/
theorem WW.turn {az : List Addr} (X : WW C h₀ (az ++ mu) L env own tmp s m oa) (h0 : ∀ a ∈ az, h₀.get? a = none) (k : ∀ b o, b ∉ az → s.heap.get? b = some o → s'.heap.get? b = some o) (hg : s'.gens = s.gens) (ho : s'.os = s.os)
    (hl : ∀ a ∈ az, (s'.heap.get? a).isSome = true) (t : ∀ p ∈ tmp', Rep C.w (er s'.heap (L :: (oa ++ (az ++ mu)))) p.1 p.2) : WW C h₀ (az ++ mu) L env own tmp' s' m oa := by
  have hL : L ∉ az := fun q => X.offM (List.mem_append_left _ q)
  have hA : ∀ a ∈ oa, a ∉ az := fun a ha q => (X.offA a ha).2.2 (List.mem_append_left _ q)
  have ke : ∀ b o, (er s.heap (L :: (oa ++ (az ++ mu)))).get? b = some o → (er s'.heap (L :: (oa ++ (az ++ mu)))).get? b = some o := er_mono fun b o hb e => ⟨hb, k b o (fun q => hb (.tail _ (List.mem_append_right _ (List.mem_append_left _ q)))) e⟩
  constructor
  · obtain ⟨o, es, ep, e, r⟩ := X.ns
    exact ⟨o, es, ep, k _ _ hL e, r⟩
  · have hown := X.own
    cases own with
    | none => exact hown
    | some p =>
      obtain ⟨x, ds⟩ := p
      obtain ⟨a, vs, n, as, h1, h2, h3, h4⟩ := hown
      exact ⟨a, vs, n, as, h1, h2, k _ _ (hA a (by rw [h1]; exact .head _)) h3, ReadsAll.keeps ke h4⟩
  · refine ⟨C.mono X.bs.g ke, hg.trans X.bs.gens, ho.trans X.bs.os, fun a ha => ?_⟩
    by_cases hq : a ∈ az
    · exact hl a hq
    · obtain ⟨o, e⟩ := Option.isSome_iff_exists.mp (X.bs.live a ha)
      rw [k a o hq e]; rfl
  · intro x d hx
    obtain ⟨v, h1, h2⟩ := X.env x d hx
    exact ⟨v, h1, h2.keeps ke⟩
  · exact t
  · exact fun b o e => k b o (fun q => by rw [h0 b q] at e; cases e) (X.keep b o e)
  · exact X.offL
  · exact X.offA
  · exact X.offM

/-- the loop's end: the iterator is dropped -/
theorem WW.finish {az : List Addr} (X : WW C h₀ (az ++ mu) L env own tmp s m oa) (h0 : ∀ a ∈ az, h₀.get? a = none ∧ a ∉ mu) (k : ∀ b o, b ∉ az → s.heap.get? b = some o → s'.heap.get? b = some o) (hg : s'.gens = s.gens) (ho : s'.os = s.os) :
    WW C h₀ mu L env own tmp s' m oa := by
  have hL : L ∉ az := fun q => X.offM (List.mem_append_left _ q)
  have hA : ∀ a ∈ oa, a ∉ az := fun a ha q => (X.offA a ha).2.2 (List.mem_append_left _ q)
  have ke : ∀ b o, (er s.heap (L :: (oa ++ (az ++ mu)))).get? b = some o → (er s'.heap (L :: (oa ++ mu))).get? b = some o := er_mono fun b o hb e => by
    simp only [List.mem_cons, List.mem_append, not_or] at hb ⊢
    exact ⟨⟨hb.1, hb.2.1, hb.2.2.2⟩, k b o hb.2.2.1 e⟩
  constructor
  · obtain ⟨o, es, ep, e, r⟩ := X.ns
    exact ⟨o, es, ep, k _ _ hL e, r⟩
  · have hown := X.own
    cases own with
    | none => exact hown
    | some p =>
      obtain ⟨x, ds⟩ := p
      obtain ⟨a, vs, n, as, h1, h2, h3, h4⟩ := hown
      exact ⟨a, vs, n, as, h1, h2, k _ _ (hA a (by rw [h1]; exact .head _)) h3, ReadsAll.keeps ke h4⟩
  · refine ⟨C.mono X.bs.g ke, hg.trans X.bs.gens, ho.trans X.bs.os, fun a ha => ?_⟩
    have hq : a ∉ az := by
      rcases List.mem_cons.mp ha with rfl | ha
      · exact hL
      · rcases List.mem_append.mp ha with ha | ha
        · exact hA a ha
        · exact fun q => (h0 a q).2 ha
    obtain ⟨o, e⟩ := Option.isSome_iff_exists.mp (X.bs.live a (by
      simp only [List.mem_cons, List.mem_append] at ha ⊢
      rcases ha with h | h | h
      · exact .inl h
      · exact .inr (.inl h)
      · exact .inr (.inr (.inr h))))
    rw [k a o hq e]; rfl
  · intro x d hx
    obtain ⟨v, h1, h2⟩ := X.env x d hx
    exact ⟨v, h1, h2.keeps ke⟩
  · exact fun p hp => (X.tmp p hp).keeps ke
  · exact fun b o e => k b o (fun q => by rw [(h0 b q).1] at e; cases e) (X.keep b o e)
  · exact X.offL
  · exact fun a ha => ⟨(X.offA a ha).1, (X.offA a ha).2.1, fun q => (X.offA a ha).2.2 (List.mem_append_right _ q)⟩
  · exact fun q => X.offM (List.mem_append_right _ q)

/-- new objects that are to turn -/
theorem WW.enter {az : List Addr} (X : WW C h₀ mu L env own tmp s m oa) (k : Ext s s') (hf : ∀ a ∈ az, s.heap.get? a = none ∧ (s'.heap.get? a).isSome = true) :
    WW C h₀ (az ++ mu) L env own tmp s' m oa ∧ ∀ a ∈ az, h₀.get? a = none ∧ a ∉ mu := by
  have liveL : (s.heap.get? L).isSome = true := X.bs.live L (.head _)
  have hmu : ∀ a ∈ L :: (oa ++ mu), a ∉ az := fun a ha q => by
    have := X.bs.live a ha
    rw [(hf a q).1] at this; cases this
  have ke : ∀ b o, (er s.heap (L :: (oa ++ mu))).get? b = some o → (er s'.heap (L :: (oa ++ (az ++ mu)))).get? b = some o := er_mono fun b o hb e => by
    simp only [List.mem_cons, List.mem_append, not_or] at hb ⊢
    exact ⟨⟨hb.1, hb.2.1, (fun q => by rw [(hf b q).1] at e; cases e), hb.2.2⟩, k.keep b o e⟩
  refine ⟨?_, fun a ha => ⟨?_, fun q => hmu a (.tail _ (List.mem_append_right _ q)) ha⟩⟩
  · constructor
    · exact X.ns.keeps k.keep
    · exact X.own.ext k.keep ke
    · refine ⟨C.mono X.bs.g ke, k.gens.trans X.bs.gens, k.os.trans X.bs.os, fun a ha => ?_⟩
      by_cases hq : a ∈ az
      · exact (hf a hq).2
      · obtain ⟨o, e⟩ := Option.isSome_iff_exists.mp (X.bs.live a (by
          simp only [List.mem_cons, List.mem_append] at ha ⊢
          rcases ha with h | h | h | h
          · exact .inl h
          · exact .inr (.inl h)
          · exact absurd h hq
          · exact .inr (.inr h)))
        rw [k.keep a o e]; rfl
    · intro x d hx
      obtain ⟨v, h1, h2⟩ := X.env x d hx
      exact ⟨v, h1, h2.keeps ke⟩
    · exact fun p hp => (X.tmp p hp).keeps ke
    · exact fun b o e => k.keep b o (X.keep b o e)
    · exact X.offL
    · intro a ha
      refine ⟨(X.offA a ha).1, (X.offA a ha).2.1, fun q => ?_⟩
      rcases List.mem_append.mp q with q | q
      · exact hmu a (.tail _ (List.mem_append_left _ ha)) q
      · exact (X.offA a ha).2.2 q
    · intro q
      rcases List.mem_append.mp q with q | q
      · exact hmu L (.head _) q
      · exact X.offM q
  · cases e : h₀.get? a with
    | none => rfl
    | some o => have := X.keep a o e; rw [(hf a ha).1] at this; cases this

theorem for_loop {prog : Program} {w : World} {tg : Expr} {it : Value} {body : List Stmt} {env : Env} {Q : Flow → Shared → Prop} (I : Nat → Shared → Prop)
    (turn : ∀ n s, I n s → wpC (M' prog w) A (pyNext it) (fun r s₁ => match r with
      | none => Q .next s₁
      | some v => wpC (M' prog w) A (letOwnedTupleGo tg it v) (fun _ s₁' => wpC (M' prog w) A (assign tg env v) (fun _ s₂ => wpC (M' prog w) A (execs body env) (fun fl s₃ => fl = .next ∧ ∃ m, m < n ∧ I m s₃) (fun _ _ => False) s₂) (fun _ _ => False) s₁') (fun _ _ => False) s₁) (fun _ _ => False) s)
    (n : Nat) (h : I n s) : codeC (M' prog w) A (.forLoop tg it body [] env) (fun r s' => match r with | .ok fl => Q fl s' | .error _ => False) s := by
  have hu : A.under (.forLoop tg it body [] env) = A := Around.under_of_weight rfl rfl
  refine codeC_loop (by rfl) rfl I (fun n s hI => ?_) n h
  rw [hu]
  show wpC _ A (den' (.forLoop tg it body [] env)) _ _ s
  rw [den'_of (by rfl)]
  show wpC _ A ((forTurn tg it body [] env).onRaise (fun x => do noteFrame x env; theTreesLotGoes x)) _ _ s
  refine wpC_onRaise ?_
  simp only [forTurn]
  refine wpC_bind (wpC_standAt (wpC_bind (wpC_onRaise (wpC_mono (turn n s hI) (fun r s₁ h₁ => ?_) fun _ _ x => x))))
  cases r with
  | none =>
    refine wpC_pure (.inr ⟨rfl, codeC_of_tree (by rfl) ?_⟩)
    rw [show A.under (.block [] env) = A from Around.under_of_weight rfl rfl]
    show wpC _ A (den' (.block [] env)) _ _ s₁
    rw [den'_of (by rfl)]
    show wpC _ _ (do return Fin.done (← (execs [] env).onRaise (fun x => do noteFrame x env; theTreesLotGoes x))) _ _ s₁
    rw [execs_nil]
    exact wpC_bind (wpC_onRaise (wpC_pure (wpC_pure h₁)))
  | some v =>
    refine wpC_bind (wpC_mono h₁ (fun _ s₁' h₁' => ?_) fun _ _ h' => h')
    refine wpC_bind (wpC_mono h₁' (fun _ s₂ h₂ => wpC_bind (wpC_mono h₂ (fun fl s₃ h₃ => ?_) fun _ _ h' => h')) fun _ _ h' => h')
    obtain ⟨rfl, h₃⟩ := h₃
    exact wpC_pure (.inl ⟨rfl, h₃⟩)

theorem wpC_runOwn {M : Model} {c : Code} {env : Env} {Q : Flow → Shared → Prop} (hc : codeC M A c (fun r s' => match r with | .ok f => Q f s' | .error _ => False) s) :
    wpC M A (runOwn c env) Q (fun _ _ => False) s := by
  unfold runOwn
  exact wpC_onRaise (wpC_run (h := none) (by
    have : A.mark none = A := by cases A; rfl
    rw [this]; exact hc))

theorem for_stmt {tg iter : Expr} {body : List Stmt} {pos : Pos} {items : List V} {F : Nat → List (Str × V)} {O : Nat → Option (Str × List PyData)} {ext : Nat → V → List (Str × V)} {Q : Flow → Shared → Prop}
    (hst : Starts C A f env own tg iter items) (X : W C h₀ mu L env own [] s) (h0 : ∀ x d, (F 0).lookup x = some d → env.lookup x = some d) (hO : O 0 = own)
    (ha : ∀ k d, items[k]? = some d → Asg C A f (O k) tg d (ext k d))
    (hb : ∀ k d, items[k]? = some d → Ex C A f (ext k d ++ F k) (O k) body (fun r e o => r = none ∧ (∀ x d, (F (k + 1)).lookup x = some d → e.lookup x = some d) ∧ o = O (k + 1)))
    (hQ : ∀ s', W C h₀ mu L (F items.length) (O items.length) [] s' → Q .next s')
    (hfs : ∀ env x, foldedSetIterable iter env x = pure x := by intro _ _; rfl) :
    wpC (M' C.prog C.w) A (exec (.For tg iter body [] pos) (f.env L)) Q (fun _ _ => False) s := by
  obtain ⟨m₀, oa₀, X⟩ := X
  rw [arm_exec_For]
  refine wpC_bind (wpC_standAt (wpC_bind (wpC_mono (hst.go _ _ _ _ _ _ _ X) (fun v s₁ h₁ => ?_) fun _ _ x => x)))
  rw [hfs]
  refine wpC_bind (wpC_pure (wpC_bind (wpC_standAt ?_)))
  refine wpC_bind (wpC_holding (wpC_mono h₁ (fun it s₂ h₂ => ?_) fun _ _ x => x))
  obtain ⟨az, Z, T, XI⟩ := h₂
  refine wpC_runOwn (for_loop (fun n s => ∃ k, n + k = items.length ∧ ∃ m oa, WI C az Z h₀ mu L (F k) (O k) [] k s m oa) (fun n s hI => ?_) items.length ⟨0, rfl, ?_⟩)
  · obtain ⟨k, hnk, m, oa, Y, hz, hza⟩ := hI
    have hazd : ∀ a ∈ az, a ∈ L :: (oa ++ (az ++ mu)) ∧ a ∉ L :: oa := fun a haz => by
      refine ⟨.tail _ (List.mem_append_right _ (List.mem_append_left _ haz)), fun q => ?_⟩
      rcases List.mem_cons.mp q with rfl | q
      · exact Y.offM (List.mem_append_left _ haz)
      · exact (Y.offA a q).2.2 (List.mem_append_left _ haz)
    have hlo : ∀ a ∈ L :: oa, a ∈ L :: (oa ++ (az ++ mu)) := fun a q => by
      rcases List.mem_cons.mp q with rfl | q
      · exact .head _
      · exact .tail _ (List.mem_append_left _ q)
    refine wpC_mono (T.next k s (L :: oa) (L :: (oa ++ (az ++ mu))) hazd hlo Y.bs hz (by omega)) (fun r s₃ hr => ?_) fun _ _ x => x
    cases r with
    | none =>
      obtain ⟨rfl, h1, h2, h3⟩ := hr
      exact hQ _ ⟨m, oa, Y.finish hza h1 h2 h3⟩
    | some v =>
      refine wpC_mono hr (fun _ s₄ h₄ => ?_) fun _ _ x => x
      obtain ⟨⟨d, hd, hrep, hz'⟩, h1, h2, h3, h4⟩ := h₄
      have Y₁ : WW C h₀ (az ++ mu) L (F k) (O k) [(v, d)] s₄ m oa := Y.turn (fun a q => (hza a q).1) h1 h2 h3 h4 fun p hp => by
        rcases List.mem_cons.mp hp with rfl | hp
        · exact hrep
        · cases hp
      -- all that stands now, but the locals and the list in hand
      have hsub : ∀ b o, h₀.get? b = some o → (er s₄.heap (L :: oa)).get? b = some o := fun b o e => er_of (fun q => by
        rcases List.mem_cons.mp q with rfl | q
        · rw [Y₁.offL] at e; cases e
        · rw [(Y₁.offA b q).1] at e; cases e) (Y₁.keep b o e)
      have Y₂ : W C (er s₄.heap (L :: oa)) (az ++ mu) L (F k) (O k) [(v, d)] s₄ := by
        refine ⟨m, oa, { Y₁ with keep := er_le, offL := ?_, offA := fun a q => ⟨?_, (Y₁.offA a q).2⟩ }⟩
        · rw [er_get, if_pos (.head _)]
        · rw [er_get, if_pos (.tail _ q)]
      refine wpC_mono ((ha k d hd).go _ _ _ _ _ _ _ Y₂) (fun _ s₅ X₅ => ?_) fun _ _ x => x
      refine wpC_mono ((hb k d hd).go _ _ _ _ X₅) (fun fl s₆ X₆ => ?_) fun _ _ x => x
      obtain ⟨r, env', own', ⟨rfl, he, rfl⟩, rfl, X₆⟩ := X₆
      refine ⟨rfl, n - 1, ?_, k + 1, ?_, ?_⟩
      · have := (List.getElem?_eq_some_iff.mp hd).1; omega
      · have := (List.getElem?_eq_some_iff.mp hd).1; omega
      · obtain ⟨m', oa', Y₆⟩ := X₆.less he
        have hno : ∀ b o, h₀.get? b = some o → (er s₄.heap (L :: oa)).get? b ≠ none := fun b o e q => by rw [hsub b o e] at q; cases q
        refine ⟨m', oa', { Y₆ with keep := fun b o e => Y₆.keep b o (hsub b o e), offL := Y.offL, offA := fun a q => ⟨?_, (Y₆.offA a q).2⟩ }, ?_, hza⟩
        · cases e : h₀.get? a with
          | none => rfl
          | some o => exact absurd (Y₆.offA a q).1 (hno a o e)
        · have nin : ∀ b o, (er s₄.heap (L :: oa)).get? b = some o → b ∉ L :: oa' := fun b o e q => by
            rcases List.mem_cons.mp q with rfl | q
            · rw [Y₆.offL] at e; cases e
            · rw [(Y₆.offA b q).1] at e; cases e
          refine T.mono _ _ _ _ _ hz' (fun b o e => er_of (nin b o e) (Y₆.keep b o e)) (er_mono fun b o hb e => ?_)
          simp only [List.mem_cons, List.mem_append, not_or] at hb
          have e1 : (er s₄.heap (L :: oa)).get? b = some o := er_of (by simp only [List.mem_cons, not_or]; exact ⟨hb.1, hb.2.1⟩) e
          have e2 := nin b o e1
          simp only [List.mem_cons, List.mem_append, not_or] at e2 ⊢
          exact ⟨⟨e2.1, e2.2, hb.2.2⟩, Y₆.keep b o e1⟩
  · subst hO
    obtain ⟨Y, hz, hza⟩ := XI
    exact ⟨_, _, { Y with env := fun x d hx => Y.env x d (h0 x d hx) }, hz, hza⟩

theorem Ex.for {tg iter : Expr} {body : List Stmt} {pos : Pos} {items : List V} (F : Nat → List (Str × V)) (O : Nat → Option (Str × List PyData)) {ext : Nat → V → List (Str × V)}
    (hst : Starts C A f env own tg iter items) (h0 : ∀ x d, (F 0).lookup x = some d → env.lookup x = some d) (hO : O 0 = own)
    (ha : ∀ k d, items[k]? = some d → Asg C A f (O k) tg d (ext k d))
    (hb : ∀ k d, items[k]? = some d → Ex C A f (ext k d ++ F k) (O k) body (fun r e o => r = none ∧ (∀ x d, (F (k + 1)).lookup x = some d → e.lookup x = some d) ∧ o = O (k + 1)))
    (hr : Ex C A f (F items.length) (O items.length) rest P)
    (hfs : ∀ env x, foldedSetIterable iter env x = pure x := by intro _ _; rfl) : Ex C A f env own (.For tg iter body [] pos :: rest) P := by
  refine ⟨fun h₀ mu L s X => ?_⟩
  rw [execs_cons]
  exact wpC_bind (for_stmt hst X h0 hO ha hb (fun s' X' => hr.go _ _ _ _ X') hfs)
end
end Mine

end

section
open PySem PySem.W PyProof.Rows
set_option Elab.async false
set_option maxRecDepth 100000
set_option linter.unusedVariables false
namespace Mine
open Builtin Builtin.Re

/-! what can be walked: a text; what finditer gives -/

theorem extBut_of {s s' : Shared} {it : Addr} (h : Heap.ExtBut it s.heap s'.heap) : ∀ b o, b ∉ [it] → s.heap.get? b = some o → s'.heap.get? b = some o := fun b o hb e => h b o (fun q => hb (by rw [q]; exact .head _)) e

section
variable {C : Cfg} {A : Around} {f : FD} {env : List (Str × V)} {own : Option (Str × List PyData)} {h₀ : Heap} {mu : List Addr} {L : Addr} {tmp tmp' : List (Value × V)} {s s' : Shared}

theorem IsStrIter.keeps {g g' : Heap} {it : Addr} {ty : String} {x : Str} {t : Tok} {i : Nat} (h : g.IsStrIter it ty x t i) (k : ∀ b o, g.get? b = some o → g'.get? b = some o) : g'.IsStrIter it ty x t i :=
  let ⟨o, a, b⟩ := h; ⟨o, k _ _ a, b⟩
theorem IsStrIter.er {g : Heap} {it : Addr} {ty : String} {x : Str} {t : Tok} {i : Nat} {lo : List Addr} (h : g.IsStrIter it ty x t i) (k : it ∉ lo) : (er g lo).IsStrIter it ty x t i :=
  let ⟨o, a, b⟩ := h; ⟨o, er_of k a, b⟩
theorem S_get (l : List Nat) (k : Nat) : (S l).cps[k]? = l[k]? := by simp [S]

/-! finditer -/
theorem slot_ciiter : Slot "callable_iterator" "__iter__" "callable_iterator.__iter__" :=
  .of (owner := "callable_iterator") (n := "__iter__") (by rw [typeLookup_type, builtinLookup_eq_fast]; kernel_rfl) (by decide +kernel) (by decide +kernel) (by decide +kernel)
    (by first | exact .inl (by decide +kernel) | exact .inr (by decide +kernel)) (by rw [isSubtype_type]; kernel_rfl)
theorem entry_ciiter : entryFor table "callable_iterator.__iter__" = some Builtin.«dict_keyiterator.__iter__» :=
  entryFor_alias (id' := "dict_keyiterator.__iter__") (by kernel_rfl) rfl (by decide +kernel) (by kernel_rfl)
theorem args_ciiter (a : Value) : argsOk "callable_iterator.__iter__" ⟨[a], []⟩ := by unfold argsOk; kernel_rfl
theorem iter_ci {M : Program} {w : World} {I B : Addr} {Q : Value → Shared → Prop} {E : Value → Shared → Prop} (hI : s.heap.get? I = some (itObj B)) (h : Q (.ref I) s) : wpAny (model M w) A (pyIter (.ref I)) Q E s := by
  have hT : s.TypeIs (.ref I) "callable_iterator" := ⟨_, hI, rfl⟩
  refine wpAny_pyIter_slot hT slot_ciiter (wpAny_call_entry slot_ciiter hT entry_ciiter ?_ (args_ciiter _))
  show wpAny _ _ (ret (.ref I)) _ _ s
  exact wpAny_pure ⟨_, rfl, "callable_iterator", _, hT, slot_cinext.lookup, h⟩

theorem iter_wide {M : Program} {w : World} {I : Addr} {x : Str} {t : Tok} {i : Nat} {Q : Value → Shared → Prop} {E : Value → Shared → Prop} (hI : s.heap.IsStrIter I "str_iterator" x t i) (h : Q (.ref I) s) : wpAny (model M w) A (pyIter (.ref I)) Q E s := wpAny_pyIter_striter_wide hI h
theorem iter_ascii {M : Program} {w : World} {I : Addr} {x : Str} {t : Tok} {i : Nat} {Q : Value → Shared → Prop} {E : Value → Shared → Prop} (hI : s.heap.IsStrIter I "str_ascii_iterator" x t i) (h : Q (.ref I) s) : wpAny (model M w) A (pyIter (.ref I)) Q E s := wpAny_pyIter_striter_ascii hI h

theorem steps_str {x : Str} {p : Pos} {l : List Nat} {t : Tok} {it : Addr} (hh : A.handled = none) (ty : String) (hty : ty = "str_ascii_iterator" ∨ ty = "str_iterator") :
    Steps C A (.Name x p) [it] (fun k g _ => g.IsStrIter it ty (S l) t k) (.ref it) (l.map fun c => vs [c]) where
  iter k s lo mu Q h q := by
    rcases hty with rfl | rfl
    · exact wpC_lift (iter_ascii (IsStrIter.keeps h er_le) q)
    · exact wpC_lift (iter_wide (IsStrIter.keeps h er_le) q)
  mono _ _ _ _ _ h k _ := IsStrIter.keeps h k
  next k s lo mu hlo hlm B hz hk := by
    have hit : s.heap.IsStrIter it ty (S l) t k := IsStrIter.keeps hz er_le
    have hoff := hlo it (.head _)
    rw [List.length_map] at hk ⊢
    by_cases hkl : k < l.length
    · have hx : (S l).cps[k]? = some l[k] := by rw [S_get]; exact List.getElem?_eq_getElem hkl
      have fin : ∀ h' : Heap, h'.IsStrIter it ty (S l) t (k + 1) → Heap.SameBut it s.heap h' → wpC (M' C.prog C.w) A (letOwnedTupleGo (.Name x p) (.ref it) (.str ⟨#[l[k]]⟩ s.toks)) (fun _ s'' => (∃ d, (l.map fun c => vs [c])[k]? = some d ∧ Rep C.w (er s''.heap mu) (.str ⟨#[l[k]]⟩ s.toks) d ∧ (er s''.heap lo).IsStrIter it ty (S l) t (k + 1)) ∧
          ((∀ b o, b ∉ [it] → s.heap.get? b = some o → s''.heap.get? b = some o) ∧ s''.gens = s.gens ∧ s''.os = s.os ∧ ∀ a ∈ [it], (s''.heap.get? a).isSome = true)) (fun _ _ => False) { s with heap := h', toks := s.toks + 1 } := by
        intro h' h1 h2
        refine wpC_pure ⟨⟨vs [l[k]], by simp [hkl], Rep.mkStr _ _, IsStrIter.er h1 hoff.2⟩, fun b o hb e => (h2.2 b fun q => hb (by rw [q]; exact .head _)).trans e, rfl, rfl, fun a ha => ?_⟩
        rw [List.mem_singleton] at ha; subst ha
        obtain ⟨o, e, _⟩ := h1
        exact (congrArg Option.isSome e : (h'.get? a).isSome = true)
      rcases hty with rfl | rfl
      · exact wpC_lift (wpAny_pyNext_ascii_item hit hx fin)
      · exact wpC_lift (wpAny_pyNext_wide_item hit hx fin)
    · have hkl' : k = l.length := by omega
      subst hkl'
      have hx : (S l).cps[l.length]? = none := by rw [S_get]; exact List.getElem?_eq_none (Nat.le_refl _)
      rcases hty with rfl | rfl
      · exact wpC_lift (wpAny_pyNext_ascii_end hh hit hx fun h' h1 => ⟨rfl, extBut_of (s' := { s with heap := h' }) h1, rfl, rfl⟩)
      · exact wpC_lift (wpAny_pyNext_wide_end hh hit hx fun h' h1 => ⟨rfl, extBut_of (s' := { s with heap := h' }) h1, rfl, rfl⟩)

theorem Starts.str {x : Str} {p : Pos} {e : Expr} {l : List Nat} (h : Ev C A f env own e (vs l)) (hh : A.handled = none) : Starts C A f env own (.Name x p) e (l.map fun c => vs [c]) := by
  refine ⟨fun h₀ mu L tmp s m oa X => ?_⟩
  refine wpC_mono (h.go _ _ _ _ _ _ _ X) (fun v s₁ X₁ => ?_) fun _ _ x => x
  obtain ⟨t, rfl⟩ : ∃ t, v = .str (S l) t := by
    exact (X₁.tmp _ (.head _)).str
  have Y := X₁.tail1
  have key : ∀ ty : String, (ty = "str_ascii_iterator" ∨ ty = "str_iterator") → (∃ az Z, Steps C A (.Name x p) az Z (.ref s₁.heap.objs.size) (l.map fun c => vs [c]) ∧ WI C az Z h₀ mu L env own tmp 0
      { s₁ with heap := s₁.heap.push { cls := .type ty, data := .fields #[.str (S l) t, .int 0 0] } } m oa) := by
    intro ty hty
    have hnew : (s₁.heap.push { cls := .type ty, data := .fields #[.str (S l) t, .int 0 0] }).IsStrIter s₁.heap.objs.size ty (S l) t 0 := ⟨_, Heap.get?_push_size _ rfl, rfl, rfl⟩
    obtain ⟨Y', hz⟩ := Y.enter (az := [s₁.heap.objs.size]) (Ext.push s₁ { cls := .type ty, data := .fields #[.str (S l) t, .int 0 0] } s₁.toks) (fun a ha => by
      rw [List.mem_singleton] at ha; subst ha
      refine ⟨size_none _, ?_⟩
      obtain ⟨o, e, _⟩ := hnew
      exact (congrArg Option.isSome e : ((s₁.heap.push { cls := .type ty, data := .fields #[.str (S l) t, .int 0 0] }).get? s₁.heap.objs.size).isSome = true))
    refine ⟨_, _, steps_str hh ty hty, Y', IsStrIter.er hnew ?_, hz⟩
    intro q
    have hf := Y.bs.fresh (a := s₁.heap.objs.size) (size_none _)
    refine hf ?_
    rcases List.mem_cons.mp q with q | q
    · rw [q]; exact .head _
    · exact .tail _ (List.mem_append_left _ q)
  cases ha : (S l).cps.all (· < 128) with
  | true => exact wpC_lift (wpAny_pyIter_ascii ha (key _ (.inl rfl)))
  | false => exact wpC_lift (wpAny_pyIter_wide ha (key _ (.inr rfl)))

/-- the matches of a text from a place on -/
def found (x : List Nat) : Nat → Nat → List V
  | 0, _ => []
  | fuel + 1, p => match nxt (x.drop p) with
    | none => []
    | some (sk, k, n) => .m (S x) k (p + sk) (p + sk + n) :: found x fuel (p + sk + n)
theorem found_fuel (x : List Nat) : ∀ fuel p, x.length < fuel + p → p ≤ x.length → ∀ fuel', x.length < fuel' + p → found x fuel p = found x fuel' p
  | 0, p, h, hp, fuel', h' => by omega
  | fuel + 1, p, h, hp, 0, h' => by omega
  | fuel + 1, p, h, hp, fuel' + 1, h' => by
    unfold found
    cases hn : nxt (x.drop p) with
    | none => rfl
    | some r =>
      obtain ⟨sk, k, n⟩ := r
      have := nxt_pos hn
      rw [List.length_drop] at this
      dsimp only
      rw [found_fuel x fuel (p + sk + n) (by omega) (by omega) fuel' (by omega)]

/-- the matches of a text -/
def finds (x : List Nat) (p : Nat) : List V := found x (x.length + 1) p
theorem finds_none {x : List Nat} {p : Nat} (h : nxt (x.drop p) = none) : finds x p = [] := by unfold finds found; rw [h]
theorem finds_some {x : List Nat} {p sk n : Nat} {k : Kind} (h : nxt (x.drop p) = some (sk, k, n)) : finds x p = .m (S x) k (p + sk) (p + sk + n) :: finds x (p + sk + n) := by
  have hb := nxt_pos h
  rw [List.length_drop] at hb
  show found x (x.length + 1) p = _ :: found x (x.length + 1) (p + sk + n)
  rw [show found x (x.length + 1) p = .m (S x) k (p + sk) (p + sk + n) :: found x x.length (p + sk + n) by rw [found, h]]
  rw [found_fuel x x.length (p + sk + n) (by omega) (by omega) (x.length + 1) (by omega)]

theorem suf_S (x : List Nat) (p : Nat) : suf (S x).cps p = x.drop p := by simp [suf, S]

/-- the scanner stands where the first k matches end -/
def FindAt (C : Cfg) (x : List Nat) (P S' B I : Addr) (k : Nat) (g _e : Heap) : Prop :=
  ∃ tk p, g.get? S' = some (scanObj P (S x) tk (p : Nat)) ∧ g.get? B = some (bmObj S') ∧ g.get? I = some (itObj B) ∧ PatAt C.w g P ∧ p ≤ x.length ∧ finds x p = (finds x 0).drop k

theorem steps_find {v : Str} {ps : Pos} {x : List Nat} {P S' B I : Addr} (hu : A.units + 2 < cLine) (hh : A.handled = none) (hSB : S' ≠ B) (hSI : S' ≠ I) (hBI : B ≠ I) (hP : ∀ h, C.G h → PatAt C.w h P) (hsz : x.length ≤ sizeLine) :
    Steps C A (.Name v ps) [S', I] (FindAt C x P S' B I) (.ref I) (finds x 0) where
  iter k s lo mu Q h q := let ⟨_, _, _, _, h3, _⟩ := h; wpC_lift (iter_ci (er_le _ _ h3) q)
  mono k g g' e e' h kk _ := let ⟨tk, p, h1, h2, h3, h4, h5, h6⟩ := h; ⟨tk, p, kk _ _ h1, kk _ _ h2, kk _ _ h3, h4.keeps kk, h5, h6⟩
  next k s lo mu hlo hlm Bb hz hk := by
    obtain ⟨tk, p, h1, h2, h3, h4, h5, h6⟩ := hz
    refine pyNext_ hu hh (er_le _ _ h1) (er_le _ _ h2) (er_le _ _ h3) hSB hSI (h4.keeps er_le) (by rw [S_len]; exact hsz) (by rw [S_len]; exact h5) ?_ ?_
    · intro hn h' hkp
      rw [suf_S] at hn
      rw [finds_none hn] at h6
      have hlen := congrArg List.length h6
      simp only [List.length_nil, List.length_drop] at hlen
      exact ⟨by omega, fun b o hb e => hkp b o (fun q => hb (by rw [q]; exact .head _)) (fun q => hb (by rw [q]; exact .tail _ (.head _))) e, rfl, rfl⟩
    · intro sk kd n hn h' m T hkp hS' hM hm hT
      rw [suf_S] at hn
      have hb := nxt_pos hn
      rw [List.length_drop] at hb
      rw [finds_some hn] at h6
      have hitem : (finds x 0)[k]? = some (.m (S x) kd (p + sk) (p + sk + n)) := by
        have := congrArg (fun l => l[0]?) h6
        simp only [List.getElem?_cons_zero, List.getElem?_drop, Nat.add_zero] at this
        exact this.symm
      have hmu : ∀ a, a ∈ mu → (s.heap.get? a).isSome = true := Bb.live
      have hml : m ∉ mu := Bb.fresh hm
      have hTl : T ∉ mu := Bb.fresh hT
      have hSlo := (hlo S' (.head _)).2
      have hsub : ∀ b o, b ≠ S' → (er s.heap lo).get? b = some o → (er h' lo).get? b = some o := fun b o hb e => by
        obtain ⟨q1, q2⟩ := er_to e
        exact er_of q1 (hkp b o hb q2)
      have hSmu := (hlo S' (.head _)).1
      have hPS : ∀ b o, (er s.heap mu).get? b = some o → (er h' mu).get? b = some o := fun b o e => by
        obtain ⟨q1, q2⟩ := er_to e
        exact er_of q1 (hkp b o (fun q => q1 (by rw [q]; exact hSmu)) q2)
      have hPat : PatAt C.w (er h' mu) P := (hP _ Bb.g).keeps hPS
      refine wpC_pure ⟨⟨_, hitem, ?_, ?_⟩, fun b o hb e => hkp b o (fun q => hb (by rw [q]; exact .head _)) e, rfl, rfl, fun a ha => ?_⟩
      · obtain ⟨tk', li, lim, e1, e2⟩ := hM
        exact ⟨m, T, P, rfl, ⟨tk', li, lim, er_of hml e1, er_of hTl e2⟩, hPat⟩
      · refine ⟨tk, p + sk + n, er_of hSlo hS', hsub _ _ (Ne.symm hSB) h2, hsub _ _ (Ne.symm hSI) h3, hPat.keeps (er_sub hlm), by omega, ?_⟩
        have := congrArg List.tail h6
        rw [List.tail_cons, List.tail_drop] at this
        exact this
      · rcases List.mem_cons.mp ha with rfl | ha
        · exact (congrArg Option.isSome hS' : (h'.get? a).isSome = true)
        · rw [List.mem_singleton] at ha; subst ha
          exact (congrArg Option.isSome (hkp _ _ (Ne.symm hSI) (er_le _ _ h3)) : (h'.get? a).isSome = true)
end
end Mine

end

section
open PySem PySem.W PyProof.Rows
set_option Elab.async false
set_option maxRecDepth 100000
set_option linter.unusedVariables false
namespace Mine
open Builtin Builtin.Re

/-! separate(text), walked -/

/-- what a call of separate gives: an iterator of its own -/
def SepOk (C : Cfg) (a P : Addr) : Prop := ∀ A, Room A 1 → ∀ mu s v l, Bs C mu s → Rep C.w (er s.heap mu) v (vs l) → l.length ≤ sizeLine →
  wpC (M' C.prog C.w) A (call (.ref a) [v]) (fun r s' => ∃ S' B I tk, r = .ref I ∧ Ext s s' ∧ (s.heap.get? S' = none ∧ s.heap.get? B = none ∧ s.heap.get? I = none) ∧ (S' ≠ B ∧ S' ≠ I ∧ B ≠ I) ∧
    s'.heap.get? S' = some (scanObj P (S l) tk 0) ∧ s'.heap.get? B = some (bmObj S') ∧ s'.heap.get? I = some (itObj B)) (fun _ _ => False) s

section
variable {C : Cfg} {A : Around} {f : FD} {env : List (Str × V)} {own : Option (Str × List PyData)} {h₀ : Heap} {mu : List Addr} {L : Addr} {tmp tmp' : List (Value × V)} {s s' : Shared}

theorem sep_ok {a P : Addr} {nm g x : Str} {p1 p2 p3 p4 p5 : Pos} {params : Arguments} {sc : Scope} {cd : Value} (F : FnAt C a nm params [.Return (some (.Call (.Attribute (.Name g p1) "finditer" p2) [.Name x p3] [] p4)) p5] sc cd)
    (hg : C.mg g = some (.ref P)) (hP : ∀ h, C.G h → PatAt C.w h P)
    (hb : ∀ pm doc (vals : List Value), vals.length = 1 → bindArgs (Calls.docDef nm params [.Return (some (.Call (.Attribute (.Name g p1) "finditer" p2) [.Name x p3] [] p4)) p5] sc pm cd doc) ⟨vals, []⟩ = pure ([x].zip vals))
    (hloc : ∀ y ∈ [x], sc.names.lookup y = some .local) (hk : sc.kind = .function) (hx : ∀ L, ((FD.fn nm sc a cd).env L).kindOf x = some .local) (hgk : ∀ L, ((FD.fn nm sc a cd).env L).kindOf g = some .globalImplicit)
    (hd : (x == ("__debug__" : Str)) = false) (hgd : (g == ("__debug__" : Str)) = false) (hline : (p2.endLine == p4.line) = true)
    (hco : sc.isCoroutine = false := by rfl) (hgen : sc.isGenerator = false := by rfl) (hcell : (sc.names.all fun x => x.2 != .cell) = true := by rfl) : SepOk C a P := fun A hR mu s v l B r hsz => by
  refine enter_fn (ds := [vs l]) (xs := [x]) (vals := [v]) F (by intro pm doc vals hl; exact hb pm doc vals hl) rfl (by simp) hloc (by have := hR.2.1; omega) rfl B (fun p hp => by
    simp only [List.zip_cons_cons, List.zip_nil_left, List.mem_singleton] at hp; subst hp; exact r) (fun L s₁ X k₁ => ?_) hco hgen hk hcell
  obtain ⟨m, oa, X⟩ := X
  rw [execs_cons, exec_Return_some, arm_eval_Call]
  refine wpC_bind (wpC_bind (wpC_standAt (wpC_bind (wpC_bind ?_))))
  show wpC _ _ (eval (.Name g p1) _) _ _ s₁
  refine glob_name (f := FD.fn nm sc a cd) hg X ?_ hk (hgk L) hgd
  refine wpC_bind (wpC_standAt ?_)
  have hPat : PatAt C.w s₁.heap P := by
    exact (hP _ X.bs.g).keeps er_le
  have hT : s₁.TypeIs (.ref P) "re.Pattern" ∧ ∀ a, Value.ref P = .ref a → ∃ ob : Obj, s₁.heap.get? a = some ob ∧ ob.dict = none := by
    obtain ⟨v0, v1, v4, D, T, t2, t3, y1, _⟩ := hPat.ex
    exact ⟨⟨_, y1, rfl⟩, fun a e => by cases e; exact ⟨_, y1, rfl⟩⟩
  refine methodCall_ (args := [.Name x p3]) plainAttrs_pattern slot_finditer type_finditer hT.1 hT.2 (by rfl) hline ?_
  refine callWith_ (ds := [vs l]) (.inl fun a e => nomatch e) (Evs.cons (Ev.name (by simp) hk (hx 0) hd) Evs.nil) (by rfl) X fun vals s₂ hl X₂ => ?_
  obtain ⟨v', rfl⟩ : ∃ v', vals = [v'] := by
    cases vals with
    | nil => cases hl
    | cons v' r => cases r with
      | nil => exact ⟨v', rfl⟩
      | cons _ _ => cases hl
  have Y := X₂
  obtain ⟨tk, rfl⟩ : ∃ t, v' = .str (S l) t := (Y.tmp _ (.head _)).str
  refine wpC_lift (finditer_ ((hP _ Y.bs.g).keeps er_le) (by rw [S_len]; exact hsz) ?_)
  refine wpC_pure (wpC_pure ⟨s₂.heap.objs.size, s₂.heap.objs.size + 1, s₂.heap.objs.size + 2, tk, rfl, ?_, ?_, ?_, ?_⟩)
  · refine ⟨fun b o e => Heap.get?_push_of_some _ (Heap.get?_push_of_some _ (Heap.get?_push_of_some _ (Y.keep b o e))), Y.bs.gens.trans B.gens.symm, Y.bs.os.trans B.os.symm⟩
  · have none_of : ∀ n : Nat, s₂.heap.objs.size ≤ n → s.heap.get? n = none := fun n hn => by
      cases e : s.heap.get? n with
      | none => rfl
      | some o => exact absurd (Heap.lt_size (Y.keep n o e)) (Nat.not_lt.mpr hn)
    exact ⟨none_of _ (by omega), none_of _ (by omega), none_of _ (by omega)⟩
  · exact ⟨Nat.ne_of_lt (Nat.lt_succ_self _), Nat.ne_of_lt (Nat.lt_of_lt_of_le (Nat.lt_succ_self _) (Nat.le_succ _)), Nat.ne_of_lt (Nat.lt_succ_self _)⟩
  · have e1 : (s₂.heap.push (scanObj P (S l) tk 0)).objs.size = s₂.heap.objs.size + 1 := Heap.size_push ..
    have e2 : ((s₂.heap.push (scanObj P (S l) tk 0)).push (bmObj s₂.heap.objs.size)).objs.size = s₂.heap.objs.size + 2 := by rw [Heap.size_push, e1]
    have g0 := s₂.heap.get?_push_size (o := scanObj P (S l) tk 0) rfl
    have g1 := (s₂.heap.push (scanObj P (S l) tk 0)).get?_push_size (o := bmObj s₂.heap.objs.size) rfl
    have g2 := ((s₂.heap.push (scanObj P (S l) tk 0)).push (bmObj s₂.heap.objs.size)).get?_push_size (o := itObj (s₂.heap.objs.size + 1)) rfl
    rw [e1] at g1
    rw [e2] at g2
    exact ⟨Heap.get?_push_of_some _ (Heap.get?_push_of_some _ g0), Heap.get?_push_of_some _ g1, g2⟩

theorem Starts.find {v sn : Str} {ps p pos : Pos} {arg : Expr} {l : List Nat} {a P : Addr} (hs : SepOk C a P) (hc : Callee C (.ref a)) (hg : C.mg sn = some (.ref a)) (hP : ∀ h, C.G h → PatAt C.w h P) (hR : Room A 1) (hsz : l.length ≤ sizeLine)
    (h : Ev C A f env own arg (vs l)) (hk : f.sc.kind = .function := by rfl) (hx : ∀ L, (f.env L).kindOf sn = some .globalImplicit := by intro _; rfl) (hd : (sn == ("__debug__" : Str)) = false := by decide +kernel)
    (hst : ∀ env, starEach [arg] env = (false, eval arg env) :: starEach [] env := by intro _; rfl) : Starts C A f env own (.Name v ps) (.Call (.Name sn p) [arg] [] pos) (finds l 0) := by
  refine ⟨fun h₀ mu L tmp s m oa X => ?_⟩
  rw [arm_eval_Call_Name']
  refine wpC_bind (glob_name hg X ?_ hk (hx L) hd)
  have he : Evs C A f env own [arg] [vs l] := Evs.cons h Evs.nil hst
  refine callWith_ hc he (by rw [hst]; rfl) X fun vals s₁ hl X₁ => ?_
  obtain ⟨v', rfl⟩ : ∃ v', vals = [v'] := by
    cases vals with
    | nil => cases hl
    | cons v' r => cases r with
      | nil => exact ⟨v', rfl⟩
      | cons _ _ => cases hl
  have Y := X₁
  refine wpC_mono (hs A hR _ s₁ v' l Y.bs (Y.tmp _ (.head _)) hsz) (fun r s₂ hr => ?_) fun _ _ x => x
  obtain ⟨S', B, I, tk, rfl, k, ⟨f1, f2, f3⟩, ⟨n1, n2, n3⟩, g1, g2, g3⟩ := hr
  refine wpC_lift (iter_ci g3 ?_)
  obtain ⟨Y', hz⟩ := (Y.ext (Ext.refl s₁) (tmp' := tmp) (fun p hp => Y.tmp p (List.mem_append_right _ hp))).enter (az := [S', I]) k (fun b hb => by
    rcases List.mem_cons.mp hb with rfl | hb
    · exact ⟨f1, by rw [g1]; rfl⟩
    · rw [List.mem_singleton] at hb; subst hb
      exact ⟨f3, by rw [g3]; rfl⟩)
  have off : ∀ b, s₁.heap.get? b = none → b ∉ L :: oa := fun b hb q => Y.bs.fresh hb (by
    rcases List.mem_cons.mp q with q | q
    · rw [q]; exact .head _
    · exact .tail _ (List.mem_append_left _ q))
  refine ⟨[S', I], FindAt C l P S' B I, steps_find (by have := hR.2.2; omega) hR.1 n1 n2 n3 hP hsz, Y', ⟨tk, 0, er_of (off _ f1) g1, er_of (off _ f2) g2, er_of (off _ f3) g3, ?_, Nat.zero_le _, rfl⟩, hz⟩
  exact (hP _ Y.bs.g).keeps (er_mono fun b o hb e => ⟨fun q => hb (by
    rcases List.mem_cons.mp q with q | q
    · rw [q]; exact .head _
    · exact .tail _ (List.mem_append_left _ q)), k.keep b o e⟩)
end
end Mine

end

section
open PySem PySem.W PyProof.Rows
set_option Elab.async false
set_option maxRecDepth 100000
set_option linter.unusedVariables false
namespace Mine
open Builtin Builtin.Re

/-- a piece of a text -/
def cut (l : List Nat) (q r : Nat) : List Nat := (l.drop q).take (r - q)
theorem S_cut (l : List Nat) (q r : Nat) : (⟨(S l).cps.extract q r⟩ : Str) = S (cut l q r) := by
  unfold S cut
  simp

section
variable {C : Cfg} {A : Around} {f : FD} {env : List (Str × V)} {own : Option (Str × List PyData)} {h₀ : Heap} {mu : List Addr} {L : Addr} {tmp tmp' : List (Value × V)} {s s' : Shared}

theorem Op.group0 {v₀ v₁ : Value} {l : List Nat} {k : Kind} {q r : Nat} (hsz : l.length ≤ sizeLine) : Op C A (call (.builtin "re.Match.group") [v₀, v₁]) [(v₀, .m (S l) k q r), (v₁, vi 0)] (vs (cut l q r)) := .of2 fun mu s B r₁ r₂ => by
  obtain ⟨m, T, P, rfl, hM, hP⟩ := r₁
  obtain ⟨tk, rfl⟩ := r₂.int
  refine wpC_lift (Mine.group0 (hM.keeps er_le) (by cases k <;> rfl) (b := q) (e := r) (by cases k <;> rfl) (by cases k <;> rfl) (by rw [S_len]; exact hsz) ⟨Ext.toks s _, ?_⟩)
  rw [S_cut]; exact Rep.mkStr _ _
/-- what group('set') gives -/
def setOf (l : List Nat) (k : Kind) (q r : Nat) : V := match k with
  | .set => vs (cut l q r)
  | _ => vn
theorem Op.groupSet {v₀ v₁ : Value} {l : List Nat} {k : Kind} {q r : Nat} (hsz : l.length ≤ sizeLine) : Op C A (call (.builtin "re.Match.group") [v₀, v₁]) [(v₀, .m (S l) k q r), (v₁, .d (.str "set"))] (setOf l k q r) := .of2 fun mu s B r₁ r₂ => by
  obtain ⟨m, T, P, rfl, hM, hP⟩ := r₁
  obtain ⟨tk, rfl⟩ := r₂.str
  refine wpC_lift (Mine.groupSet (hP.keeps er_le) (hM.keeps er_le) (by cases k <;> rfl) fun fs tk' h0 => ?_)
  cases k with
  | run => exact groupText_none rfl ⟨Ext.toks s _, ⟨_, .none⟩⟩
  | opn => exact groupText_none rfl ⟨Ext.toks s _, ⟨_, .none⟩⟩
  | set =>
    refine groupText_ h0 (b := q) (e := r) rfl rfl (by rw [S_len]; exact hsz) ⟨Ext.toks s _, ?_⟩
    rw [S_cut]; exact Rep.mkStr _ _

theorem Op.iadd {v₁ v₂ : Value} {a b : List Nat} (hsz : a.length + b.length ≤ sizeLine) : Op C A (inplaceOp .Add v₁ v₂) [(v₁, vs a), (v₂, vs b)] (vs (a ++ b)) := .of2 fun mu s B r₁ r₂ => by
  obtain ⟨t, rfl⟩ := r₁.str
  obtain ⟨u, rfl⟩ := r₂.str
  refine wpC_lift (PyProof.Rows.iadd_str (fun t' tk => ⟨Ext.toks s tk, ?_⟩) (by rw [S_len, S_len]; exact hsz))
  rw [S_append]; exact Rep.mkStr _ _
theorem Op.chrOf {v₁ : Value} {c : Nat} (hc : c ≤ 0x10FFFF) : Op C A (call (.builtin "chr") [v₁]) [(v₁, vi c)] (vs [c]) := .of1 fun mu s B r₁ => by
  obtain ⟨t, rfl⟩ := r₁.int
  exact wpC_lift (P.chr_of_int (by simp; omega) ⟨Ext.toks s _, Rep.mkStr _ _⟩)
end
end Mine

end

section
open PySem PySem.W PyProof.Rows
set_option Elab.async false
set_option maxRecDepth 100000
set_option linter.unusedVariables false
namespace Mine

/-! list comprehensions without a test, without captured names -/

section
variable {C : Cfg} {A : Around} {f : FD} {env : List (Str × V)} {own : Option (Str × List PyData)} {h₀ : Heap} {mu : List Addr} {L : Addr} {tmp tmp' : List (Value × V)} {s s' : Shared}

theorem compLoop_ {prog : Program} {w : World} {elt target iter : Expr} {scope : Scope} {pos : Pos} {it acc : Value} {env : Env} {R : Flow → Shared → Prop} (I : Nat → Shared → Prop)
    (turn : ∀ n s, I n s → wpC (M' prog w) A (pyNext it) (fun r s₁ => match r with
      | none => R .next s₁
      | some v => wpC (M' prog w) A (letOwnedTupleGo target it v) (fun _ s₁' => wpC (M' prog w) A (assign target env v) (fun _ s₂ => wpC (M' prog w) A (eval elt env) (fun x s₃ =>
          wpC (M' prog w) A (call (.builtin "list.append") [acc, x]) (fun _ s₄ => ∃ m, m < n ∧ I m s₄) (fun _ _ => False) s₃) (fun _ _ => False) s₂) (fun _ _ => False) s₁') (fun _ _ => False) s₁) (fun _ _ => False) s)
    (n : Nat) (h : I n s) : codeC (M' prog w) A (.compLoop (.ListComp elt [⟨target, iter, [], 0⟩] scope pos) 0 it acc env) (fun r s' => match r with | .ok fl => R fl s' | .error _ => False) s := by
  have hu : A.under (.compLoop (.ListComp elt [⟨target, iter, [], 0⟩] scope pos) 0 it acc env) = A := Around.under_of_weight rfl rfl
  refine codeC_loop (by rfl) rfl I (fun n s hI => ?_) n h
  rw [hu]
  show wpC _ A (den' (.compLoop (.ListComp elt [⟨target, iter, [], 0⟩] scope pos) 0 it acc env)) _ _ s
  rw [den'_of (by rfl)]
  show wpC _ _ ((compTurn (.ListComp elt [⟨target, iter, [], 0⟩] scope pos) 0 it acc env).onRaise (fun x => do noteFrame x env; theTreesLotGoes x)) _ _ s
  refine wpC_onRaise ?_
  rw [compTurn_list1]
  refine wpC_bind (wpC_standAt (wpC_bind (wpC_mono (turn n s hI) (fun r s₁ h₁ => ?_) fun _ _ h' => h')))
  cases r with
  | none => exact wpC_pure h₁
  | some v =>
    exact wpC_bind (wpC_mono h₁ (fun _ s₁' h₁' => wpC_bind (wpC_mono h₁' (fun _ s₂ h₂ => wpC_bind (wpC_bind (wpC_mono h₂ (fun x s₃ h₃ => wpC_bind (wpC_mono h₃
      (fun _ s₄ h₄ => wpC_pure (wpC_pure (.inl ⟨rfl, h₄⟩))) fun _ _ h' => h')) fun _ _ h' => h'))) fun _ _ h' => h')) fun _ _ h' => h')

theorem compStart_ {prog : Program} {w : World} {elt target iter : Expr} {scope : Scope} {pos : Pos} {it acc : Value} {env : Env} {R : Result → Shared → Prop}
    (h : codeC (M' prog w) A (.compLoop (.ListComp elt [⟨target, iter, [], 0⟩] scope pos) 0 it acc env) R s)
    (hi : ∀ Q : Value → Shared → Prop, Q it s → wpC (M' prog w) A (pyIter it) Q (fun _ _ => False) s) :
    codeC (M' prog w) A (.compStart (.ListComp elt [⟨target, iter, [], 0⟩] scope pos) 0 it acc env) R s := by
  have hu : A.under (.compStart (.ListComp elt [⟨target, iter, [], 0⟩] scope pos) 0 it acc env) = A := Around.under_of_weight rfl rfl
  refine codeC_of_tree (by rfl) ?_
  rw [hu]
  show wpC _ A (den' (.compStart (.ListComp elt [⟨target, iter, [], 0⟩] scope pos) 0 it acc env)) _ _ s
  rw [den'_of (by rfl)]
  show wpC _ _ ((compStart (.ListComp elt [⟨target, iter, [], 0⟩] scope pos) 0 it acc env).onRaise (fun x => do noteFrame x env; standAt theWindowsPlace)) _ _ s
  refine wpC_onRaise ?_
  unfold compStart
  show wpC _ _ (ask >>= _) _ _ s
  refine wpC_bind (wpC_any (wpAny_askSetting ?_))
  split
  · exact wpC_pure ⟨rfl, h⟩
  · refine wpC_bind (wpC_any (wpAny_rule ?_))
    show wpC _ _ (standAt iter.pos >>= _) _ _ s
    exact wpC_bind (wpC_standAt (wpC_bind (hi _ (wpC_pure ⟨rfl, h⟩))))

theorem take_succ_snoc {α : Type} {l : List α} {k : Nat} {x : α} (h : l[k]? = some x) : l.take (k + 1) = l.take k ++ [x] := by
  rw [List.take_add_one, h]; rfl
theorem readsAll_snoc {h : Heap} : ∀ {vs : List Value} {ds : List PyData} {as : List Addr} {v : Value} {d : PyData} {bs : List Addr}, ReadsAll h vs ds as → Reads h v d bs → ∃ cs, ReadsAll h (vs ++ [v]) (ds ++ [d]) cs
  | _, _, _, _, _, _, .nil, r => ⟨_, .cons r .nil⟩
  | _, _, _, _, _, _, .cons h1 h2, r => let ⟨_, q⟩ := readsAll_snoc h2 r; ⟨_, .cons h1 q⟩

theorem Ev.listcomp {elt tg iter : Expr} {scope : Scope} {pos : Pos} {items : List V} {ds : List PyData} {ext : Nat → V → List (Str × V)}
    (hst : Starts C A f env own tg iter items) (hl : ds.length = items.length) (hsz : ds.length ≤ sizeLine)
    (ha : ∀ L k d, items[k]? = some d → Asg C A (FD.comp scope f L) Option.none tg d (ext k d))
    (he : ∀ L k d x, items[k]? = some d → ds[k]? = some x → Ev C A (FD.comp scope f L) (ext k d) Option.none elt (.d x))
    (hfree : ∀ x ∈ scope.names, x.2 ≠ .free := by decide +kernel) (hcell : ∀ x ∈ scope.names, x.2 ≠ .cell := by decide +kernel) (hkind : scope.kind = .function := by rfl) (hnames : ∀ x ∈ scope.names, x.2 = .local → scope.names.lookup x.1 = some .local := by decide +kernel)
    (hfs : ∀ env x, foldedSetIterable iter env x = pure x := by intro _ _; rfl) : Ev C A f env own (.ListComp elt [⟨tg, iter, [], 0⟩] scope pos) (.d (.list ds)) := by
  refine ⟨fun h₀ mu L tmp s m oa X => ?_⟩
  rw [eval_ListComp]
  unfold comprehension
  rw [closureFor_none hfree]
  show wpC _ _ (eval iter (f.env L) >>= _) _ _ s
  refine wpC_bind (wpC_mono (hst.go _ _ _ _ _ _ _ X) (fun v s₁ h₁ => ?_) fun _ _ x => x)
  refine wpC_bind (wpC_standAt ?_)
  show wpC _ _ (foldedSetIterable iter (f.env L) v >>= _) _ _ s₁
  rw [hfs]
  refine wpC_bind (wpC_pure (wpC_bind (wpC_holding (wpC_mono h₁ (fun it s₂ h₂ => ?_) fun _ _ x => x))))
  obtain ⟨az, Z, T, Y, hz0, hza⟩ := h₂
  show wpC _ _ (newList [] >>= _) _ _ s₂
  refine wpC_bind (wpC_any (wpAny_newObj_type ?_ (by size_fits)))
  refine wpC_bind (wpC_pure (wpC_bind (wpC_any (wpAny_newFunctionEnv (binds := []) hcell (fun x hx => nomatch hx) (fun h' hns hsb => ?_) hkind))))
  dsimp only [Option.isSome_some] at hns hsb ⊢
  rw [map_eq_self (l := scope.names) (fun x hx => by
    obtain ⟨n, k⟩ := x
    have : (k == NameKind.free) = false := by simpa using hfree _ hx
    simp [this])]
  generalize hacc : s₂.heap.objs.size = acc at hns hsb ⊢
  have hsz1 : (s₂.heap.push { cls := .type "list", data := .seq #[] }).objs.size = acc + 1 := by rw [Heap.size_push, hacc]
  rw [hsz1] at hns hsb ⊢
  generalize hLc : acc + 1 = Lc at hns hsb ⊢
  have hne : acc ≠ Lc := by rw [← hLc]; exact Nat.ne_of_lt (Nat.lt_succ_self acc)
  have faL : ∀ b o, s₂.heap.get? b = some o → b ≠ acc ∧ b ≠ Lc := fun b o e => by
    have := Heap.lt_size e
    rw [hacc] at this
    exact ⟨Nat.ne_of_lt this, by rw [← hLc]; exact Nat.ne_of_lt (Nat.lt_succ_of_lt this)⟩
  have nacc : s₂.heap.get? acc = Option.none := by rw [← hacc]; exact size_none _
  have nLc : s₂.heap.get? Lc = Option.none := by rw [← hLc, ← hacc]; exact Heap.get?_none_of_le (Nat.le_succ _)
  have k₄ : ∀ b o, s₂.heap.get? b = some o → h'.get? b = some o := fun b o e => (hsb.2 b (faL b o e).2).trans (Heap.get?_push_of_some _ (Heap.get?_push_of_some _ e))
  have acc₄ : h'.get? acc = some { cls := .type "list", data := .seq #[] } := by
    refine (hsb.2 acc hne).trans (Heap.get?_push_of_some _ ?_)
    rw [← hacc]; exact Heap.get?_push_size _ rfl
  -- the addresses that may turn within
  have oML : ∀ a, a ∈ L :: (oa ++ (az ++ mu)) → (s₂.heap.get? a).isSome = true := Y.bs.live
  have hMacc : acc ∉ L :: (oa ++ (az ++ mu)) := Y.bs.fresh nacc
  have hMLc : Lc ∉ L :: (oa ++ (az ++ mu)) := Y.bs.fresh nLc
  have hazd : ∀ a ∈ az, a ∈ Lc :: acc :: (L :: (oa ++ (az ++ mu))) ∧ a ∉ Lc :: acc :: L :: oa := fun a q => by
    have q' : a ∈ L :: (oa ++ (az ++ mu)) := .tail _ (List.mem_append_right _ (List.mem_append_left _ q))
    refine ⟨.tail _ (.tail _ q'), fun r => ?_⟩
    rcases List.mem_cons.mp r with rfl | r
    · exact hMLc q'
    · rcases List.mem_cons.mp r with rfl | r
      · exact hMacc q'
      · rcases List.mem_cons.mp r with rfl | r
        · exact Y.offM (List.mem_append_left _ q)
        · exact (Y.offA a r).2.2 (List.mem_append_left _ q)
  have hlo : ∀ a ∈ Lc :: acc :: L :: oa, a ∈ Lc :: acc :: (L :: (oa ++ (az ++ mu))) := fun a q => by
    simp only [List.mem_cons, List.mem_append] at q ⊢
    rcases q with q | q | q | q
    · exact .inl q
    · exact .inr (.inl q)
    · exact .inr (.inr (.inl q))
    · exact .inr (.inr (.inr (.inl q)))
  have key : ∀ (R : Flow → Shared → Prop), (∀ fl s', (∃ mc, s'.heap.Ns Lc mc) → (∀ b o, b ∉ az → s₂.heap.get? b = some o → s'.heap.get? b = some o) → s'.gens = s₂.gens → s'.os = s₂.os →
      (∃ vs as, s'.heap.IsList acc vs ∧ ReadsAll (er s'.heap (Lc :: acc :: (L :: (oa ++ (az ++ mu))))) vs.toList ds as) → R fl s') →
      codeC (M' C.prog C.w) A (.compStart (.ListComp elt [⟨tg, iter, [], 0⟩] scope pos) 0 it (.ref acc) ((FD.comp scope f L).env Lc)) (fun r s' => match r with | .ok fl => R fl s' | .error _ => False) { s₂ with heap := h', toks := s₂.toks + ([] : List (Str × Value)).length } := by
    intro R fin
    have hz₄ : Z 0 (er h' (Lc :: acc :: L :: oa)) (er h' (Lc :: acc :: (L :: (oa ++ (az ++ mu))))) := T.mono _ _ _ _ _ hz0 (er_mono fun b o hb e => ⟨by
      simp only [List.mem_cons, not_or] at hb ⊢
      exact ⟨(faL b o e).2, (faL b o e).1, hb⟩, k₄ b o e⟩) (er_mono fun b o hb e => ⟨by
      simp only [List.mem_cons, not_or] at hb ⊢
      exact ⟨(faL b o e).2, (faL b o e).1, hb⟩, k₄ b o e⟩)
    refine compStart_ (compLoop_ (fun n s => ∃ k, n + k = items.length ∧ (∃ mc, s.heap.Ns Lc mc) ∧ (∀ b o, b ∉ az → s₂.heap.get? b = some o → s.heap.get? b = some o) ∧
      (∃ vs as, s.heap.IsList acc vs ∧ ReadsAll (er s.heap (Lc :: acc :: (L :: (oa ++ (az ++ mu))))) vs.toList (ds.take k) as) ∧ Bs C (Lc :: acc :: (L :: (oa ++ (az ++ mu)))) s ∧ s.gens = s₂.gens ∧ s.os = s₂.os ∧ Z k (er s.heap (Lc :: acc :: L :: oa)) (er s.heap (Lc :: acc :: (L :: (oa ++ (az ++ mu)))))) (fun n s hI => ?_) items.length ?_) fun Q q => T.iter 0 _ _ _ Q hz₄ q
    · obtain ⟨k, hnk, ⟨mc, hmc⟩, hkeep, ⟨vs, as, hIs, hRd⟩, hB, hge, hos, hz⟩ := hI
      refine wpC_mono (T.next k s (Lc :: acc :: L :: oa) (Lc :: acc :: (L :: (oa ++ (az ++ mu)))) hazd hlo hB hz (by omega)) (fun r s₃ hr => ?_) fun _ _ x => x
      have hLaz : Lc ∉ az := fun q => hMLc (.tail _ (List.mem_append_right _ (List.mem_append_left _ q)))
      have haaz : acc ∉ az := fun q => hMacc (.tail _ (List.mem_append_right _ (List.mem_append_left _ q)))
      cases r with
      | none =>
        obtain ⟨rfl, h1, h2, h3⟩ := hr
        refine fin _ _ ?_ (fun b o hb e => h1 b o hb (hkeep b o hb e)) (h2.trans hge) (h3.trans hos) ⟨vs, as, ?_, ?_⟩
        · obtain ⟨o, es, ep, e, r⟩ := hmc
          exact ⟨mc, o, es, ep, h1 _ _ hLaz e, r⟩
        · obtain ⟨o, e, r⟩ := hIs
          exact ⟨o, h1 _ _ haaz e, r⟩
        · rw [List.take_of_length_le (by omega)] at hRd
          exact ReadsAll.keeps (er_mono fun b o hb e => ⟨hb, h1 b o (fun q => hb (.tail _ (.tail _ (.tail _ (List.mem_append_right _ (List.mem_append_left _ q)))))) e⟩) hRd
      | some v =>
        refine wpC_mono hr (fun _ s₅ h₅ => ?_) fun _ _ x => x
        obtain ⟨⟨d, hd, hrep, hz'⟩, h1, h2, h3, h4⟩ := h₅
        have ke : ∀ b o, (er s.heap (Lc :: acc :: (L :: (oa ++ (az ++ mu))))).get? b = some o → (er s₅.heap (Lc :: acc :: (L :: (oa ++ (az ++ mu))))).get? b = some o :=
          er_mono fun b o hb e => ⟨hb, h1 b o (fun q => hb (.tail _ (.tail _ (.tail _ (List.mem_append_right _ (List.mem_append_left _ q)))))) e⟩
        have hB₅ : Bs C (Lc :: acc :: (L :: (oa ++ (az ++ mu)))) s₅ := ⟨C.mono hB.g ke, h2.trans hB.gens, h3.trans hB.os, fun a ha => by
          by_cases hq : a ∈ az
          · exact h4 a hq
          · obtain ⟨o, e⟩ := Option.isSome_iff_exists.mp (hB.live a ha)
            rw [h1 a o hq e]; rfl⟩
        have X₅ : W C (er s₅.heap [Lc]) (acc :: (L :: (oa ++ (az ++ mu)))) Lc [] Option.none [(v, d)] s₅ := by
          refine ⟨mc, [], ?_⟩
          constructor
          · obtain ⟨o, es, ep, e, r⟩ := hmc
            exact ⟨o, es, ep, h1 _ _ hLaz e, r⟩
          · rfl
          · exact hB₅
          · intro x dx hx; cases hx
          · intro p hp
            rw [List.mem_singleton] at hp; subst hp
            exact hrep
          · exact er_le
          · rw [er_get, if_pos (.head _)]
          · exact fun a ha => nomatch ha
          · intro q
            rcases List.mem_cons.mp q with q | q
            · exact hne q.symm
            · exact hMLc q
        refine wpC_mono ((ha L k d hd).go _ _ _ _ _ _ _ X₅) (fun _ s₆ X₆ => ?_) fun _ _ x => x
        obtain ⟨m₆, oa₆, X₆⟩ := X₆
        have hkl := (List.getElem?_eq_some_iff.mp hd).1
        obtain ⟨x, hx⟩ : ∃ x, ds[k]? = some x := ⟨_, List.getElem?_eq_getElem (by omega)⟩
        rw [List.append_nil] at X₆
        refine wpC_mono ((he L k d x hd hx).go _ _ _ _ _ _ _ X₆) (fun xv s₇ X₇ => ?_) fun _ _ x => x
        have Y₇ := X₇
        have ho₇ : oa₆ = [] := Y₇.own
        subst ho₇
        -- what stood at s₅ stands at s₇, but for the comprehension's own names
        have k₇ : ∀ b o, b ≠ Lc → s₅.heap.get? b = some o → s₇.heap.get? b = some o := fun b o hb e => Y₇.keep b o (er_of (fun q => hb (List.mem_singleton.mp q)) e)
        have k₇r : ∀ b o, (er s₅.heap (Lc :: acc :: (L :: (oa ++ (az ++ mu))))).get? b = some o → (er s₇.heap (Lc :: acc :: (L :: (oa ++ (az ++ mu))))).get? b = some o :=
          er_mono fun b o hb e => ⟨hb, k₇ b o (fun q => hb (by rw [q]; exact .head _)) e⟩
        have hIs₇ : s₇.heap.IsList acc vs := by
          obtain ⟨o, e, r⟩ := hIs
          exact ⟨o, k₇ _ _ hne (h1 _ _ haaz e), r⟩
        have hvl : vs.size = k := by
          have e1 : vs.toList.length = (ds.take k).length := by
            have gen : ∀ {h : Heap} {vs : List Value} {ds : List PyData} {as : List Addr}, ReadsAll h vs ds as → vs.length = ds.length := by
              intro h vs
              induction vs with
              | nil => intro ds as r; cases r; rfl
              | cons v vs ih => intro ds as r; cases r with | cons a b => simp [ih b]
            exact gen hRd
          rw [List.length_take, Array.length_toList] at e1
          omega
        obtain ⟨bs, hxr⟩ := Y₇.tmp _ (.head _)
        refine wpC_lift (wpAny_list_append hIs₇ (fun h₈ hIs₈ hs₈ => ?_) (by omega))
        have k₈ : ∀ b o, (er s₇.heap (Lc :: acc :: (L :: (oa ++ (az ++ mu))))).get? b = some o → (er h₈ (Lc :: acc :: (L :: (oa ++ (az ++ mu))))).get? b = some o :=
          er_mono fun b o hb e => ⟨hb, (hs₈.2 b (fun q => hb (by rw [q]; exact .tail _ (.head _)))).trans e⟩
        refine ⟨n - 1, by omega, k + 1, by omega, ⟨m₆, ?_⟩, ?_, ?_, ?_, ?_, ?_, ?_⟩
        · exact Y₇.ns.sameBut hs₈ (Ne.symm hne)
        · exact fun b o hb e => (hs₈.2 b (faL b o e).1).trans (k₇ b o (faL b o e).2 (h1 b o hb (hkeep b o hb e)))
        · obtain ⟨cs, q⟩ := readsAll_snoc (ReadsAll.keeps (fun b o e => k₈ b o (k₇r b o (ke b o e))) hRd) (Reads.keeps k₈ hxr)
          refine ⟨_, cs, hIs₈, ?_⟩
          rw [take_succ_snoc hx, Array.toList_push]
          exact q
        · refine ⟨C.mono Y₇.bs.g k₈, Y₇.bs.gens, Y₇.bs.os, fun a ha => ?_⟩
          by_cases hq : a = acc
          · subst hq
            obtain ⟨o, e, _⟩ := hIs₈
            exact (congrArg Option.isSome e : (h₈.get? a).isSome = true)
          · obtain ⟨o, e⟩ := Option.isSome_iff_exists.mp (Y₇.bs.live a ha)
            exact (congrArg Option.isSome ((hs₈.2 a hq).trans e) : (h₈.get? a).isSome = true)
        · exact (Y₇.bs.gens.trans hB.gens.symm).trans hge
        · exact (Y₇.bs.os.trans hB.os.symm).trans hos
        · refine T.mono _ _ _ _ _ hz' (er_mono fun b o hb e => ⟨hb, (hs₈.2 b (fun q => hb (by rw [q]; exact .tail _ (.head _)))).trans (k₇ b o (fun q => hb (by rw [q]; exact .head _)) e)⟩) (fun b o e => k₈ b o (k₇r b o e))
    · refine ⟨0, rfl, ⟨_, hns⟩, fun b o _ e => k₄ b o e, ⟨#[], _, ⟨_, acc₄, rfl, 0, rfl⟩, .nil⟩, ?_, rfl, rfl, hz₄⟩
      refine ⟨C.mono Y.bs.g (er_mono fun b o hb e => ⟨by
        simp only [List.mem_cons, not_or] at hb ⊢
        exact ⟨(faL b o e).2, (faL b o e).1, hb⟩, k₄ b o e⟩), Y.bs.gens, Y.bs.os, fun a ha => ?_⟩
      rcases List.mem_cons.mp ha with rfl | ha
      · obtain ⟨o, _, _, e, _⟩ := hns
        exact (congrArg Option.isSome e : (h'.get? a).isSome = true)
      · rcases List.mem_cons.mp ha with rfl | ha
        · exact (congrArg Option.isSome acc₄ : (h'.get? a).isSome = true)
        · obtain ⟨o, e⟩ := Option.isSome_iff_exists.mp (Y.bs.live a ha)
          exact (congrArg Option.isSome (k₄ a o e) : (h'.get? a).isSome = true)
  refine wpC_holding (wpC_bind (wpC_attempt (wpC_holding (wpC_run (h := Option.none) ?_ (by intro x; cases x)))))
  rw [show A.mark Option.none = A by cases A; rfl]
  refine codeC_mono (key (fun fl s' => (∃ mc, s'.heap.Ns Lc mc) ∧ (∀ b o, b ∉ az → s₂.heap.get? b = some o → s'.heap.get? b = some o) ∧ s'.gens = s₂.gens ∧ s'.os = s₂.os ∧
      (∃ vs as, s'.heap.IsList acc vs ∧ ReadsAll (er s'.heap (Lc :: acc :: (L :: (oa ++ (az ++ mu))))) vs.toList ds as)) (fun fl s' a b c d e => ⟨a, b, c, d, e⟩)) (fun r s' hr => ?_)
  cases r with
  | error e => exact hr.elim
  | ok fl =>
  obtain ⟨⟨mc, hmc⟩, hk, hg, ho, vs, as, hIs, hRd⟩ := hr
  have hv : ∀ x ∈ (scope.names.filter fun x => (x.2 == .local || x.2 == .cell) && x.1 != (".0" : Str)).reverse, x.2 = .local →
      Env.kindOf ((FD.comp scope f L).env Lc) x.1 = some .local := fun x hx hl => hnames x (List.mem_filter.mp (List.mem_reverse.mp hx)).1 hl
  refine wpC_bind (wpC_holding (wpC_any (wpAny_comp_letGo (cenv := (FD.comp scope f L).env Lc) hkind _ s' mc hv hmc fun h₉ m' _ hs' => wpC_pure ?_)))
  have k₉ : ∀ b o, b ≠ Lc → s'.heap.get? b = some o → h₉.get? b = some o := fun b o hb e => (hs'.2 b hb).trans e
  have Y₉ := Y.finish (s' := { s' with heap := h₉ }) hza (fun b o hb e => k₉ b o (faL b o e).2 (hk b o hb e)) hg ho
  refine { Y₉ with tmp := fun p hp => ?_ }
  rcases List.mem_cons.mp hp with rfl | hp
  · have hm' : ∀ a, a ∈ L :: (oa ++ mu) → a ∈ L :: (oa ++ (az ++ mu)) := fun a q => by
      simp only [List.mem_cons, List.mem_append] at q ⊢
      rcases q with q | q | q
      · exact .inl q
      · exact .inr (.inl q)
      · exact .inr (.inr (.inr q))
    obtain ⟨o, e, hc, n, hd⟩ := hIs
    refine ⟨_, reads_list_at (er_of (fun q => hMacc (hm' _ q)) (k₉ _ _ hne e)) hc hd (ReadsAll.keeps (er_mono fun b o hb e => ⟨fun q => hb (.tail _ (.tail _ (hm' _ q))), k₉ b o (fun q => hb (by rw [q]; exact .head _)) e⟩) hRd)⟩
  · exact Y₉.tmp p hp
end
end Mine

end

section
open PySem PySem.W PyProof.Rows
set_option Elab.async false
set_option maxRecDepth 100000
set_option linter.unusedVariables false
namespace Mine

/-! walks of lists, tuples, ranges; join -/

/-- an iterator that is one object -/
structure Single (C : Cfg) (A : Around) (tg : Expr) (it : Addr) (Zi : Nat → Heap → Prop) (D : Heap → Prop) (items : List V) : Prop where
  zmono : ∀ {k g g'}, Zi k g → (∀ b o, g.get? b = some o → g'.get? b = some o) → Zi k g'
  zer : ∀ {k h lo}, Zi k h → it ∉ lo → Zi k (er h lo)
  zlive : ∀ {k h}, Zi k h → (h.get? it).isSome = true
  dmono : ∀ {g g'}, D g → (∀ b o, g.get? b = some o → g'.get? b = some o) → D g'
  iter : ∀ {k s} {Q : Value → Shared → Prop}, Zi k s.heap → Q (.ref it) s → wpC (M' C.prog C.w) A (pyIter (.ref it)) Q (fun _ _ => False) s
  lot : ∀ {k s v} {Q : Unit → Shared → Prop}, Zi k s.heap → Q () s → wpC (M' C.prog C.w) A (letOwnedTupleGo tg (.ref it) v) Q (fun _ _ => False) s
  item : ∀ {k d s mu} {Q : Option Value → Shared → Prop}, items[k]? = some d → Zi k s.heap → D (er s.heap mu) →
    (∀ v h' tk, Zi (k + 1) h' → Heap.SameBut it s.heap h' → Rep C.w (er s.heap mu) v d → Q (some v) { s with heap := h', toks := tk }) → wpC (M' C.prog C.w) A (pyNext (.ref it)) Q (fun _ _ => False) s
  fin : ∀ {k s mu} {Q : Option Value → Shared → Prop}, items[k]? = none → Zi k s.heap → D (er s.heap mu) → (∀ h', Heap.ExtBut it s.heap h' → Q none { s with heap := h' }) → wpC (M' C.prog C.w) A (pyNext (.ref it)) Q (fun _ _ => False) s

section
variable {C : Cfg} {A : Around} {f : FD} {env : List (Str × V)} {own : Option (Str × List PyData)} {h₀ : Heap} {mu : List Addr} {L : Addr} {tmp tmp' : List (Value × V)} {s s' : Shared} {tg : Expr}

theorem Single.steps {it : Addr} {Zi : Nat → Heap → Prop} {D : Heap → Prop} {items : List V} (X : Single C A tg it Zi D items) : Steps C A tg [it] (fun k g e => Zi k g ∧ D e) (.ref it) items where
  iter k s lo mu Q h q := X.iter (X.zmono h.1 er_le) q
  mono k g g' e e' h k1 k2 := ⟨X.zmono h.1 k1, X.dmono h.2 k2⟩
  next k s lo mu hlo hlm B hz hk := by
    have hit := X.zmono hz.1 er_le
    have hoff := hlo it (.head _)
    by_cases hkl : k < items.length
    · have hx := List.getElem?_eq_getElem hkl
      refine X.item hx hit hz.2 fun v h' tk h1 h2 hr => ?_
      have ke : ∀ b o, (er s.heap mu).get? b = some o → (er h' mu).get? b = some o := er_mono fun b o hb e => ⟨hb, (h2.2 b fun q => hb (by rw [q]; exact hoff.1)).trans e⟩
      refine X.lot h1 ⟨⟨items[k], hx, hr.keeps ke, X.zer h1 hoff.2, X.dmono hz.2 ke⟩, fun b o hb e => (h2.2 b fun q => hb (by rw [q]; exact .head _)).trans e, rfl, rfl, fun a ha => ?_⟩
      rw [List.mem_singleton] at ha; subst ha
      exact X.zlive h1
    · refine X.fin (List.getElem?_eq_none (by omega)) hit hz.2 fun h' h1 => ⟨by omega, extBut_of (s' := { s with heap := h' }) h1, rfl, rfl⟩

/-- the start of such a walk: the iterator is the one new object -/
theorem Single.start {Zi : Nat → Heap → Prop} {D : Heap → Prop} {items : List V} {o : Obj} {s₁ : Shared} (X : Single C A tg s₁.heap.objs.size Zi D items) {m : Str → Option Value} {oa : List Addr} (Y : WW C h₀ mu L env own tmp s₁ m oa) (hz : Zi 0 (s₁.heap.push o))
    (hd : D (er s₁.heap (L :: (oa ++ mu)))) :
    ∃ az Z, Steps C A tg az Z (.ref s₁.heap.objs.size) items ∧ WI C az Z h₀ mu L env own tmp 0 { s₁ with heap := s₁.heap.push o } m oa := by
  obtain ⟨Y', hza⟩ := Y.enter (az := [s₁.heap.objs.size]) (Ext.push s₁ o s₁.toks) (fun a ha => by
    rw [List.mem_singleton] at ha; subst ha
    exact ⟨size_none _, X.zlive hz⟩)
  have hf := Y.bs.fresh (a := s₁.heap.objs.size) (size_none _)
  refine ⟨_, _, X.steps, Y', ⟨X.zer hz fun q => hf ?_, X.dmono hd (er_mono fun b ob hb e => ⟨?_, Heap.get?_push_of_some _ e⟩)⟩, hza⟩
  · rcases List.mem_cons.mp q with q | q
    · rw [q]; exact .head _
    · exact .tail _ (List.mem_append_left _ q)
  · simp only [List.mem_cons, List.mem_append, List.not_mem_nil, or_false, not_or] at hb ⊢
    exact ⟨hb.1, hb.2.1, (fun q => by rw [q, size_none] at e; cases e), hb.2.2⟩

theorem readsAll_len {h : Heap} : ∀ {vs : List Value} {ds : List PyData} {as : List Addr}, ReadsAll h vs ds as → vs.length = ds.length
  | _, _, _, .nil => rfl
  | _, _, _, .cons _ r => by simp [readsAll_len r]
theorem readsAll_get {h : Heap} : ∀ {vs : List Value} {ds : List PyData} {as : List Addr}, ReadsAll h vs ds as → ∀ {k : Nat} {d : PyData}, ds[k]? = some d → ∃ v bs, vs[k]? = some v ∧ Reads h v d bs
  | _, _, _, .nil, k, d, e => by simp at e
  | _, _, _, .cons (v := v) h1 r, 0, d, e => by
    simp only [List.getElem?_cons_zero, Option.some.injEq] at e; subst e
    exact ⟨v, _, rfl, h1⟩
  | _, _, _, .cons h1 r, k + 1, d, e => by
    simp only [List.getElem?_cons_succ] at e ⊢
    exact readsAll_get r e

/-- a list's items -/
theorem lot_list {prog : Program} {w : World} {tg : Expr} {it l : Addr} {k : Nat} {v : Value} {Q : Unit → Shared → Prop} {E : Value → Shared → Prop} (h : s.heap.IsListIter it l k) (q : Q () s) : wpAny (model prog w) A (letOwnedTupleGo tg (.ref it) v) Q E s := by
  obtain ⟨o, ho, hc, hd⟩ := h
  unfold letOwnedTupleGo
  split
  · split
    · rename_i heq
      cases heq
      refine wpAny_bind (wpAny_load ho ?_)
      rw [hc, hd]
      dsimp only
      rw [if_neg (by rw [show (["enumerate", "zip", "dict_itemiterator", "dict_reverseitemiterator", "odict_iterator", "itertools.zip_longest", "itertools.pairwise"] : List String).contains "list_iterator" = false by decide +kernel]; simp)]
      exact wpAny_pure q
    · exact wpAny_pure q
  · split
    · rename_i heq
      cases heq
      refine wpAny_bind (wpAny_load ho ?_)
      rw [hc, hd]
      dsimp only
      rw [if_neg (by rw [show (["enumerate", "zip", "dict_itemiterator", "dict_reverseitemiterator", "odict_iterator", "itertools.zip_longest", "itertools.pairwise"] : List String).contains "list_iterator" = false by decide +kernel]; simp)]
      exact wpAny_pure q
    · exact wpAny_pure q
  · exact wpAny_pure q

theorem IsListIter.keeps {g g' : Heap} {it l : Addr} {i : Nat} (h : g.IsListIter it l i) (k : ∀ b o, g.get? b = some o → g'.get? b = some o) : g'.IsListIter it l i :=
  let ⟨o, a, b⟩ := h; ⟨o, k _ _ a, b⟩
theorem IsList.keeps' {g g' : Heap} {l : Addr} {i : Array Value} (h : g.IsList l i) (k : ∀ b o, g.get? b = some o → g'.get? b = some o) : g'.IsList l i :=
  let ⟨o, a, b⟩ := h; ⟨o, k _ _ a, b⟩

theorem single_list {it l : Addr} {vs : Array Value} {ds : List PyData} (hh : A.handled = none) :
    Single C A tg it (fun k g => g.IsListIter it l k) (fun e => e.IsList l vs ∧ ∃ as, ReadsAll e vs.toList ds as) (ds.map V.d) where
  zmono h k := IsListIter.keeps h k
  zer := fun ⟨o, a, b⟩ k => ⟨o, er_of k a, b⟩
  zlive := fun ⟨o, a, b⟩ => by rw [a]; rfl
  dmono := fun ⟨a, as, b⟩ k => ⟨IsList.keeps' a k, as, ReadsAll.keeps k b⟩
  iter h q := wpC_lift (wpAny_pyIter_listiter h q)
  lot h q := wpC_lift (lot_list h q)
  item := fun {k d s mu Q} hx hz hD h => by
    obtain ⟨hl, as, hr⟩ := hD
    rw [List.getElem?_map] at hx
    cases hdk : ds[k]? with
    | none => rw [hdk] at hx; cases hx
    | some dk =>
      rw [hdk] at hx; cases hx
      obtain ⟨v, bs, hv, r⟩ := readsAll_get hr hdk
      refine wpC_lift (wpAny_pyNext_list_item hz (IsList.keeps' hl er_le) (by simpa using hv) fun h' h1 h2 => ?_)
      exact h v h' s.toks h1 h2 ⟨bs, r⟩
  fin := fun {k s mu Q} hx hz hD h => by
    obtain ⟨hl, as, hr⟩ := hD
    have hlen := readsAll_len hr
    refine wpC_lift (wpAny_pyNext_list_end hh hz (IsList.keeps' hl er_le) ?_ fun h' h1 => h h' h1)
    rw [List.getElem?_map, Option.map_eq_none_iff, List.getElem?_eq_none_iff] at hx
    rw [Array.getElem?_eq_none_iff, ← Array.length_toList, hlen]
    exact hx

theorem Starts.list {e : Expr} {ds : List PyData} (h : Ev C A f env own e (.d (.list ds))) (hh : A.handled = none) : Starts C A f env own tg e (ds.map V.d) := by
  refine ⟨fun h₀ mu L tmp s m oa X => ?_⟩
  refine wpC_mono (h.go _ _ _ _ _ _ _ X) (fun v s₁ X₁ => ?_) fun _ _ x => x
  obtain ⟨l, vs, rfl, hD⟩ : ∃ l vs, v = .ref l ∧ (er s₁.heap (L :: (oa ++ mu))).IsList l vs ∧ ∃ as, ReadsAll (er s₁.heap (L :: (oa ++ mu))) vs.toList ds as := by
    obtain ⟨as, r⟩ := X₁.tmp _ (.head _)
    cases r with
    | @list a o vs n _ as' ho hc hd hr => exact ⟨a, vs, rfl, ⟨o, ho, hc, n, hd⟩, _, hr⟩
  refine wpC_lift (wpAny_pyIter_list (IsList.keeps' hD.1 er_le) ?_)
  obtain ⟨az, Z, T, hw⟩ := (single_list (tg := tg) (vs := vs) (ds := ds) (l := l) hh).start X₁ (o := { cls := .type "list_iterator", data := .fields #[.ref l, .int 0 0] }) ⟨_, Heap.get?_push_size _ rfl, rfl, rfl⟩ hD
  obtain ⟨Y', hz, hza⟩ := hw
  exact ⟨az, Z, T, { Y' with tmp := fun p hp => Y'.tmp p (.tail _ hp) }, hz, hza⟩

/-! range(n) -/
theorem callee_type {T : String} : Callee C (.type T) := .inl fun a e => nomatch e
theorem callee_builtin {T : String} : Callee C (.builtin T) := .inl fun a e => nomatch e

/-! join -/
theorem join_S : ∀ ls : List (List Nat), Str.join (S []) (ls.map S) = S ls.flatten
  | [] => rfl
  | [l] => by simp [Str.join, S]
  | l :: m :: r => by
    show S l ++ S [] ++ Str.join (S []) ((m :: r).map S) = _
    rw [join_S (m :: r), S_append, S_append]
    simp

theorem reads_strs {h : Heap} : ∀ {vs : List Value} {xs : List Str} {as : List Addr}, ReadsAll h vs (xs.map PyData.str) as → ∃ l : List (Str × Tok), vs = strValues l ∧ l.map (·.1) = xs
  | [], [], _, _ => ⟨[], rfl, rfl⟩
  | [], x :: xs, _, r => by cases r
  | v :: vs, [], _, r => by cases r
  | v :: vs, x :: xs, _, r => by
    cases r with
    | cons h1 h2 =>
      cases h1
      obtain ⟨l, rfl, rfl⟩ := reads_strs h2
      exact ⟨(_, _) :: l, rfl, rfl⟩

theorem Op.join {v₁ v₂ : Value} {ls : List (List Nat)} (hsz : ls.flatten.length ≤ sizeLine) : Op C A (call (.builtin "str.join") [v₁, v₂]) [(v₁, vs []), (v₂, .d (.list (ls.map fun l => .str (S l))))] (vs ls.flatten) := .of2 fun mu s B r₁ r₂ => by
  obtain ⟨t, rfl⟩ := r₁.str
  obtain ⟨as, r₂⟩ := r₂
  have e0 : (ls.map fun l => PyData.str (S l)) = (ls.map S).map PyData.str := by rw [List.map_map]; rfl
  rw [e0] at r₂
  cases r₂ with
  | list ho hc hd hr =>
    obtain ⟨l, e, hl⟩ := reads_strs hr
    refine wpC_lift (SC.join (l := l) (texts := ls.map S) ⟨_, er_le _ _ ho, hc, _, by rw [hd, ← e]⟩ hl ?_ fun t' k => ⟨Ext.toks s k, ?_⟩)
    · unfold JoinOk
      rw [StrLaws.joinTotal]
      have e1 : ((ls.map S).map (·.length)).sum = ls.flatten.length := by
        rw [List.map_map, List.length_flatten]
        refine congrArg List.sum (List.map_congr_left fun l _ => ?_)
        exact S_len l
      have e2 : (S []).length = 0 := by rw [S_len]; rfl
      rw [e1, e2]
      unfold Builtin.Str.tooLong
      rw [Bool.not_eq_true', decide_eq_false_iff_not]
      omega
    · have : Txt.join (S []) (ls.map S) = Str.join (S []) (ls.map S) := StrLaws.glued_eq_join _ _
      rw [this, join_S]
      exact Rep.mkStr _ _
end
end Mine

end

section
open PySem PySem.W PyProof.Rows
set_option Elab.async false
set_option maxRecDepth 100000
set_option linter.unusedVariables false
namespace Mine

/-! the text's functions, as the top left them -/
def fdOf (K : Frag) (a : Addr) : FuncData := match K.lookup a with
  | some ⟨_, _, .func fd, _⟩ => fd
  | _ => default
def bodyOf (fd : FuncData) : List Stmt := match fd.body with
  | .stmts b => b
  | _ => []

theorem fnAt_K {C : Cfg} {K : Frag} {a c : Addr} (hK : ∀ h, C.G h → K.In h) {fd : FuncData} {cls : Value} {d : Option Addr} {sl : Array (Option Value)} (e : K.lookup a = some ⟨cls, d, .func fd, sl⟩)
    (hq : fd = Calls.docDef fd.name fd.params (bodyOf fd) fd.scope fd.pyModule fd.code fd.doc) {co : Obj} {vs : Array Value} {t : Tok} (hc : fd.code = .ref c) (e2 : K.lookup c = some co) (hd : co.data = .fields vs) (hv : vs[1]? = some (.str fd.name t)) :
    FnAt C a fd.name fd.params (bodyOf fd) fd.scope fd.code := fun h g =>
  ⟨_, fd.pyModule, fd.doc, hK h g _ _ e, congrArg Data.func hq, c, co, vs, t, hc, hK h g _ _ e2, hd, hv⟩
end Mine

end

section
open PySem PySem.W PyProof.Rows
set_option Elab.async false
set_option maxRecDepth 100000
set_option linter.unusedVariables false
namespace Mine

/-- env bears all of F -/
def Sub (env : List (Str × V)) : List (Str × V) → Prop
  | [] => True
  | p :: r => env.lookup p.1 = some p.2 ∧ Sub env r
theorem sub_env {env : List (Str × V)} : ∀ {F : List (Str × V)}, Sub env F → ∀ x d, F.lookup x = some d → env.lookup x = some d
  | [], _, x, d, h => by cases h
  | (y, e) :: r, hs, x, d, h => by
    rw [List.lookup_cons] at h
    by_cases hx : (x == y) = true
    · rw [hx] at h
      dsimp only at h
      cases h
      have : x = y := eq_of_beq hx
      subst this
      exact hs.1
    · rw [Bool.not_eq_true] at hx
      rw [hx] at h
      exact sub_env hs.2 x d h

theorem one_val {vals : List Value} {d : V} (h : vals.length = [d].length) : ∃ v, vals = [v] := by
  cases vals with
  | nil => cases h
  | cons v r => cases r with
    | nil => exact ⟨v, rfl⟩
    | cons _ _ => cases h
theorem two_val {vals : List Value} {d e : V} (h : vals.length = [d, e].length) : ∃ v u, vals = [v, u] := by
  cases vals with
  | nil => cases h
  | cons v r => cases r with
    | nil => cases h
    | cons u r => cases r with
      | nil => exact ⟨v, u, rfl⟩
      | cons _ _ => cases h

section
variable {C : Cfg} {A : Around} {f : FD} {env : List (Str × V)} {own : Option (Str × List PyData)} {h₀ : Heap} {mu : List Addr} {L : Addr} {tmp tmp' : List (Value × V)} {s s' : Shared}
theorem Op.eqs {v₁ v₂ : Value} {a b : List Nat} : Op C A (compareOp .Eq v₁ v₂) [(v₁, vs a), (v₂, vs b)] (vb (decide (a = b))) := .of2 fun mu s B r₁ r₂ => by
  obtain ⟨t, rfl⟩ := r₁.str
  obtain ⟨u, rfl⟩ := r₂.str
  refine wpC_lift (PyProof.Rows.eq_str ⟨Ext.refl s, ?_⟩)
  have : (S a == S b) = decide (a = b) := by
    by_cases h : a = b
    · subst h; simp
    · rw [decide_eq_false h]; exact beq_eq_false_iff_ne.mpr fun q => h (S_inj.mp q)
  rw [this]; exact Rep.mkBool _
theorem Ev.neg {e : Expr} {pos : Pos} {i : Int} (h : Ev C A f env own e (vi i)) : Ev C A f env own (.UnaryOp .USub e pos) (vi (-i)) := by
  refine ⟨fun h₀ mu L tmp s m oa X => ?_⟩
  rw [arm_eval_UnaryOp]
  refine wpC_bind (wpC_mono (h.go _ _ _ _ _ _ _ X) (fun v s₁ X₁ => wpC_bind (wpC_standAt (wpC_holding ?_))) fun _ _ x => x)
  obtain ⟨t, rfl⟩ : ∃ t, v = .int i t := by
    exact (X₁.tmp _ (.head _)).int
  exact wpC_lift (P.neg_int ((X₁.tail1).put (Ext.toks s₁ _) fun mu _ _ => Rep.mkInt _ _))
end

/-! slices -/
theorem sl_in (p : List Nat) : sl p (some 1) (some (-1)) 1 = p.tail.dropLast := by
  rw [sl_one]
  have h1 : clipN (some 1) 0 p.length = min 1 p.length := by unfold clipN; dsimp only; rw [if_neg (by decide)]; omega
  have h2 : clipN (some (-1)) p.length p.length = p.length - 1 := by unfold clipN; dsimp only; rw [if_pos (by decide)]; omega
  rw [h1, h2]
  cases p with
  | nil => rfl
  | cons a r =>
    rw [List.dropLast_eq_take]
    simp [Nat.min_eq_left]
theorem sl_from1 (p : List Nat) : sl p (some 1) none 1 = p.tail := by
  rw [sl_one]
  have h1 : clipN (some 1) 0 p.length = min 1 p.length := by unfold clipN; dsimp only; rw [if_neg (by decide)]; omega
  have h2 : clipN none p.length p.length = p.length := rfl
  rw [h1, h2]
  cases p with
  | nil => rfl
  | cons a r => simp [Nat.min_eq_left]
theorem sl_len (p : List Nat) (a b : Option Int) : (sl p a b 1).length ≤ p.length := by
  rw [sl_one, List.length_take, List.length_drop]; omega

/-! the matches -/
theorem finds_mem (l : List Nat) : ∀ (n p : Nat), l.length - p ≤ n → p ≤ l.length → ∀ d ∈ finds l p, ∃ k q r, d = .m (S l) k q r ∧ p ≤ q ∧ q < r ∧ r ≤ l.length
  | n, p, hn, hp, d, hd => by
    cases hx : nxt (l.drop p) with
    | none => rw [finds_none hx] at hd; cases hd
    | some t =>
      obtain ⟨sk, k, m⟩ := t
      have hb := nxt_pos hx
      rw [List.length_drop] at hb
      rw [finds_some hx] at hd
      rcases List.mem_cons.mp hd with rfl | hd
      · exact ⟨k, _, _, rfl, by omega, by omega, by omega⟩
      · cases n with
        | zero => omega
        | succ n =>
          obtain ⟨k', q, r, h1, h2, h3, h4⟩ := finds_mem l n (p + sk + m) (by omega) (by omega) d hd
          exact ⟨k', q, r, h1, by omega, h3, h4⟩
theorem finds_len (l : List Nat) : ∀ (n p : Nat), l.length - p ≤ n → p ≤ l.length → (finds l p).length ≤ l.length - p
  | n, p, hn, hp => by
    cases hx : nxt (l.drop p) with
    | none => rw [finds_none hx]; exact Nat.zero_le _
    | some t =>
      obtain ⟨sk, k, m⟩ := t
      have hb := nxt_pos hx
      rw [List.length_drop] at hb
      rw [finds_some hx, List.length_cons]
      cases n with
      | zero => omega
      | succ n =>
        have := finds_len l n (p + sk + m) (by omega) (by omega)
        omega
theorem cut_len (l : List Nat) (q r : Nat) : (cut l q r).length ≤ l.length := by unfold cut; rw [List.length_take, List.length_drop]; omega
theorem cut_cons {l : List Nat} {q r : Nat} (h : q < r) (hr : r ≤ l.length) : ∃ c t, cut l q r = c :: t := by
  have : (cut l q r).length ≠ 0 := by unfold cut; rw [List.length_take, List.length_drop]; omega
  cases hc : cut l q r with
  | nil => rw [hc] at this; exact absurd rfl this
  | cons c t => exact ⟨c, t, rfl⟩
end Mine

end

section
open PySem PySem.W PyProof.Rows
set_option Elab.async false
set_option maxRecDepth 100000
set_option linter.unusedVariables false
namespace Mine

/-! what the laws' functions compute, without a program -/

/-- a script's number as a sign -/
def sgn (T : List Nat) (n : Int) : Nat := if n.fmod 16 < 12 then T.getD (n.fmod 16).toNat 0 else
  if (n.fdiv 16).fmod 1112064 < 55296 then ((n.fdiv 16).fmod 1112064).toNat else ((n.fdiv 16).fmod 1112064).toNat + 2048
theorem sgn_facts (n : Int) : 0 ≤ n.fmod 16 ∧ n.fmod 16 < 16 ∧ 0 ≤ (n.fdiv 16).fmod 1112064 ∧ (n.fdiv 16).fmod 1112064 < 1112064 :=
  ⟨Int.fmod_nonneg_of_pos n (by decide), Int.fmod_lt_of_pos n (by decide), Int.fmod_nonneg_of_pos _ (by decide), Int.fmod_lt_of_pos _ (by decide)⟩
theorem sgn_lt {T : List Nat} (hT : ∀ c ∈ T, c < 0x110000) (n : Int) : sgn T n < 0x110000 := by
  obtain ⟨h0, h1, h2, h3⟩ := sgn_facts n
  unfold sgn
  split
  · by_cases h : (n.fmod 16).toNat < T.length
    · rw [List.getD_eq_getElem?_getD, List.getElem?_eq_getElem h]; exact hT _ (List.getElem_mem h)
    · rw [List.getD_eq_getElem?_getD, List.getElem?_eq_none (by omega)]; decide
  · split <;> omega
theorem sgn_get {T : List Nat} (hT : T.length = 12) {n : Int} (h : n.fmod 16 < 12) : (seqIndex? (n.fmod 16) T.length).bind (T[·]?) = some (sgn T n) := by
  obtain ⟨h0, h1, h2, h3⟩ := sgn_facts n
  have e : seqIndex? (n.fmod 16) T.length = some (n.fmod 16).toNat := by
    have hneg : ¬ (n.fmod 16 < 0) := by omega
    unfold seqIndex?
    simp only [hneg, if_false]
    rw [if_pos (by simp; omega)]
  rw [e]
  have hlt : (n.fmod 16).toNat < T.length := by omega
  show T[(n.fmod 16).toNat]? = _
  rw [List.getElem?_eq_getElem hlt]
  unfold sgn
  rw [if_pos h, List.getD_eq_getElem?_getD, List.getElem?_eq_getElem hlt]; rfl

end Mine

end

section
open PySem PySem.W PyProof.Rows
set_option Elab.async false
set_option maxRecDepth 100000
set_option linter.unusedVariables false
namespace Mine

section
variable {C : Cfg} {A : Around} {f : FD} {env : List (Str × V)} {own : Option (Str × List PyData)}

/-- found.group(0) -/
theorem Ev.grp0 {x : Str} {p p' p'' pos : Pos} {kk : Nat} {l : List Nat} {k : Kind} {q r : Nat} (h : Ev C A f env own (.Name x p) (.m (S l) k q r)) (hsz : l.length ≤ sizeLine) (hline : (p'.endLine == pos.line) = true := by rfl) :
    Ev C A f env own (.Call (.Attribute (.Name x p) "group" p') [.Constant (.int 0) kk p''] [] pos) (vs (cut l q r)) :=
  Ev.meth (ds := [vi 0]) h OfT.mat plainAttrs_match slot_group type_group (Evs.cons Ev.int Evs.nil) (fun ov vals hl => by
    obtain ⟨v, rfl⟩ := one_val hl
    exact Op.group0 hsz) (hline := hline)
/-- found.group('set') -/
theorem Ev.grpS {x : Str} {p p' p'' pos : Pos} {kk : Nat} {l : List Nat} {k : Kind} {q r : Nat} (h : Ev C A f env own (.Name x p) (.m (S l) k q r)) (hsz : l.length ≤ sizeLine) (hline : (p'.endLine == pos.line) = true := by rfl) :
    Ev C A f env own (.Call (.Attribute (.Name x p) "group" p') [.Constant (.str "set") kk p''] [] pos) (setOf l k q r) :=
  Ev.meth (ds := [.d (.str "set")]) h OfT.mat plainAttrs_match slot_group type_group (Evs.cons (Ev.str (l := [115, 101, 116]) (by decide +kernel)) Evs.nil) (fun ov vals hl => by
    obtain ⟨v, rfl⟩ := one_val hl
    exact Op.groupSet hsz) (hline := hline)
/-- t[1:-1] -/
theorem Ev.inner {e : Expr} {p p1 p2 p3 pos : Pos} {k1 k2 : Nat} {l : List Nat} (h : Ev C A f env own e (vs l)) (hsz : l.length ≤ sizeLine) (ht : ∀ x t r, letTemporaryGo e (.str x t) r = pure () := by intro _ _ _; rfl) :
    Ev C A f env own (.Subscript e (.Slice (some (.Constant (.int 1) k1 p1)) (some (.UnaryOp .USub (.Constant (.int 1) k2 p2) p3)) Option.none p) pos) (vs l.tail.dropLast) := by
  have := Ev.slice (p := p) (pos := pos) (lo := some (.Constant (.int 1) k1 p1)) (hi := some (.UnaryOp .USub (.Constant (.int 1) k2 p2) p3)) (st := Option.none) (a := some 1) (b := some (-1)) (c := Option.none) h Ev.int (Ev.neg Ev.int) trivial rfl hsz (sl_len _ _ _) ht
  rwa [show (Option.none : Option Int).getD 1 = 1 from rfl, sl_in] at this
/-- t[1:] -/
theorem Ev.behind {e : Expr} {p p1 pos : Pos} {k1 : Nat} {l : List Nat} (h : Ev C A f env own e (vs l)) (hsz : l.length ≤ sizeLine) (ht : ∀ x t r, letTemporaryGo e (.str x t) r = pure () := by intro _ _ _; rfl) :
    Ev C A f env own (.Subscript e (.Slice (some (.Constant (.int 1) k1 p1)) Option.none Option.none p) pos) (vs l.tail) := by
  have := Ev.slice (p := p) (pos := pos) (lo := some (.Constant (.int 1) k1 p1)) (hi := Option.none) (st := Option.none) (a := some 1) (b := Option.none) (c := Option.none) h Ev.int trivial trivial rfl hsz (sl_len _ _ _) ht
  rwa [show (Option.none : Option Int).getD 1 = 1 from rfl, sl_from1] at this
/-- t[0] of a text that is not empty -/
theorem Ev.first {e : Expr} {p pos : Pos} {k : Nat} {c : Nat} {l t : List Nat} (h : Ev C A f env own e (vs l)) (hl : l = c :: t) (hsz : l.length ≤ sizeLine) (ht : ∀ x t r, letTemporaryGo e (.str x t) r = pure () := by intro _ _ _; rfl) :
    Ev C A f env own (.Subscript e (.Constant (.int 0) k p) pos) (vs [c]) :=
  Ev.sub h Ev.int fun _ _ => Op.chr hsz (by
    subst hl
    have : seqIndex? 0 (c :: t).length = some 0 := by
      have hneg : ¬ ((0 : Int) < 0) := by decide
      unfold seqIndex?
      simp only [hneg, if_false]
      rw [if_pos (by simp)]; rfl
    rw [this]; rfl) (ht := ht)
end
end Mine
namespace Mine
section
variable {C : Cfg} {A : Around} {f : FD} {env : List (Str × V)} {own : Option (Str × List PyData)}
/-- a call of a function of the text, by its contract -/
theorem Ev.fn {x : Str} {p pos : Pos} {args : List Expr} {ds : List V} {d : V} {a : Addr} {n : Nat} (hF : Fun C a n ds d) (hg : C.mg x = some (.ref a)) (hc : Callee C (.ref a)) (hR : Room A n) (h : Evs C A f env own args ds)
    (hk : f.sc.kind = .function := by rfl) (hx : ∀ L, (f.env L).kindOf x = some .globalImplicit := by intro _; rfl) (hd : (x == ("__debug__" : Str)) = false := by decide +kernel)
    (hst : ∀ L, (backTo pos (starEach args (f.env L))).any (·.1) = false := by intro _; rfl) : Ev C A f env own (.Call (.Name x p) args [] pos) d :=
  Ev.call (.inl hg) hc h (fun vals hl => hF A vals hR hl) hk hx hd hst
/-- two things that are the same: != is False, == is True -/
theorem Tst.neq {e₁ e₂ : Expr} {pos : Pos} {a : PyData} (h1 : Ev C A f env own e₁ (.d a)) (h2 : Ev C A f env own e₂ (.d a)) (ha : SeqAt.shaped a = true) (he : PyData.eqv a a = true) (hu : A.units + 64 < cLine) (hm : behindInMarks .NotEq e₂ = false := by rfl) :
    Tst C A f env own (.Compare e₁ [.NotEq] [e₂] pos) false := by
  have := Tst.cmp (pos := pos) h1 h2 (fun _ _ => Op.ne ha ha hu) hm
  rwa [he] at this
theorem chars_get {l : List Nat} {k : Nat} {d : V} (h : (l.map fun c => vs [c])[k]? = some d) : ∃ c, l[k]? = some c ∧ d = vs [c] := by
  rw [List.getElem?_map] at h
  cases hc : l[k]? with
  | none => rw [hc] at h; cases h
  | some c => rw [hc] at h; cases h; exact ⟨c, rfl, rfl⟩
/-- signs of texts -/
def Okl (l : List Nat) : Prop := ∀ c ∈ l, c < 0x110000
theorem Okl.append {a b : List Nat} (h : Okl a) (k : Okl b) : Okl (a ++ b) := fun c hc => by
  rcases List.mem_append.mp hc with hc | hc
  · exact h c hc
  · exact k c hc
theorem Okl.str {a : List Nat} (h : Okl a) : PyData.strOk (S a) = true := by
  unfold PyData.strOk S
  simp only [List.all_toArray, List.all_eq_true, decide_eq_true_eq]
  exact h
end
theorem flat_one (g : Int → Nat) : ∀ ns : List Int, (ns.map fun n => [g n]).flatten = ns.map g
  | [] => rfl
  | n :: r => by simp [flat_one g r]
end Mine

end

section
open PySem PySem.W PyProof.Rows
set_option Elab.async false
set_option maxRecDepth 100000
set_option linter.unusedVariables false
namespace Mine

/-! a law's script, a law's end -/
theorem has_ints {R : WRecords} : ∀ {xs : List WData}, WShape.hasItems R xs .int = true → ∃ ns : List Int, xs = ns.map WData.int
  | [], _ => ⟨[], rfl⟩
  | x :: xs, h => by
    have h' : (WShape.has R x .int && WShape.hasItems R xs .int) = true := h
    obtain ⟨h1, h2⟩ := Bool.and_eq_true_iff.mp h'
    obtain ⟨ns, rfl⟩ := has_ints h2
    cases x with
    | int i => exact ⟨i :: ns, rfl⟩
    | _ => simp [WShape.has, WShape.arms] at h1
theorem law_args {l : OpenLaw} (hm : l.most = some 63) (hb : l.bound = none) {args : List WData} (h : l.row.toRowW.claim.pre args = true) : ∃ ns : List Int, args = [.list (ns.map WData.int)] ∧ ns.length ≤ 63 := by
  obtain ⟨h1, h2⟩ := pre_splitW h
  obtain ⟨d, r, rfl, h3, h4⟩ := hasAllW_cons (e := .list .int) (es := []) h1
  obtain rfl := hasAllW_nil h4
  cases d with
  | list xs =>
    have h5 : WShape.hasItems l.row.records xs .int = true := by simpa [WShape.has, WShape.arms] using h3
    obtain ⟨ns, rfl⟩ := has_ints h5
    refine ⟨ns, rfl, ?_⟩
    have h6 : l.pre.holds [] { args := [.list (ns.map WData.int)] } = true := h2
    unfold OpenLaw.pre at h6
    rw [hm, hb] at h6
    simp [WTm.holds, WTm.value, less?] at h6
    by_cases hq : ns.length ≤ 63
    · exact hq
    · exfalso
      have : (63 : Int) < ns.length := by omega
      rw [show Num.less? (WData.int 63) (WData.int (ns.length : Int)) = some (decide ((63 : Int) < ns.length)) from rfl, decide_eq_true this] at h6
      cases h6
  | _ => simp [WShape.has, WShape.arms] at h3
theorem reads_ints {R : WRecords} {cl : Str → Option Addr} {h : Heap} : ∀ {ns : List Int} {vs : List Value} {as : List Addr}, ReadsAllW R cl h vs (ns.map WData.int) as → ∃ bs, ReadsAll h vs (ns.map PyData.int) bs
  | [], [], _, _ => ⟨_, .nil⟩
  | [], v :: vs, _, r => by cases r
  | n :: ns, [], _, r => by cases r
  | n :: ns, v :: vs, _, r => by
    cases r with
    | cons h1 h2 =>
      cases h1
      obtain ⟨bs, q⟩ := reads_ints h2
      exact ⟨_, .cons (.int _ _) q⟩
theorem reads_script {R : WRecords} {cl : Str → Option Addr} {h : Heap} {ns : List Int} {vals : List Value} {as : List Addr} (r : ReadsAllW R cl h vals [.list (ns.map WData.int)] as) :
    ∃ v, vals = [v] ∧ ∃ bs, Reads h v (.list (ns.map PyData.int)) bs := by
  cases r with
  | cons h1 h2 =>
    cases h2
    cases h1 with
    | list ho hc hd hr =>
      obtain ⟨bs, q⟩ := reads_ints hr
      exact ⟨_, rfl, _, .list ho hc hd q⟩
theorem post_true {l : OpenLaw} {args : List WData} : l.row.toRowW.claim.post args (.bool true) args = true := by
  show (WShape.has l.row.records (.bool true) .bool && (WTm.eq .res (.lit (.bool true))).holds l.row.records { args := args, res := some (.bool true), after := args }) = true
  simp [WShape.has, WShape.arms, WTm.holds, WTm.value, same]
theorem law_end {l : OpenLaw} {cl : Str → Option Addr} {mean : ExcName → Option Value} {args : List WData} {s₁ s' : Shared} (k : Ext s₁ s') (hg : s₁.gens = #[]) : GoodWG l.row.toRowW.claim cl mean args s₁ (.ok (.ret (.bool true))) s' :=
  GoodW.toG ⟨.inl ⟨.bool true, .bool true, [], rfl, fun _ => rfl, .bool true, post_true, fun _ => ⟨List.nodup_nil, fun _ h => nomatch h⟩⟩, k.keep, k.os, k.gens.trans hg⟩
theorem room_caller {n : Nat} (h : n ≤ 400) : Room callerA n := by
  have h1 : callerA.depth = 1 + claimMargin := by first | rfl | simp [callerA]
  have h2 : callerA.units ≤ 10 := by decide
  have h3 := cLine_is
  refine ⟨by rfl, ?_, ?_⟩
  · have : callerA.depth + 400 ≤ recursionLimit := by decide
    omega
  · omega
end Mine

end

section
open PySem PySem.W PyProof.Rows
set_option Elab.async false
set_option maxRecDepth 100000
set_option linter.unusedVariables false
namespace Mine

/-! functions whose names a comprehension captures; a comprehension with a test -/

@[reducible] def FD.compC (sc : Scope) (cl : List (Str × Addr)) (f : FD) (L₀ : Addr) : FD := ⟨sc, cl, f.qual, none, f.code, fun _ => f.frame L₀⟩

section
variable {C : Cfg} {A : Around} {f : FD} {env : List (Str × V)} {own : Option (Str × List PyData)} {h₀ : Heap} {mu : List Addr} {L : Addr} {tmp tmp' : List (Value × V)} {s s' : Shared}

theorem Op.lenl {v₁ : Value} {ds : List PyData} (hsz : ds.length ≤ sizeLine) : Op C A (call (.builtin "len") [v₁]) [(v₁, .d (.list ds))] (vi ds.length) := .of1 fun mu s B r₁ => by
  obtain ⟨as, r⟩ := r₁
  rw [sizeLine_eq] at hsz
  cases r with
  | @list a o vs n _ as' ho hc hd hr =>
    have hlen := readsAll_len hr
    rw [Array.length_toList] at hlen
    refine wpC_lift (PyProof.Rows.len_list (l := a) (items := vs) ⟨_, er_le _ _ ho, hc, _, hd⟩ (by omega) ?_)
    exact ⟨Ext.toks s _, by rw [hlen]; exact Rep.mkInt _ _⟩

end
end Mine

end

section
open PySem PySem.W PyProof.Rows
set_option Elab.async false
set_option maxRecDepth 100000
set_option linter.unusedVariables false
namespace Mine

/-! a function of one argument; its argument and the name that it binds first are captured by a comprehension -/
@[reducible] def FD.fnC (nm : Str) (sc : Scope) (a : Addr) (cd : Value) (cl : List (Str × Addr)) : FD := ⟨sc, cl, nm ++ ".<locals>.", some a, cd, fun L => some L⟩

section
variable {C : Cfg} {A : Around} {f : FD} {env : List (Str × V)} {own : Option (Str × List PyData)} {h₀ : Heap} {mu : List Addr} {L : Addr} {tmp tmp' : List (Value × V)} {s s' : Shared}

end
end Mine

end

section
open PySem PySem.W PyProof.Rows
set_option Elab.async false
set_option maxRecDepth 100000
set_option linter.unusedVariables false
namespace Mine

/-! the list in hand: made, grown, turned round, its last item told anew -/

section
variable {C : Cfg} {A : Around} {f : FD} {env : List (Str × V)} {own : Option (Str × List PyData)} {h₀ : Heap} {mu : List Addr} {L : Addr} {tmp tmp' : List (Value × V)} {s s' : Shared} {m : Str → Option Value} {oa : List Addr}
  {P : Option V → List (Str × V) → Option (Str × List PyData) → Prop} {rest : List Stmt}

theorem WW.turnOwn {x : Str} {ds ds' : List PyData} {a : Addr} {vs' : List Value} {n' : Nat} {h' : Heap} {as : List Addr} (Y : WW C h₀ mu L env (some (x, ds)) tmp s m [a])
    (hs : Heap.SameBut a s.heap h') (hl : h'.get? a = some (listObj vs' n')) (hr : ReadsAll (er s.heap (L :: ([a] ++ mu))) vs' ds' as) :
    WW C h₀ mu L env (some (x, ds')) tmp { s with heap := h' } m [a] := by
  have ke : ∀ b o, (er s.heap (L :: ([a] ++ mu))).get? b = some o → (er h' (L :: ([a] ++ mu))).get? b = some o :=
    er_mono fun b o hb e => ⟨hb, (hs.2 b fun q => hb (by rw [q]; exact .tail _ (.head _))).trans e⟩
  have hoff := Y.offA a (.head _)
  have hmx : m x = some (.ref a) := by
    obtain ⟨a', _, _, _, e, h2, _⟩ := Y.own
    cases e; exact h2
  constructor
  · exact Y.ns.sameBut hs (Ne.symm hoff.2.1)
  · exact ⟨a, vs', n', as, rfl, hmx, hl, ReadsAll.keeps ke hr⟩
  · refine ⟨C.mono Y.bs.g ke, Y.bs.gens, Y.bs.os, fun b hb => ?_⟩
    by_cases hq : b = a
    · subst hq; exact (congrArg Option.isSome hl : (h'.get? b).isSome = true)
    · obtain ⟨o, e⟩ := Option.isSome_iff_exists.mp (Y.bs.live b hb)
      exact (congrArg Option.isSome ((hs.2 b hq).trans e) : (h'.get? b).isSome = true)
  · exact fun y d hy => let ⟨v, h1, h2⟩ := Y.env y d hy; ⟨v, h1, h2.keeps ke⟩
  · exact fun p hp => (Y.tmp p hp).keeps ke
  · exact fun b o e => (hs.2 b (by rintro rfl; rw [hoff.1] at e; cases e)).trans (Y.keep b o e)
  · exact Y.offL
  · exact Y.offA
  · exact Y.offM

theorem own_name {x : Str} {pos : Pos} {a : Addr} {Q : Value → Shared → Prop} (Y : WW C h₀ mu L env own tmp s m oa) (hm : m x = some (.ref a)) (h : Q (.ref a) s)
    (hk : f.sc.kind = .function) (hl : (f.env L).kindOf x = some .local) (hd : (x == ("__debug__" : Str)) = false) : wpC (M' C.prog C.w) A (eval (.Name x pos) (f.env L)) Q (fun _ _ => False) s :=
  wpC_any (wpAny_Name (wpAny_loadName_local hk hl Y.ns hm h) hd)

/-- x = [] -/
theorem Ex.newlist {x : Str} {p p' pos : Pos} (henv : env.lookup x = none) (hr : Ex C A f env (some (x, [])) rest P)
    (hk : f.sc.kind = .function := by rfl) (hl : ∀ L, (f.env L).kindOf x = some .local := by intro _; rfl) : Ex C A f env none (.Assign [.Name x p] (.List [] p') pos :: rest) P := by
  refine ⟨fun h₀ mu L s X => ?_⟩
  obtain ⟨m, oa, Y⟩ := X
  have ho : oa = [] := Y.own
  subst ho
  rw [execs_cons, exec_Assign_Name _ _ _ _ _ rfl, arm_eval_List]
  refine wpC_bind (wpC_bind (wpC_standAt (wpC_bind (wpC_bind (wpC_standAt (wpC_bind (wpC_pure ?_)))))))
  show wpC _ _ (newObj (.type "list") (.seq ([] : List Value).toArray)) _ _ s
  refine wpC_any (wpAny_newObj_type ?_ (by size_fits))
  refine wpC_bind (wpC_standAt (wpC_bind (wpC_any (wpAny_bindName (wpAny_storeName_local (hl L) (Y.ns.keeps fun b o e => Heap.get?_push_of_some _ e) (fun h' hn hs => ?_) (by show (f.sc.kind == .class || (f.sc.kind == .module && L != mainGlobals)) = false; rw [hk]; rfl))))))
  refine wpC_pure (hr.go _ _ _ _ ?_)
  have ha : s.heap.get? s.heap.objs.size = Option.none := size_none _
  have hfresh : s.heap.objs.size ∉ L :: ([] ++ mu) := Y.bs.fresh ha
  generalize hq : s.heap.objs.size = a at hn hs ha hfresh
  simp only [List.nil_append, List.mem_cons, not_or] at hfresh
  have hk1 : ∀ b o, b ≠ L → s.heap.get? b = some o → h'.get? b = some o := fun b o hb e => (hs.2 b hb).trans (Heap.get?_push_of_some _ e)
  have hka : h'.get? a = some (listObj [] 0) := (hs.2 a hfresh.1).trans (by rw [← hq]; exact Heap.get?_push_size _ rfl)
  have ke : ∀ b o, (er s.heap (L :: ([] ++ mu))).get? b = some o → (er h' (L :: ([a] ++ mu))).get? b = some o := er_mono fun b o hb e => by
    simp only [List.nil_append, List.mem_cons, List.cons_append, not_or] at hb ⊢
    exact ⟨⟨hb.1, (fun q => by rw [q, ha] at e; cases e), hb.2⟩, hk1 b o hb.1 e⟩
  refine ⟨fun y => if y = x then some (.ref a) else m y, [a], ?_⟩
  constructor
  · rw [← hq] at hn ⊢; exact hn
  · exact ⟨a, [], 0, [], rfl, if_pos rfl, hka, .nil⟩
  · refine ⟨C.mono Y.bs.g ke, Y.bs.gens, Y.bs.os, fun b hb => ?_⟩
    by_cases hb1 : b = L
    · subst hb1
      obtain ⟨o, _, _, e, _⟩ := hn
      exact (congrArg Option.isSome e : (h'.get? b).isSome = true)
    · by_cases hb2 : b = a
      · subst hb2; exact (congrArg Option.isSome hka : (h'.get? b).isSome = true)
      · obtain ⟨o, e⟩ := Option.isSome_iff_exists.mp (Y.bs.live b (by
          simp only [List.nil_append, List.mem_cons, List.cons_append] at hb ⊢
          rcases hb with h | h | h
          · exact .inl h
          · exact absurd h hb2
          · exact .inr h))
        exact (congrArg Option.isSome (hk1 b o hb1 e) : (h'.get? b).isSome = true)
  · intro y d hy
    obtain ⟨v, h1, h2⟩ := Y.env y d hy
    refine ⟨v, (if_neg ?_).trans h1, h2.keeps ke⟩
    rintro rfl
    rw [henv] at hy; cases hy
  · exact fun p hp => nomatch hp
  · exact fun b o e => hk1 b o (by rintro rfl; rw [Y.offL] at e; cases e) (Y.keep b o e)
  · exact Y.offL
  · intro b hb
    rw [List.mem_singleton] at hb; subst hb
    refine ⟨?_, hfresh.1, hfresh.2⟩
    cases e : h₀.get? b with
    | none => rfl
    | some o => have := Y.keep b o e; rw [ha] at this; cases this
  · exact Y.offM

/-- the object after a change of its items -/
theorem listObj_at {h : Heap} {a : Addr} {vs : List Value} {n : Nat} (ho : h.get? a = some (listObj vs n)) (g : Array Value → Array Value) (vs' : List Value) (hg : g vs.toArray = vs'.toArray) :
    ∃ n', (h.update a (Obj.mapSeq g)).get? a = some (listObj vs' n') := by
  refine ⟨if (g vs.toArray).size == vs.toArray.size then n else n + 1, (Heap.get?_update_self _ ho rfl).trans ?_⟩
  unfold listObj
  rw [← hg]
  rfl

theorem callee_builtin' {T : String} : Callee C (.builtin T) := .inl fun a e => nomatch e

/-- x.append(e) -/
theorem Ex.append1 {x : Str} {p apos pos spos : Pos} {e : Expr} {d : PyData} {ds : List PyData} (h : Ev C A f env (some (x, ds)) e (.d d)) (hsz : ds.length ≤ sizeLine) (hr : Ex C A f env (some (x, ds ++ [d])) rest P)
    (hk : f.sc.kind = .function := by rfl) (hl : ∀ L, (f.env L).kindOf x = some .local := by intro _; rfl) (hd : (x == ("__debug__" : Str)) = false := by decide +kernel)
    (hbase : ∀ L, attributeBase (.Name x p) "append" (f.env L) (eval (.Name x p) (f.env L)) = eval (.Name x p) (f.env L) := by intro _; rfl) (hline : (apos.endLine == pos.line) = true := by rfl)
    (hfew : ∀ L, methodCallForm ([e].length + 0) (backTo pos (starEach [e] (f.env L))) [] = true := by intro _; rfl)
    (hst : ∀ L, (backTo pos (starEach [e] (f.env L))).any (·.1) = false := by intro _; rfl) (he : ∀ env, starEach [e] env = (false, eval e env) :: starEach [] env := by intro _; rfl)
    (hi : ∀ L, interactive (f.env L) = false := by intro _; rfl) :
    Ex C A f env (some (x, ds)) (.Expr (.Call (.Attribute (.Name x p) "append" apos) [e] [] pos) spos :: rest) P := by
  refine ⟨fun h₀ mu L s X => ?_⟩
  obtain ⟨m, oa, Y⟩ := X
  obtain ⟨a, vs, n, as, rfl, hm, ho, hrd⟩ := Y.own
  rw [execs_cons, exec_Expr (f.env L) _ _ (hi L) rfl, arm_eval_Call, hbase]
  refine wpC_bind (wpC_bind (wpC_standAt (wpC_bind (wpC_bind (own_name Y hm (wpC_bind (wpC_standAt ?_)) hk (hl L) hd)))))
  refine methodCall_ PySem.F.plainAttrs_list PySem.F.slot_list_append PySem.F.type_list_append ⟨_, ho, rfl⟩ (fun b e => by cases e; exact ⟨_, ho, rfl⟩) (hfew L) hline
    (callWith_ callee_builtin' (Evs.cons h Evs.nil he) (hst L) Y fun vals s₁ hl₁ Y₁ => ?_)
  obtain ⟨v, rfl⟩ := one_val hl₁
  obtain ⟨a', vs, n, as, e, _, ho, hrd⟩ := Y₁.own
  cases e
  have hlen := readsAll_len hrd
  obtain ⟨n', ho'⟩ := listObj_at ho (fun z => z.push v) (vs ++ [v]) (by simp)
  refine wpC_lift (call_meets PySem.F.slot_list_append ⟨_, ho, rfl⟩ PySem.F.entry_list_append (PySem.F.args_list_append_2 _ _) (list_append a vs.toArray n v (by rw [List.size_toArray]; omega)) ⟨ho, ?_⟩)
  obtain ⟨bs, hv⟩ := Y₁.tmp _ (.head _)
  obtain ⟨cs, hrd'⟩ := readsAll_snoc hrd hv
  have Y₂ := Y₁.turnOwn (Heap.SameBut.update ..) ho' hrd'
  show wpC _ _ (dropValue _ _ Value.none) _ _ _
  rw [dropValue_plain (v := .none) fun _ q => nomatch q]
  exact wpC_pure (hr.go _ _ _ _ ⟨m, [a], Y₂.drop fun p hp => nomatch hp⟩)

end
end Mine

end

section
open PySem PySem.W PyProof.Rows
set_option Elab.async false
set_option maxRecDepth 100000
set_option linter.unusedVariables false
namespace Mine

/-! more of the list in hand: x += e, x[-1], x[-1] = e; items of tuples; two targets -/

section
variable {C : Cfg} {A : Around} {f : FD} {env : List (Str × V)} {own : Option (Str × List PyData)} {h₀ : Heap} {mu : List Addr} {L : Addr} {tmp tmp' : List (Value × V)} {s s' : Shared} {m : Str → Option Value} {oa : List Addr}
  {P : Option V → List (Str × V) → Option (Str × List PyData) → Prop} {rest : List Stmt}

end
end Mine

end

section
open PySem PySem.W PyProof.Rows
set_option Elab.async false
set_option maxRecDepth 100000
set_option linter.unusedVariables false
namespace Mine

/-! items of tuples, the last item of the list in hand, targets that are tuples, two targets, walks of tuples -/

section
variable {C : Cfg} {A : Around} {f : FD} {env : List (Str × V)} {own : Option (Str × List PyData)} {h₀ : Heap} {mu : List Addr} {L : Addr} {tmp tmp' : List (Value × V)} {s s' : Shared} {m : Str → Option Value} {oa : List Addr}
  {P : Option V → List (Str × V) → Option (Str × List PyData) → Prop} {rest : List Stmt}

theorem rep_tuple {w : World} {h : Heap} {v : Value} {ds : List PyData} (r : Rep w h v (.d (.tuple ds))) : ∃ a l as, v = .ref a ∧ IsTup h a l.toArray ∧ ReadsAll h l ds as := by
  obtain ⟨as, r⟩ := r
  obtain ⟨a, l, e, h1, h2⟩ := reads_tuple_items r
  exact ⟨a, l, as, e, h1, h2⟩

end
end Mine

end

section
open PySem PySem.W PyProof.Rows
set_option Elab.async false
set_option maxRecDepth 100000
set_option linter.unusedVariables false
namespace Mine

/-! two targets; targets that are tuples; walks of tuples -/

section
variable {C : Cfg} {A : Around} {f : FD} {env : List (Str × V)} {own : Option (Str × List PyData)} {h₀ : Heap} {mu : List Addr} {L : Addr} {tmp tmp' : List (Value × V)} {s s' : Shared} {m : Str → Option Value} {oa : List Addr}
  {P : Option V → List (Str × V) → Option (Str × List PyData) → Prop} {rest : List Stmt} {tg : Expr}

structure Asgs (C : Cfg) (A : Around) (f : FD) (own : Option (Str × List PyData)) (tgs : List Expr) (ds : List PyData) (ext : List (Str × V)) : Prop where
  go : ∀ h₀ mu L env vs tmp s, vs.length = ds.length → W C h₀ mu L env own (vs.zip (ds.map V.d) ++ tmp) s →
    wpC (M' C.prog C.w) A (assignInOrder ((assignEach tgs (f.env L)).map (·.2)) vs) (fun _ s' => W C h₀ mu L (ext ++ env) own tmp s') (fun _ _ => False) s
  len : ∀ L, (assignEach tgs (f.env L)).length = ds.length
theorem Asgs.nil : Asgs C A f own [] [] [] := ⟨fun h₀ mu L env vs tmp s hl X => by
  obtain rfl : vs = [] := List.length_eq_zero_iff.mp hl
  exact wpC_pure X, fun L => rfl⟩
theorem Asgs.cons {t : Expr} {ts : List Expr} {d : PyData} {ds : List PyData} {e es : List (Str × V)} (h : Asg C A f own t (.d d) e) (hs : Asgs C A f own ts ds es)
    (he : ∀ env, assignEach (t :: ts) env = (false, assign t env) :: assignEach ts env := by intro _; rfl) : Asgs C A f own (t :: ts) (d :: ds) (es ++ e) := by
  refine ⟨fun h₀ mu L env vs tmp s hl X => ?_, fun L => by rw [he, List.length_cons, List.length_cons, hs.len]⟩
  cases vs with
  | nil => cases hl
  | cons v vs =>
    rw [he, List.map_cons]
    show wpC _ _ (do holding vs (assign t (f.env L) v); assignInOrder ((assignEach ts (f.env L)).map (·.2)) vs) _ _ s
    refine wpC_bind (wpC_holding (wpC_mono (h.go _ _ _ _ _ _ _ X) (fun _ s₁ X₁ => ?_) fun _ _ x => x))
    rw [List.append_assoc]
    exact hs.go _ _ _ _ _ _ _ (Nat.succ.inj hl) X₁

/-- (a, b, ..) = a tuple -/
theorem Asg.tuple {ts : List Expr} {k : Nat} {pos : Pos} {ds : List PyData} {e : List (Str × V)} (h : Asgs C A f own ts ds e) (hh : A.handled = none) (hst : ∀ L, (assignEach ts (f.env L)).findIdx? (·.1) = none := by intro _; rfl) :
    Asg C A f own (.Tuple ts k pos) (.d (.tuple ds)) e := by
  refine ⟨fun h₀ mu L env v tmp s X => ?_⟩
  obtain ⟨m, oa, Y⟩ := X
  obtain ⟨a, l, as, rfl, h1, h2⟩ := rep_tuple (Y.tmp _ (.head _))
  have hlen := readsAll_len h2
  have ht : s.heap.IsTuple a l.toArray := h1.keeps er_le
  have key : ∀ h' : Heap, Heap.ExtBut s.heap.objs.size s.heap h' → WW C h₀ mu L env own (l.zip (ds.map V.d) ++ tmp) { s with heap := h' } m oa := fun h' hx => by
    have k : Ext s { s with heap := h' } := ⟨fun b o e => hx b o (Nat.ne_of_lt (Heap.lt_size e)) e, rfl, rfl⟩
    refine Y.ext k fun p hp => ?_
    have ke := Y.bs.er k
    rcases List.mem_append.mp hp with hp | hp
    · have gen : ∀ {g : Heap} {l : List Value} {ds : List PyData} {as : List Addr}, ReadsAll g l ds as → ∀ p ∈ l.zip (ds.map V.d), Rep C.w g p.1 p.2 := by
        intro g l
        induction l with
        | nil => intro ds as _ p hp; cases hp
        | cons v l ih =>
          intro ds as r p hp
          cases r with
          | cons r1 r2 =>
            rcases List.mem_cons.mp hp with rfl | hp
            · exact ⟨_, r1⟩
            · exact ih r2 p hp
      exact (gen h2 p hp).keeps ke
    · exact (Y.tmp p (.tail _ hp)).keeps ke
  rw [arm_assign_Tuple]
  refine wpC_bind (wpC_standAt ?_)
  unfold unpack
  rw [hst]
  refine wpC_bind (wpC_holding ?_)
  rw [h.len, ← hlen, ← List.size_toArray]
  exact wpC_lift (wpAny_unpackItems_tuple hh ht fun h' hx => h.go _ _ _ _ _ _ _ hlen (key h' hx).w)

/-! a walk of a tuple -/
theorem IsTupleIter.keeps {g g' : Heap} {it l : Addr} {i : Nat} (h : g.IsTupleIter it l i) (k : ∀ b o, g.get? b = some o → g'.get? b = some o) : g'.IsTupleIter it l i :=
  let ⟨o, a, b⟩ := h; ⟨o, k _ _ a, b⟩
theorem single_tuple {it l : Addr} {vs : Array Value} {ds : List PyData} {x : Str} {p : Pos} (hh : A.handled = none) :
    Single C A (.Name x p) it (fun k g => g.IsTupleIter it l k) (fun e => e.IsTuple l vs ∧ ∃ as, ReadsAll e vs.toList ds as) (ds.map V.d) where
  zmono h k := IsTupleIter.keeps h k
  zer := fun ⟨o, a, b⟩ k => ⟨o, er_of k a, b⟩
  zlive := fun ⟨o, a, b⟩ => by rw [a]; rfl
  dmono := fun ⟨⟨o, a1, a2⟩, as, b⟩ k => ⟨⟨o, k _ _ a1, a2⟩, as, ReadsAll.keeps k b⟩
  iter h q := wpC_lift (wpAny_pyIter_tupleiter h q)
  lot h q := wpC_pure q
  item := fun {k d s mu Q} hx hz hD h => by
    obtain ⟨⟨o, a1, a2⟩, as, hr⟩ := hD
    rw [List.getElem?_map] at hx
    cases hdk : ds[k]? with
    | none => rw [hdk] at hx; cases hx
    | some dk =>
      rw [hdk] at hx; cases hx
      obtain ⟨v, bs, hv, r⟩ := readsAll_get hr hdk
      refine wpC_lift (wpAny_pyNext_tuple_item hz ⟨o, er_le _ _ a1, a2⟩ (by simpa using hv) fun h' h1 h2 => ?_)
      exact h v h' s.toks h1 h2 ⟨bs, r⟩
  fin := fun {k s mu Q} hx hz hD h => by
    obtain ⟨⟨o, a1, a2⟩, as, hr⟩ := hD
    have hlen := readsAll_len hr
    refine wpC_lift (wpAny_pyNext_tuple_end hh hz ⟨o, er_le _ _ a1, a2⟩ ?_ fun h' h1 => h h' h1)
    rw [List.getElem?_map, Option.map_eq_none_iff, List.getElem?_eq_none_iff] at hx
    rw [Array.getElem?_eq_none_iff, ← Array.length_toList, hlen]
    exact hx

theorem Starts.tuple {x : Str} {p : Pos} {e : Expr} {ds : List PyData} (h : Ev C A f env own e (.d (.tuple ds))) (hh : A.handled = none) : Starts C A f env own (.Name x p) e (ds.map V.d) := by
  refine ⟨fun h₀ mu L tmp s m oa X => ?_⟩
  refine wpC_mono (h.go _ _ _ _ _ _ _ X) (fun v s₁ X₁ => ?_) fun _ _ x => x
  obtain ⟨l, vs, as, rfl, hD, hR⟩ := rep_tuple (X₁.tmp _ (.head _))
  have hD : (er s₁.heap (L :: (oa ++ mu))).IsTuple l vs.toArray := hD
  have hD' : s₁.heap.IsTuple l vs.toArray := let ⟨o, a1, a2⟩ := hD; ⟨o, er_le _ _ a1, a2⟩
  refine wpC_lift (wpAny_pyIter_tuple hD' ?_)
  obtain ⟨az, Z, T, hw⟩ := (single_tuple (x := x) (p := p) (vs := vs.toArray) (ds := ds) (l := l) hh).start X₁ (o := { cls := .type "tuple_iterator", data := .fields #[.ref l, .int 0 0] }) ⟨_, Heap.get?_push_size _ rfl, rfl, rfl⟩ ⟨hD, as, by simpa using hR⟩
  obtain ⟨Y', hz, hza⟩ := hw
  exact ⟨az, Z, T, { Y' with tmp := fun p hp => Y'.tmp p (.tail _ hp) }, hz, hza⟩
end
end Mine

end

section
open PySem PySem.W PyProof.Rows
set_option Elab.async false
set_option maxRecDepth 100000
set_option linter.unusedVariables false
namespace Mine
open Builtin

/-! reversed(text) -/
section
variable {prog : Program} {w : World} {A : Around} {E : Value → Shared → Prop} {s : Shared}

end

section
variable {C : Cfg} {A : Around} {f : FD} {env : List (Str × V)} {own : Option (Str × List PyData)}

end
end Mine

end

section
open PySem PySem.W PyProof.Rows
set_option Elab.async false
set_option maxRecDepth 100000
set_option linter.unusedVariables false
namespace Mine
open Builtin

/-! zip(text, list) -/
section
variable {prog : Program} {w : World} {A : Around} {E : Value → Shared → Prop} {s : Shared}

end
end Mine

end

section
open PySem PySem.W PyProof.Rows
set_option Elab.async false
set_option maxRecDepth 100000
set_option linter.unusedVariables false
namespace Mine
open Builtin

section
variable {prog : Program} {w : World} {A : Around} {E : Value → Shared → Prop} {s : Shared}

end

end Mine

end

section
open PySem PySem.W PyProof.Rows
set_option Elab.async false
set_option maxRecDepth 100000
set_option linter.unusedVariables false
namespace Mine
open Builtin

section
variable {prog : Program} {w : World} {A : Around} {E : Value → Shared → Prop} {s : Shared}
end

section
variable {C : Cfg} {A : Around} {f : FD} {env : List (Str × V)} {own : Option (Str × List PyData)}

end
end Mine

end

section
open PySem PySem.W PyProof.Rows
set_option Elab.async false
set_option maxRecDepth 100000
set_option linter.unusedVariables false
namespace Mine
open Builtin

section
variable {C : Cfg} {A : Around} {f : FD} {env : List (Str × V)} {own : Option (Str × List PyData)}

end
end Mine

end

section
open PySem PySem.W PyProof.Rows
set_option Elab.async false
set_option maxRecDepth 100000
set_option linter.unusedVariables false
namespace Mine

/-! one part of a body behind another -/
section
variable {C : Cfg} {A : Around} {f : FD} {env env₁ : List (Str × V)} {own own₁ : Option (Str × List PyData)} {P : Option V → List (Str × V) → Option (Str × List PyData) → Prop} {rest : List Stmt}

theorem Ex.seq {a : List Stmt} (h : Ex C A f env own a fun r e o => r = none ∧ (∀ x d, env₁.lookup x = some d → e.lookup x = some d) ∧ o = own₁) (hr : Ex C A f env₁ own₁ rest P) : Ex C A f env own (a ++ rest) P := by
  refine ⟨fun h₀ mu L s X => ?_⟩
  rw [execs_append]
  refine wpC_bind (wpC_mono (h.go _ _ _ _ X) (fun fl s' hh => ?_) fun _ _ x => x)
  obtain ⟨r, e, o, ⟨rfl, he, rfl⟩, rfl, W'⟩ := hh
  exact hr.go _ _ _ _ (W'.less he)
/-- an if whose arms meet -/
theorem Ex.ifs (env₁ : List (Str × V)) (own₁ : Option (Str × List PyData)) {t : Expr} {a b : List Stmt} {pos : Pos} {c : Bool} (h : Tst C A f env own t c)
    (h1 : c = true → Ex C A f env own a fun r e o => r = none ∧ (∀ x d, env₁.lookup x = some d → e.lookup x = some d) ∧ o = own₁)
    (h2 : c = false → Ex C A f env own b fun r e o => r = none ∧ (∀ x d, env₁.lookup x = some d → e.lookup x = some d) ∧ o = own₁)
    (hr : Ex C A f env₁ own₁ rest P) : Ex C A f env own (.If t a b pos :: rest) P :=
  Ex.cond h (fun e => Ex.seq (h1 e) hr) fun e => Ex.seq (h2 e) hr
/-- an if that stands last -/
theorem Ex.ifl {t : Expr} {a b : List Stmt} {pos : Pos} {c : Bool} (h : Tst C A f env own t c) (h1 : c = true → Ex C A f env own a P) (h2 : c = false → Ex C A f env own b P) : Ex C A f env own [.If t a b pos] P :=
  Ex.cond h (fun e => by rw [List.append_nil]; exact h1 e) fun e => by rw [List.append_nil]; exact h2 e
end
end Mine

end

section
open PySem PySem.W PyProof.Rows
set_option Elab.async false
set_option maxRecDepth 100000
set_option linter.unusedVariables false
namespace Mine
open Builtin Builtin.Str

/-! text methods: what they give, said of lists -/
def spl (c : Nat) : List Nat → List (List Nat)
  | [] => [[]]
  | x :: l => if x = c then [] :: spl c l else match spl c l with
    | h :: t => (x :: h) :: t
    | [] => [[x]]
theorem spl_ne (c : Nat) : ∀ l, spl c l ≠ []
  | [] => by simp [spl]
  | x :: l => by
    unfold spl
    split
    · simp
    · split <;> simp
theorem spl_free {c : Nat} : ∀ {a : List Nat}, c ∉ a → spl c a = [a]
  | [], _ => rfl
  | x :: a, h => by
    simp only [List.mem_cons, not_or] at h
    unfold spl
    rw [if_neg (Ne.symm h.1), spl_free h.2]
theorem spl_cut {c : Nat} : ∀ {a : List Nat} (b : List Nat), c ∉ a → spl c (a ++ c :: b) = a :: spl c b
  | [], b, _ => by
    show (if c = c then _ else _) = _
    rw [if_pos rfl]
  | x :: a, b, h => by
    simp only [List.mem_cons, not_or] at h
    refine (show spl c (x :: (a ++ c :: b)) = if x = c then [] :: spl c (a ++ c :: b) else (match spl c (a ++ c :: b) with | h :: t => (x :: h) :: t | [] => [[x]]) from rfl).trans ?_
    rw [if_neg (Ne.symm h.1), spl_cut b h.2]
theorem lst_append (a b : Str) : (a ++ b).cps.toList = a.cps.toList ++ b.cps.toList := by
  rw [Str.cps_append, Array.toList_append]
theorem spl_join (c : Nat) : ∀ ps : List Str, ps ≠ [] → (∀ p ∈ ps, c ∉ p.cps.toList) → spl c (Str.join ⟨#[c]⟩ ps).cps.toList = ps.map fun p => p.cps.toList
  | [], h, _ => absurd rfl h
  | [p], _, h => spl_free (h p (.head _))
  | p :: q :: r, _, h => by
    have ih := spl_join c (q :: r) (by simp) fun x hx => h x (.tail _ hx)
    show spl c (p ++ ⟨#[c]⟩ ++ Str.join ⟨#[c]⟩ (q :: r)).cps.toList = _
    rw [lst_append, lst_append, List.append_assoc]
    have : (⟨#[c]⟩ : Str).cps.toList ++ (Str.join ⟨#[c]⟩ (q :: r)).cps.toList = c :: (Str.join ⟨#[c]⟩ (q :: r)).cps.toList := rfl
    rw [this, spl_cut _ (h p (.head _)), ih]; rfl
theorem split_spl (x : Str) (c : Nat) : (Txt.split x ⟨#[c]⟩).map (fun p => p.cps.toList) = spl c x.cps.toList := by
  have hne : Txt.split x ⟨#[c]⟩ ≠ [] := fun h => by
    have := split_pos x ⟨#[c]⟩
    rw [h] at this
    exact absurd this (by decide)
  rw [← spl_join c _ hne (StrLaws.split_free x c), StrLaws.join_split]
theorem S_toList (x : Str) : S x.cps.toList = x := by cases x; simp [S]

/-- partition -/
def pt (c : Nat) (l : List Nat) : List Nat × List Nat × List Nat := (l.takeWhile (· != c), if c ∈ l then [c] else [], (l.dropWhile (· != c)).tail)
theorem pt_none {c : Nat} {l : List Nat} (h : c ∉ l) : pt c l = (l, [], []) := by
  have : ∀ x ∈ l, (x != c) = true := fun x hx => by simp; rintro rfl; exact h hx
  have e : l.takeWhile (· != c) = l := by
    have := List.takeWhile_append_of_pos (l₂ := []) this
    simpa using this
  have e' : l.dropWhile (· != c) = [] := by
    have := List.dropWhile_append_of_pos (l₂ := []) this
    simpa using this
  unfold pt
  rw [if_neg h, e, e']
  rfl
theorem pt_some {c : Nat} {a : List Nat} (b : List Nat) (h : c ∉ a) : pt c (a ++ c :: b) = (a, [c], b) := by
  have : ∀ x ∈ a, (x != c) = true := fun x hx => by simp; rintro rfl; exact h hx
  unfold pt
  rw [if_pos (by simp), List.takeWhile_append_of_pos this, List.dropWhile_append_of_pos this]
  simp
theorem at_one {x : Str} {c i : Nat} : StrLaws.At x ⟨#[c]⟩ x.length i ↔ x.cps.toList[i]? = some c := StrLaws.subAt_one x c i
theorem cut_one {l : List Nat} {c i : Nat} (h : l[i]? = some c) : l = l.take i ++ c :: l.drop (i + 1) := by
  obtain ⟨h1, h2⟩ := List.getElem?_eq_some_iff.mp h
  rw [← h2, ← List.drop_eq_getElem_cons h1, List.take_append_drop]
theorem partition_pt (x : Str) (c : Nat) : ((Txt.partition x ⟨#[c]⟩).1.cps.toList, (Txt.partition x ⟨#[c]⟩).2.1.cps.toList, (Txt.partition x ⟨#[c]⟩).2.2.cps.toList) = pt c x.cps.toList := by
  unfold Txt.partition
  rcases StrLaws.occ_head x ⟨#[c]⟩ 1 (Nat.le_refl 1) with ⟨h0, hn⟩ | ⟨i, r, h0, hi, hn⟩
  · rw [h0, pt_none]
    · rfl
    · intro hm
      obtain ⟨j, hj⟩ := List.getElem?_of_mem hm
      exact hn j (at_one.mpr hj)
  · rw [h0]
    have hi := at_one.mp hi
    have e := cut_one hi
    have hf : c ∉ x.cps.toList.take i := fun hm => by
      obtain ⟨j, hj⟩ := List.getElem?_of_mem hm
      rw [List.getElem?_take] at hj
      split at hj
      · rename_i hlt; exact hn j hlt (at_one.mpr hj)
      · cases hj
    have e2 := pt_some (x.cps.toList.drop (i + 1)) hf
    rw [← e] at e2
    rw [e2]
    show ((strSub x 0 i).cps.toList, [c], (strSub x (i + 1) x.length).cps.toList) = _
    rw [StrLaws.strSub_toList, StrLaws.strSub_toList, List.drop_zero, Nat.sub_zero, List.take_of_length_le (l := x.cps.toList.drop (i + 1))]
    rw [List.length_drop]
    show x.cps.toList.length - (i + 1) ≤ x.length - (i + 1)
    simp [Str.length]

/-- rpartition -/
def rpt (c : Nat) (l : List Nat) : List Nat × List Nat × List Nat :=
  if c ∈ l then ((l.reverse.dropWhile (· != c)).tail.reverse, [c], (l.reverse.takeWhile (· != c)).reverse) else ([], [], l)
theorem rpt_none {c : Nat} {l : List Nat} (h : c ∉ l) : rpt c l = ([], [], l) := if_neg h
theorem rpt_some {c : Nat} (a : List Nat) {b : List Nat} (h : c ∉ b) : rpt c (a ++ c :: b) = (a, [c], b) := by
  have : ∀ x ∈ b.reverse, (x != c) = true := fun x hx => by simp at hx ⊢; rintro rfl; exact h hx
  unfold rpt
  rw [if_pos (by simp)]
  have e : (a ++ c :: b).reverse = b.reverse ++ c :: a.reverse := by simp
  rw [e, List.takeWhile_append_of_pos this, List.dropWhile_append_of_pos this]
  simp
theorem rpartition_rpt (x : Str) (c : Nat) : ((Txt.rpartition x ⟨#[c]⟩).1.cps.toList, (Txt.rpartition x ⟨#[c]⟩).2.1.cps.toList, (Txt.rpartition x ⟨#[c]⟩).2.2.cps.toList) = rpt c x.cps.toList := by
  unfold Txt.rpartition
  rcases StrLaws.last_spec x ⟨#[c]⟩ with ⟨h0, hn⟩ | ⟨i, h0, hi, hn⟩
  · rw [h0, rpt_none]
    · rfl
    · intro hm
      obtain ⟨j, hj⟩ := List.getElem?_of_mem hm
      exact hn j (at_one.mpr hj)
  · rw [h0]
    have hi := at_one.mp hi
    have e := cut_one hi
    have hf : c ∉ x.cps.toList.drop (i + 1) := fun hm => by
      obtain ⟨j, hj⟩ := List.getElem?_of_mem hm
      rw [List.getElem?_drop] at hj
      exact hn (i + 1 + j) (by omega) (at_one.mpr hj)
    have e2 := rpt_some (x.cps.toList.take i) hf
    rw [← e] at e2
    rw [e2]
    show ((strSub x 0 i).cps.toList, [c], (strSub x (i + 1) x.length).cps.toList) = _
    rw [StrLaws.strSub_toList, StrLaws.strSub_toList, List.drop_zero, Nat.sub_zero, List.take_of_length_le (l := x.cps.toList.drop (i + 1))]
    rw [List.length_drop]
    show x.cps.toList.length - (i + 1) ≤ x.length - (i + 1)
    simp [Str.length]
end Mine

end

section
open PySem PySem.W PyProof.Rows
set_option Elab.async false
set_option maxRecDepth 100000
set_option linter.unusedVariables false
namespace Mine
open Builtin Builtin.Str

section
variable {C : Cfg} {A : Around}

def tup3 (r : List Nat × List Nat × List Nat) : PyData := .tuple [.str (S r.1), .str (S r.2.1), .str (S r.2.2)]
theorem tup3_of {x y z : Str} {r : List Nat × List Nat × List Nat} (h : (x.cps.toList, y.cps.toList, z.cps.toList) = r) : tup3 r = .tuple [.str x, .str y, .str z] := by
  subst h
  unfold tup3
  rw [S_toList, S_toList, S_toList]
theorem rep_tup3 {w : World} {h : Heap} {mu : List Addr} {a : Addr} {x y z : Str} {ta tb tc : Tok} (hm : a ∉ mu) (e : h.get? a = some { cls := .type "tuple", data := .seq [.str x ta, .str y tb, .str z tc].toArray }) : Rep w (er h mu) (.ref a) (.d (.tuple [.str x, .str y, .str z])) :=
  ⟨_, reads_tuple_at (er_of hm e) rfl rfl (.cons (.str _ _) (.cons (.str _ _) (.cons (.str _ _) .nil)))⟩

theorem Op.partition {v₁ v₂ : Value} {l : List Nat} {c : Nat} (hsz : l.length ≤ sizeLine) : Op C A (call (.builtin "str.partition") [v₁, v₂]) [(v₁, vs l), (v₂, vs [c])] (.d (tup3 (pt c l))) := .of2 fun mu s B r₁ r₂ => by
  obtain ⟨t, rfl⟩ := r₁.str
  obtain ⟨u, rfl⟩ := r₂.str
  have e := partition_pt (S l) c
  have el : (S l).cps.toList = l := by simp [S]
  rw [el] at e
  rw [tup3_of e]
  refine wpC_lift (call_meets F.slot_str_partition (typeIs_str _ _ _) F.entry_str_partition (F.args_str_partition_2 _ _) (meets_str_partition (S l) ⟨#[c]⟩ t u rfl (by rw [S_len]; exact hsz)) ?_)
  have fin : ∀ ta tb tc k, (fun v s' => Ext s s' ∧ Rep C.w (er s'.heap mu) v (.d (.tuple [.str (Txt.partition (S l) ⟨#[c]⟩).1, .str (Txt.partition (S l) ⟨#[c]⟩).2.1, .str (Txt.partition (S l) ⟨#[c]⟩).2.2])))
      (.ref s.heap.objs.size) { s with toks := k, heap := s.heap.push { cls := .type "tuple", data := .seq [.str (Txt.partition (S l) ⟨#[c]⟩).1 ta, .str (Txt.partition (S l) ⟨#[c]⟩).2.1 tb, .str (Txt.partition (S l) ⟨#[c]⟩).2.2 tc].toArray } } :=
    fun ta tb tc k => ⟨Ext.push s _ k, rep_tup3 (B.fresh (size_none _)) (Heap.get?_push_size _ rfl)⟩
  revert fin
  unfold Txt.partition
  cases occurrences (S l) ⟨#[c]⟩ 0 (S l).length 1 with
  | nil => intro fin; exact fin _ _ _ _
  | cons i r => intro fin; exact fin _ _ _ _

theorem Op.rpartition {v₁ v₂ : Value} {l : List Nat} {c : Nat} (hsz : l.length ≤ sizeLine) : Op C A (call (.builtin "str.rpartition") [v₁, v₂]) [(v₁, vs l), (v₂, vs [c])] (.d (tup3 (rpt c l))) := .of2 fun mu s B r₁ r₂ => by
  obtain ⟨t, rfl⟩ := r₁.str
  obtain ⟨u, rfl⟩ := r₂.str
  have e := rpartition_rpt (S l) c
  have el : (S l).cps.toList = l := by simp [S]
  rw [el] at e
  rw [tup3_of e]
  refine wpC_lift (call_meets F.slot_str_rpartition (typeIs_str _ _ _) F.entry_str_rpartition (F.args_str_rpartition_2 _ _) (meets_str_rpartition (S l) ⟨#[c]⟩ t u rfl (by rw [S_len]; exact hsz)) ?_)
  have fin : ∀ ta tb tc k, (fun v s' => Ext s s' ∧ Rep C.w (er s'.heap mu) v (.d (.tuple [.str (Txt.rpartition (S l) ⟨#[c]⟩).1, .str (Txt.rpartition (S l) ⟨#[c]⟩).2.1, .str (Txt.rpartition (S l) ⟨#[c]⟩).2.2])))
      (.ref s.heap.objs.size) { s with toks := k, heap := s.heap.push { cls := .type "tuple", data := .seq [.str (Txt.rpartition (S l) ⟨#[c]⟩).1 ta, .str (Txt.rpartition (S l) ⟨#[c]⟩).2.1 tb, .str (Txt.rpartition (S l) ⟨#[c]⟩).2.2 tc].toArray } } :=
    fun ta tb tc k => ⟨Ext.push s _ k, rep_tup3 (B.fresh (size_none _)) (Heap.get?_push_size _ rfl)⟩
  revert fin
  unfold Txt.rpartition
  cases lastOccurrence (S l) ⟨#[c]⟩ 0 (S l).length with
  | none => intro fin; exact fin _ _ _ _
  | some i => intro fin; exact fin _ _ _ _

theorem Op.split {v₁ v₂ : Value} {l : List Nat} {c : Nat} (hsz : l.length ≤ 10000) : Op C A (call (.builtin "str.split") [v₁, v₂]) [(v₁, vs l), (v₂, vs [c])] (.d (.list ((spl c l).map fun p => .str (S p)))) := .of2 fun mu s B r₁ r₂ => by
  obtain ⟨t, rfl⟩ := r₁.str
  obtain ⟨u, rfl⟩ := r₂.str
  have hs := sizeLine_eq
  have el : (S l).cps.toList = l := by simp [S]
  have e := split_spl (S l) c
  rw [el] at e
  have hsx : (S l).length ≤ sizeLine := by rw [S_len]; omega
  have hn : (partsBetween (S l) (occurrences (S l) ⟨#[c]⟩ 0 (S l).length ((S l).length + 1)) (⟨#[c]⟩ : Str).length).length ≤ sizeLine := by
    rw [len_partsBetween]
    have := StrLaws.occ_length_le (S l) ⟨#[c]⟩ 0 (S l).length ((S l).length + 1)
    rw [S_len] at this ⊢
    omega
  have fin : ∀ (p : List (Str × Tok)) k, p.map (·.1) = Txt.split (S l) ⟨#[c]⟩ → (fun v s' => Ext s s' ∧ Rep C.w (er s'.heap mu) v (.d (.list ((spl c l).map fun p => .str (S p)))))
      (.ref s.heap.objs.size) { s with toks := k, heap := s.heap.push { cls := .type "list", data := .seq (strValues p).toArray } } := fun p k hp => by
    refine ⟨Ext.push s _ k, _, reads_list_at (er_of (B.fresh (size_none _)) (Heap.get?_push_size _ rfl)) rfl rfl (as := []) ?_⟩
    rw [← e, ← hp, List.map_map, List.map_map]
    have : ∀ p : List (Str × Tok), ReadsAll (er (s.heap.push { cls := .type "list", data := .seq (strValues p).toArray }) mu) (strValues p) (p.map ((fun p => PyData.str (S p)) ∘ ((fun p => p.cps.toList) ∘ fun x => x.1))) [] := fun p => by
      generalize er _ mu = g
      induction p with
      | nil => exact .nil
      | cons a p ih =>
        refine .cons (as := []) ?_ ih
        show Reads g (.str a.1 a.2) (.str (S a.1.cps.toList)) []
        rw [S_toList]
        exact .str _ _
    exact this p
  cases h1 : (decide ((S l).length < (⟨#[c]⟩ : Str).length) || decide (strKind (S l) < strKind ⟨#[c]⟩))
  · cases hf : (occurrences (S l) ⟨#[c]⟩ 0 (S l).length ((S l).length + 1)).isEmpty
    · refine wpC_lift (call_meets F.slot_str_split (typeIs_str _ _ _) F.entry_str_split (F.args_str_split_2 _ _) (meets_str_split_sep (S l) ⟨#[c]⟩ t u h1 rfl hf hsx hn) ?_)
      have := fin (numbered s.toks (partsBetween (S l) (occurrences (S l) ⟨#[c]⟩ 0 (S l).length ((S l).length + 1)) (⟨#[c]⟩ : Str).length)) (s.toks + (partsBetween (S l) (occurrences (S l) ⟨#[c]⟩ 0 (S l).length ((S l).length + 1)) (⟨#[c]⟩ : Str).length).length)
        ((numbered_texts _ _).trans ((if_neg (ne_true_of_eq_false h1)).trans (if_neg (ne_true_of_eq_false hf))).symm)
      rw [← strsFrom_eq] at this
      exact this
    · refine wpC_lift (call_meets F.slot_str_split (typeIs_str _ _ _) F.entry_str_split (F.args_str_split_2 _ _) (meets_str_split_not_found (S l) ⟨#[c]⟩ t u h1 rfl hf) ?_)
      exact fin [(S l, t)] s.toks ((if_neg (ne_true_of_eq_false h1)).trans (if_pos hf)).symm
  · refine wpC_lift (call_meets F.slot_str_split (typeIs_str _ _ _) F.entry_str_split (F.args_str_split_2 _ _) (meets_str_split_cannot_occur (S l) ⟨#[c]⟩ t u h1) ?_)
    exact fin [(S l, t)] s.toks (if_pos h1).symm

/-! text times bool -/
theorem gives_rmul_bool (b : Bool) (x : Str) (t : Tok) : Gives (Builtin.«int.__rmul__» ⟨[.bool b, .str x t], []⟩) (.val (Value.notImplemented)) :=
  .of_wp fun M A E s Q h => by obtain ⟨hp, g, d, tk, os⟩ := s; wp_walk; exact ⟨_, rfl, h⟩
theorem gives_mul_bool (x : Str) (t : Tok) (b : Bool) : Gives («str.__mul__» ⟨[.str x t, .bool b], []⟩) (if b = true then .val (.str x t) else .str Str.empty) := by
  cases b with
  | true => exact .rule (.of_eq rfl)
  | false => exact .rule (.of_eq rfl)
theorem index_bool : typeLookup (.type "bool") "__index__" = pure (some (.builtin "int.__index__")) := F.slot_bool_index.lookup
theorem Op.times {v₁ v₂ : Value} {l : List Nat} {b : Bool} : Op C A (binaryOp .Mult v₁ v₂) [(v₁, vs l), (v₂, vb b)] (vs (if b = true then l else [])) := .of2 fun mu s B r₁ r₂ => by
  obtain ⟨t, rfl⟩ := r₁.str
  obtain rfl := r₂.bool
  refine wpC_lift (wpAny_binaryOp_repeat (T := "str") (U := "bool") (by decide) (fun s' => typeIs_str s' (S l) t) (fun s' => PySem.typeIs_bool s' b) noFill_str_mul F.fills_bool_mul F.slot_bool_rmul repeat_str index_bool
    (call_gives F.slot_bool_rmul (PySem.typeIs_bool s b) F.entry_int_rmul (F.args_int_rmul_2 _ _) (gives_rmul_bool b (S l) t)
      ⟨rfl, call_gives F.slot_str_mul (typeIs_str s (S l) t) F.entry_str_mul (F.args_str_mul_2 _ _) (gives_mul_bool (S l) t b) ?_⟩))
  cases b with
  | true => exact ⟨Ext.refl s, Rep.mkStr _ _⟩
  | false => exact ⟨by decide, Ext.toks s _, Rep.mkStr _ _⟩
end
end Mine

end

section
open PySem PySem.W PyProof.Rows
set_option Elab.async false
set_option maxRecDepth 100000
set_option linter.unusedVariables false
namespace Mine
open Builtin Builtin.Str

/-! text.replace('[', ''): the two texts must be told apart by their tokens -/
theorem wpC_toks {α : Type} {M : Model} {A : Around} {E : Value → Shared → Prop} {s : Shared} {t : Sem α} {Q : α → Shared → Prop} {n : Nat} (hn : n ≤ s.toks) (h : wpC M A t Q E s) : wpC M A t (fun a s' => n ≤ s'.toks ∧ Q a s') E s :=
  fun Γ p hΓ hc => Sem.wp_mono M Γ t (fun _ _ _ x => x) (fun _ _ _ x => x.2) p s (Sem.wp_toks M Γ n t _ _ p s hn (h Γ p hΓ hc))

section
variable {C : Cfg} {A : Around} {f : FD} {env : List (Str × V)} {own : Option (Str × List PyData)} {h₀ : Heap} {mu : List Addr} {L : Addr} {tmp tmp' : List (Value × V)} {s s' : Shared} {m : Str → Option Value} {oa : List Addr}

/-- an expression behind a token -/
structure EvT (C : Cfg) (A : Around) (f : FD) (env : List (Str × V)) (own : Option (Str × List PyData)) (e : Expr) (d : V) : Prop where
  go : ∀ h₀ mu L tmp s m oa, 1 ≤ s.toks → WW C h₀ mu L env own tmp s m oa →
  wpC (M' C.prog C.w) A (eval e (f.env L)) (fun v s' => WW C h₀ mu L env own ((v, d) :: tmp) s' m oa) (fun _ _ => False) s

theorem EvT.bin {e₁ e₂ : Expr} {o : Operator} {pos : Pos} {d₁ d₂ d : V} (h1 : EvT C A f env own e₁ d₁) (h2 : Ev C A f env own e₂ d₂)
    (op : ∀ v₁ v₂, Op C A (binaryOp o v₁ v₂) [(v₁, d₁), (v₂, d₂)] d) : EvT C A f env own (.BinOp e₁ o e₂ pos) d := by
  refine ⟨fun h₀ mu L tmp s m oa ht X => ?_⟩
  rw [eval_BinOp]
  refine wpC_bind (wpC_mono (h1.go _ _ _ _ _ _ _ ht X) (fun v₁ s₁ X₁ => ?_) fun _ _ x => x)
  refine wpC_bind (wpC_holding (wpC_mono (h2.go _ _ _ _ _ _ _ X₁) (fun v₂ s₂ X₂ => ?_) fun _ _ x => x))
  refine wpC_bind (wpC_standAt (wpC_operate ((op v₁ v₂).use X₂ ?_ fun p hp => .tail _ (.tail _ hp))))
  simp

theorem Evs.consT {x : Str} {l : List Nat} {k : Nat} {p : Pos} {e : Expr} {d : V} (hx : x = S l) (h : EvT C A f env own e d) (he : ∀ env, starEach [.Constant (.str x) k p, e] env = (false, eval (.Constant (.str x) k p) env) :: (false, eval e env) :: starEach [] env := by intro _; rfl) :
    Evs C A f env own [.Constant (.str x) k p, e] [vs l, d] := by
  subst hx
  refine ⟨fun pos h₀ mu L tmp s m oa X => ?_⟩
  rw [he]
  show wpC _ _ (do
    let v ← eval (.Constant (.str (S l)) k p) (f.env L)
    let here ← (pure [v] : Sem (List Value))
    return here ++ (← holding here (do
      let v ← eval e (f.env L)
      let here ← (pure [v] : Sem (List Value))
      return here ++ (← holding here (spliced (backTo pos (starEach [] (f.env L)))))))) _ _ s
  refine wpC_bind (wpC_any (wpAny_Constant_str (wpC_bind (wpC_pure (wpC_bind (wpC_holding ?_))))))
  have X₁ : WW C h₀ mu L env own ((.str (S l) s.toks, vs l) :: tmp) { s with toks := s.toks + 1 } m oa := X.put (Ext.toks s _) fun mu _ _ => ⟨_, .str _ _⟩
  refine wpC_bind (wpC_mono (h.go _ _ _ _ _ _ _ (Nat.le_add_left 1 s.toks) X₁) (fun v s₂ X₂ => wpC_bind (wpC_pure (wpC_bind (wpC_holding (wpC_pure (wpC_pure (wpC_pure ?_))))))) fun _ _ x => x)
  refine ⟨rfl, X₂.drop fun q hq => ?_⟩
  simp only [List.append_nil, List.zip_cons_cons, List.zip_nil_left, List.cons_append, List.nil_append, List.mem_cons] at hq ⊢
  rcases hq with hq | hq | hq
  · exact .inr (.inl hq)
  · exact .inl hq
  · exact .inr (.inr hq)

theorem evalArgsR {es : List Expr} {fv : Value} {pos : Pos} {R : List Value → Shared → Prop} (h : wpC (M' C.prog C.w) A (spliced (backTo pos (starEach es (f.env L)))) R (fun _ _ => False) s) (hst : (backTo pos (starEach es (f.env L))).any (·.1) = false) :
    wpC (M' C.prog C.w) A (evalArgs fv true (backTo pos (starEach es (f.env L))) []) (fun x s' => x.kw = [] ∧ R x.pos s') (fun _ _ => False) s := by
  have key : wpC (M' C.prog C.w) A (spliced (backTo pos (starEach es (f.env L))) >>= fun vs => (pure (vs, (none : Option Value)) : Sem (List Value × Option Value)) >>= fun r => holding (r.1 ++ r.2.toList) do
      let kw := ([] : List Str).zip (← evalAll [])
      return ⟨← (pure r.1 : Sem (List Value)), kw⟩) (fun (x : Args) s' => x.kw = [] ∧ R x.pos s') (fun _ _ => False) s := by
    refine wpC_bind (wpC_mono h (fun vs s' h' => ?_) fun _ _ x => x)
    refine wpC_bind (wpC_pure (wpC_holding ?_))
    refine wpC_bind (wpC_pure (wpC_bind (wpC_pure (wpC_pure ⟨rfl, h'⟩))))
  unfold evalArgs
  cases hb : backTo pos (starEach es (f.env L)) with
  | nil => rw [hb] at key; exact key
  | cons p r =>
    obtain ⟨b, t⟩ := p
    rw [hb] at key hst
    simp only [List.any_cons, Bool.or_eq_false_iff] at hst
    cases b with
    | true => exact absurd hst.1 (by simp)
    | false => exact key

theorem callWithR {es : List Expr} {id : String} {first : List Value} {pos : Pos} {Q : Value → Shared → Prop} {R : List Value → Shared → Prop} (h : wpC (M' C.prog C.w) A (spliced (backTo pos (starEach es (f.env L)))) R (fun _ _ => False) s) (hst : (backTo pos (starEach es (f.env L))).any (·.1) = false)
    (op : ∀ vals s', R vals s' → wpC (M' C.prog C.w) A (call (.builtin id) (first ++ vals)) Q (fun _ _ => False) s') :
    wpC (M' C.prog C.w) A (callWith pos (.builtin id) first (backTo pos (starEach es (f.env L))) []) Q (fun _ _ => False) s := by
  unfold callWith
  refine wpC_bind (wpC_holding (wpC_mono (evalArgsR h hst) (fun x s₁ hx => wpC_bind (wpC_standAt ?_)) fun _ _ x => x))
  obtain ⟨p, k⟩ := x
  obtain ⟨rfl, hR⟩ := hx
  simp only [hst, List.any_nil, Bool.or_false]
  have C₁ := op p s₁ hR
  have tail : ∀ {t : Sem Value}, wpC (M' C.prog C.w) A t Q (fun _ _ => False) s₁ → wpC (M' C.prog C.w) A (t >>= fun r => holding [r] point >>= fun _ => pure r) Q (fun _ _ => False) s₁ :=
    fun ht => wpC_bind (wpC_mono ht (fun r s₂ hr => wpC_bind (wpC_holding (wpC_any (wpAny_point (wpC_pure hr))))) fun _ _ x => x)
  refine wpC_bind (m := keeperOf (.builtin id)) (wpC_pure ?_)
  exact tail C₁

theorem EvT.meth {o : Expr} {name : Str} {apos pos : Pos} {args : List Expr} {T id : String} {dv d : V} {R : List Value → Prop} (ho : Ev C A f env own o dv) (hT : OfT T dv) (pa : PlainAttrs T) (slot : Slot T name id) (hty : typeOf (.builtin id) = pure (.type "method_descriptor"))
    (h : ∀ h₀ mu L tmp s m oa, 1 ≤ s.toks → WW C h₀ mu L env own tmp s m oa → wpC (M' C.prog C.w) A (spliced (backTo pos (starEach args (f.env L)))) (fun vals s' => R vals ∧ WW C h₀ mu L env own tmp s' m oa) (fun _ _ => False) s)
    (op : ∀ ov vals, R vals → Op C A (PySem.call (.builtin id) (ov :: vals)) [(ov, dv)] d)
    (hbase : ∀ L, attributeBase o name (f.env L) (eval o (f.env L)) = eval o (f.env L) := by intro _; rfl) (hline : (apos.endLine == pos.line) = true := by rfl)
    (hfew : ∀ L, methodCallForm (args.length + 0) (backTo pos (starEach args (f.env L))) [] = true := by intro _; rfl)
    (hst : ∀ L, (backTo pos (starEach args (f.env L))).any (·.1) = false := by intro _; rfl) : EvT C A f env own (.Call (.Attribute o name apos) args [] pos) d := by
  refine ⟨fun h₀ mu L tmp s m oa ht X => ?_⟩
  rw [arm_eval_Call, hbase]
  refine wpC_bind (wpC_mono (wpC_toks ht (ho.go _ _ _ _ _ _ _ X)) (fun ov s₁ X₁ => ?_) fun _ _ x => x)
  obtain ⟨ht₁, X₁⟩ := X₁
  refine wpC_bind (wpC_standAt ?_)
  have tt : s₁.TypeIs ov T ∧ ∀ a, ov = .ref a → ∃ ob : Obj, s₁.heap.get? a = some ob ∧ ob.dict = Option.none := by
    have Y := X₁
    exact hT _ _ _ _ (Y.tmp _ (.head _))
  refine methodCall_ pa slot hty tt.1 tt.2 (hfew L) hline (callWithR (h _ _ _ _ _ _ _ ht₁ X₁) (hst L) fun vals s' hR => ?_)
  refine (op ov vals hR.1).use hR.2 (fun p hp => ?_) fun p hp => .tail _ hp
  rw [List.mem_singleton] at hp
  subst hp
  exact .head _

theorem two_texts {x y : Str} {pos p1 p2 : Pos} {k1 k2 : Nat} {args : List Expr} (ha : args = [.Constant (.str x) k1 p1, .Constant (.str y) k2 p2])
    (he : ∀ env, starEach args env = (false, eval (.Constant (.str x) k1 p1) env) :: (false, eval (.Constant (.str y) k2 p2) env) :: []) (ht : 1 ≤ s.toks) (X : WW C h₀ mu L env own tmp s m oa) :
    wpC (M' C.prog C.w) A (spliced (backTo pos (starEach args (f.env L)))) (fun vals s' => (∃ n, 1 ≤ n ∧ vals = [.str x n, .str y (n + 1)]) ∧ WW C h₀ mu L env own tmp s' m oa) (fun _ _ => False) s := by
  rw [he]
  show wpC _ _ (do
    let v ← eval (.Constant (.str x) k1 p1) (f.env L)
    let here ← (pure [v] : Sem (List Value))
    return here ++ (← holding here (do
      let v ← eval (.Constant (.str y) k2 p2) (f.env L)
      let here ← (pure [v] : Sem (List Value))
      return here ++ (← holding here (pure []))))) _ _ s
  refine wpC_bind (wpC_any (wpAny_Constant_str (wpC_bind (wpC_pure (wpC_bind (wpC_holding ?_))))))
  refine wpC_bind (wpC_any (wpAny_Constant_str (wpC_bind (wpC_pure (wpC_bind (wpC_holding (wpC_pure (wpC_pure (wpC_pure ?_)))))))))
  exact ⟨⟨s.toks, ht, rfl⟩, X.step (Ext.toks s _)⟩

/-- the signs of a text but for one -/
theorem EvT.strike {o : Expr} {c : Nat} {x y : Str} {apos pos p1 p2 : Pos} {k1 k2 : Nat} {l : List Nat} (ho : Ev C A f env own o (vs l)) (hsz : l.length ≤ 10000) (hx : x = ⟨#[c]⟩) (hy : y = ⟨#[]⟩)
    (hbase : ∀ L, attributeBase o "replace" (f.env L) (eval o (f.env L)) = eval o (f.env L) := by intro _; rfl) (hline : (apos.endLine == pos.line) = true := by rfl) :
    EvT C A f env own (.Call (.Attribute o "replace" apos) [.Constant (.str x) k1 p1, .Constant (.str y) k2 p2] [] pos) (vs (l.filter (· != c))) := by
  refine EvT.meth (R := fun vals => ∃ n, 1 ≤ n ∧ vals = [.str x n, .str y (n + 1)]) ho (OfT.str _) F.plainAttrs_str F.slot_str_replace F.type_str_replace (fun h₀ mu L tmp s m oa ht X => two_texts rfl (fun _ => rfl) ht X) (fun ov vals hR => ?_) hbase hline
  obtain ⟨n, hn, rfl⟩ := hR
  refine .of1 fun mu s B r₁ => ?_
  obtain ⟨t, rfl⟩ := r₁.str
  have hs := sizeLine_eq
  subst hx hy
  have a1 : @Ne Nat n 0 := Nat.ne_of_gt hn
  have a2 : @Ne Nat (n + 1) 0 := Nat.succ_ne_zero n
  have a3 : @Ne Nat n (n + 1) := Nat.ne_of_lt (Nat.lt_succ_self n)
  refine wpC_lift (SC.replaceW a1 a2 a3 rfl (by rw [S_len]; omega) (by decide) fun t' k => ?_)
  have e : Txt.replace (S l) ⟨#[c]⟩ ⟨#[]⟩ = S (l.filter (· != c)) := by
    have := replace_strikes (S l) c
    have el : (S l).cps.toList = l := by simp [S]
    rw [el] at this
    rw [← this, S_toList]
  rw [e]
  exact ⟨Ext.toks s _, Rep.mkStr _ _⟩
end
end Mine

end

section
open PySem PySem.W PyProof.Rows
set_option Elab.async false
set_option maxRecDepth 100000
set_option linter.unusedVariables false
namespace Mine
open Builtin

section
variable {C : Cfg} {A : Around} {f : FD} {env : List (Str × V)} {own : Option (Str × List PyData)} {P : Option V → List (Str × V) → Option (Str × List PyData) → Prop} {rest : List Stmt}

/-- a, b, .. = e -/
theorem Ex.unpack {ts : List Expr} {k : Nat} {p pos : Pos} {e : Expr} {d : V} {ext : List (Str × V)} (h : Ev C A f env own e d) (ha : Asg C A f own (.Tuple ts k p) d ext) (hr : Ex C A f (ext ++ env) own rest P)
    (hw : ∀ L, swappedStores [.Tuple ts k p] e (f.env L) = pure none := by intro _; rfl) (hs : ∀ L, swapsWithSole [.Tuple ts k p] e pos.line (f.env L) = pure false := by intro _; rfl) : Ex C A f env own (.Assign [.Tuple ts k p] e pos :: rest) P := by
  refine ⟨fun h₀ mu L s X => ?_⟩
  obtain ⟨m, oa, X⟩ := X
  rw [execs_cons, exec_Assign_arm]
  refine wpC_bind (wpC_bind (wpC_standAt ?_))
  rw [hs]
  refine wpC_bind (wpC_pure ?_)
  rw [if_neg (by decide)]
  refine wpC_bind (wpC_mono (h.go _ _ _ _ _ _ _ X) (fun v s₁ X₁ => ?_) fun _ _ x => x)
  rw [hw]
  refine wpC_bind (wpC_pure ?_)
  show wpC _ _ (do assignAll v [PySem.assign (.Tuple ts k p) (f.env L)]; pure Flow.next) _ _ s₁
  refine wpC_bind (wpC_mono (ha.go _ _ _ _ _ _ _ X₁.w) (fun _ s₂ X₂ => wpC_pure (hr.go _ _ _ _ X₂)) fun _ _ x => x)

/-! enumerate(list) -/
structure EnumAt (ds : List PyData) (e it l : Addr) (k : Nat) (g x : Heap) : Prop where
  e : ∃ old, IsEnum g e it (k : Nat) old
  it : g.IsListIter it l k
  l : ∃ ys, x.IsList l ys ∧ ∃ as, ReadsAll x ys.toList ds as

def enumItems (ds : List PyData) : List V := ds.zipIdx.map fun p => .d (.tuple [.int (p.2 : Nat), p.1])
theorem enumItems_len (ds : List PyData) : (enumItems ds).length = ds.length := by simp [enumItems]
theorem enumItems_get {ds : List PyData} {k : Nat} {d : PyData} (h : ds[k]? = some d) : (enumItems ds)[k]? = some (.d (.tuple [.int (k : Nat), d])) := by
  unfold enumItems
  rw [List.getElem?_map, List.getElem?_zipIdx, h]
  simp

theorem steps_enum {es : List Expr} {kk : Nat} {pos : Pos} {ds : List PyData} {e it l : Addr} (hh : A.handled = none) (hne : e ≠ it) :
    Steps C A (.Tuple es kk pos) [e, it] (EnumAt ds e it l) (.ref e) (enumItems ds) where
  iter k s lo mu Q h q := let ⟨_, a⟩ := h.e; wpC_lift (wpAny_pyIter_enum (er_le _ _ a) q)
  mono k g g' x x' h k1 k2 := {
    e := let ⟨o, a⟩ := h.e; ⟨o, k1 _ _ a⟩
    it := IsListIter.keeps h.it k1
    l := let ⟨ys, q, as, r⟩ := h.l; ⟨ys, IsList.keeps' q k2, as, ReadsAll.keeps k2 r⟩ }
  next k s lo mu hlo hlm B hz hk := by
    obtain ⟨old, he⟩ := hz.e
    obtain ⟨ys, hys, as, hr⟩ := hz.l
    have hlen := readsAll_len hr
    rw [enumItems_len] at hk
    have hmem : ∀ b, b ∉ [e, it] → b ≠ e ∧ b ≠ it := fun b q => by
      simp only [List.mem_cons, List.not_mem_nil, or_false, not_or] at q
      exact q
    by_cases hkl : k < ds.length
    · have hd : ds[k]? = some ds[k] := List.getElem?_eq_getElem hkl
      obtain ⟨y, bs, hy, hyr⟩ := readsAll_get hr hd
      refine wpC_lift (wpAny_pyNext_enum_item (er_le _ _ he) (IsListIter.keeps hz.it er_le) (IsList.keeps' hys er_le) (by simpa using hy) hne ?_)
      intro h' a1 a2 a3 a4 a5
      dsimp only
      refine wpC_lift (wpAny_letOwnedTupleGo_enum (s := { s with heap := h', toks := s.toks + 1 }) a1 fun h'' b1 b2 => ?_)
      replace b2 : Heap.SameBut e h' h'' := b2
      have kept : ∀ b o, b ∉ [e, it] → s.heap.get? b = some o → h''.get? b = some o := fun b o hb x => by
        obtain ⟨c1, c2⟩ := hmem b hb
        exact b2.extBut _ _ c1 (a5 b o c1 c2 x)
      have ke : ∀ b o, (er s.heap mu).get? b = some o → (er h'' mu).get? b = some o := er_mono fun b o hb x => ⟨hb, kept b o (fun q => hb (hlo b q).1) x⟩
      have hn : s.heap.objs.size ∉ mu := B.fresh (size_none _)
      have hen : s.heap.objs.size ≠ e := Ne.symm (Nat.ne_of_lt (Heap.lt_size (er_le _ _ he)))
      have up : ∀ b o, b ≠ e → h'.get? b = some o → h''.get? b = some o := fun b o c1 x => b2.extBut _ _ c1 x
      have off : ∀ b ∈ [e, it], b ∉ lo := fun b q => (hlo b q).2
      refine ⟨⟨.d (.tuple [.int (k : Nat), ds[k]]), enumItems_get hd, ?_, ?_⟩, kept, rfl, rfl, ?_⟩
      · exact ⟨_, reads_tuple_at (er_of hn (up _ _ hen a3)) rfl rfl (.cons (.int _ _) (.cons (Reads.keeps ke hyr) .nil))⟩
      · constructor
        · exact ⟨_, er_of (off _ (.head _)) b1⟩
        · obtain ⟨o, x, r⟩ := a2
          exact ⟨o, er_of (off _ (.tail _ (.head _))) (up _ _ (Ne.symm hne) x), r⟩
        · exact ⟨ys, IsList.keeps' hys ke, as, ReadsAll.keeps ke hr⟩
      · intro b hb
        simp only [List.mem_cons, List.not_mem_nil, or_false] at hb
        rcases hb with rfl | rfl
        · exact (congrArg Option.isSome b1 : (h''.get? b).isSome = true)
        · obtain ⟨o, x, r⟩ := a2
          exact (congrArg Option.isSome (up _ _ (Ne.symm hne) x) : (h''.get? b).isSome = true)
    · have hx : ys[k]? = none := by
        rw [Array.getElem?_eq_none_iff]
        have : ys.toList.length = ds.length := hlen
        rw [Array.length_toList] at this
        omega
      refine wpC_lift (wpAny_pyNext_enum_end hh (er_le _ _ he) (IsListIter.keeps hz.it er_le) (IsList.keeps' hys er_le) hx fun h' hk' => ?_)
      dsimp only
      refine ⟨?_, fun b o hb x => ?_, rfl, rfl⟩
      · rw [enumItems_len]; omega
      · obtain ⟨c1, c2⟩ := hmem b hb
        exact hk' b o c2 x

theorem Starts.enum {zn : Str} {es : List Expr} {kk : Nat} {p p' pos : Pos} {e₁ : Expr} {ds : List PyData} (h₁ : Ev C A f env own e₁ (.d (.list ds))) (hh : A.handled = none)
    (hg : C.mg zn = none) (hb : C.mb zn = some (.type "enumerate"))
    (hk : f.sc.kind = .function := by rfl) (hx : ∀ L, (f.env L).kindOf zn = some .globalImplicit := by intro _; rfl) (hd : (zn == ("__debug__" : Str)) = false := by decide +kernel)
    (hst : ∀ env, starEach [e₁] env = (false, eval e₁ env) :: starEach [] env := by intro _; rfl) :
    Starts C A f env own (.Tuple es kk p) (.Call (.Name zn p') [e₁] [] pos) (enumItems ds) := by
  refine ⟨fun h₀ mu L tmp s m oa X => ?_⟩
  rw [arm_eval_Call_Name']
  refine wpC_bind (built_name hg hb X ?_ hk (hx L) hd)
  refine callWith_ callee_type (Evs.cons h₁ Evs.nil hst) (by rw [hst]; rfl) X fun vals s₁ hlv X₁ => ?_
  obtain ⟨v, rfl⟩ := one_val hlv
  obtain ⟨l, ys, as, rfl, hD, hR⟩ : ∃ l ys as, v = .ref l ∧ (er s₁.heap (L :: (oa ++ mu))).IsList l ys ∧ ReadsAll (er s₁.heap (L :: (oa ++ mu))) ys.toList ds as := by
    obtain ⟨as, r⟩ := X₁.tmp _ (.head _)
    cases r with
    | @list a o vs n _ as' ho hc hd hr => exact ⟨a, vs, _, rfl, ⟨o, ho, hc, n, hd⟩, hr⟩
  refine wpC_lift (call_enumerate_list (IsList.keeps' hD er_le) fun h' g1 g2 g3 g4 => ?_)
  refine wpC_lift (wpAny_pyIter_enum (s := { s₁ with heap := h' }) g1 ?_)
  have none_at : ∀ k, s₁.heap.get? (s₁.heap.objs.size + k) = Option.none := fun k => Heap.get?_none_of_le (Nat.le_add_right _ _)
  have K : Ext s₁ { s₁ with heap := h' } := ⟨g4, rfl, rfl⟩
  obtain ⟨Y', hza⟩ := X₁.enter (az := [s₁.heap.objs.size + 1, s₁.heap.objs.size]) K (fun a ha => by
    simp only [List.mem_cons, List.not_mem_nil, or_false] at ha
    rcases ha with rfl | rfl
    · exact ⟨none_at 1, (congrArg Option.isSome g1 : (h'.get? _).isSome = true)⟩
    · obtain ⟨o, e, _⟩ := g2
      exact ⟨none_at 0, (congrArg Option.isSome e : (h'.get? _).isSome = true)⟩)
  have hoff : ∀ k, s₁.heap.objs.size + k ∉ L :: oa := fun k q => by
    have := X₁.bs.fresh (none_at k)
    refine this ?_
    rcases List.mem_cons.mp q with q | q
    · rw [q]; exact .head _
    · exact .tail _ (List.mem_append_left _ q)
  have ke : ∀ b o, (er s₁.heap (L :: (oa ++ mu))).get? b = some o → (er h' (L :: (oa ++ ([s₁.heap.objs.size + 1, s₁.heap.objs.size] ++ mu)))).get? b = some o := er_mono fun b o hb e => by
    have := Heap.lt_size e
    refine ⟨fun q => ?_, g4 b o e⟩
    simp only [List.mem_cons, List.mem_append, List.not_mem_nil, or_false] at q hb
    rcases q with q | q | q | q
    · exact hb (.inl q)
    · exact hb (.inr (.inl q))
    · first | omega | (simp only [Addr] at q this; omega)
    · exact hb (.inr (.inr q))
  refine ⟨_, _, steps_enum hh (e := s₁.heap.objs.size + 1) (it := s₁.heap.objs.size) (l := l) (Nat.ne_of_gt (Nat.lt_succ_self _)), { Y' with tmp := fun p hp => Y'.tmp p (List.mem_append_right _ hp) }, ?_, hza⟩
  constructor
  · exact ⟨_, er_of (hoff 1) g1⟩
  · obtain ⟨o, e, r⟩ := g2
    exact ⟨o, er_of (hoff 0) e, r⟩
  · exact ⟨ys, IsList.keeps' hD ke, as, ReadsAll.keeps ke hR⟩
end
end Mine

end

section
open PySem PySem.W PyProof.Rows
set_option Elab.async false
set_option maxRecDepth 100000
set_option linter.unusedVariables false
namespace Mine

section
variable {C : Cfg} {A : Around} {f : FD} {env : List (Str × V)} {own : Option (Str × List PyData)} {h₀ : Heap} {mu : List Addr} {L : Addr} {tmp tmp' : List (Value × V)} {s s' : Shared} {m : Str → Option Value} {oa : List Addr}
  {P : Option V → List (Str × V) → Option (Str × List PyData) → Prop} {rest : List Stmt}

/-- some objects have turned, and others are new and are to turn -/
theorem WW.move {az az' : List Addr} (X : WW C h₀ (az ++ mu) L env own tmp s m oa) (h0 : ∀ a ∈ az, h₀.get? a = none ∧ a ∉ mu) (k : ∀ b o, b ∉ az → s.heap.get? b = some o → s'.heap.get? b = some o) (hg : s'.gens = s.gens) (ho : s'.os = s.os)
    (hf : ∀ a ∈ az', s.heap.get? a = none ∧ (s'.heap.get? a).isSome = true) : WW C h₀ (az' ++ mu) L env own tmp s' m oa := by
  have hL : L ∉ az := fun q => X.offM (List.mem_append_left _ q)
  have hA : ∀ a ∈ oa, a ∉ az := fun a ha q => (X.offA a ha).2.2 (List.mem_append_left _ q)
  have fr : ∀ a ∈ L :: (oa ++ (az ++ mu)), a ∉ az' := fun a ha q => by
    have := X.bs.live a ha
    rw [(hf a q).1] at this; cases this
  have ke : ∀ b o, (er s.heap (L :: (oa ++ (az ++ mu)))).get? b = some o → (er s'.heap (L :: (oa ++ (az' ++ mu)))).get? b = some o := er_mono fun b o hb e => by
    simp only [List.mem_cons, List.mem_append, not_or] at hb ⊢
    exact ⟨⟨hb.1, hb.2.1, (fun q => by rw [(hf b q).1] at e; cases e), hb.2.2.2⟩, k b o hb.2.2.1 e⟩
  constructor
  · obtain ⟨o, es, ep, e, r⟩ := X.ns
    exact ⟨o, es, ep, k _ _ hL e, r⟩
  · have hown := X.own
    cases own with
    | none => exact hown
    | some p =>
      obtain ⟨x, ds⟩ := p
      obtain ⟨a, vs, n, as, h1, h2, h3, h4⟩ := hown
      exact ⟨a, vs, n, as, h1, h2, k _ _ (hA a (by rw [h1]; exact .head _)) h3, ReadsAll.keeps ke h4⟩
  · refine ⟨C.mono X.bs.g ke, hg.trans X.bs.gens, ho.trans X.bs.os, fun a ha => ?_⟩
    by_cases hn : a ∈ az'
    · exact (hf a hn).2
    have ha' : a ∈ L :: (oa ++ mu) := by
      simp only [List.mem_cons, List.mem_append] at ha ⊢
      rcases ha with h | h | h | h
      · exact .inl h
      · exact .inr (.inl h)
      · exact absurd h hn
      · exact .inr (.inr h)
    have hq : a ∉ az := by
      rcases List.mem_cons.mp ha' with rfl | ha
      · exact hL
      · rcases List.mem_append.mp ha with ha | ha
        · exact hA a ha
        · exact fun q => (h0 a q).2 ha
    obtain ⟨o, e⟩ := Option.isSome_iff_exists.mp (X.bs.live a (by
      simp only [List.mem_cons, List.mem_append] at ha' ⊢
      rcases ha' with h | h | h
      · exact .inl h
      · exact .inr (.inl h)
      · exact .inr (.inr (.inr h))))
    rw [k a o hq e]; rfl
  · intro x d hx
    obtain ⟨v, h1, h2⟩ := X.env x d hx
    exact ⟨v, h1, h2.keeps ke⟩
  · exact fun p hp => (X.tmp p hp).keeps ke
  · exact fun b o e => k b o (fun q => by rw [(h0 b q).1] at e; cases e) (X.keep b o e)
  · exact X.offL
  · exact fun a ha => ⟨(X.offA a ha).1, (X.offA a ha).2.1, fun q => by
      rcases List.mem_append.mp q with q | q
      · exact fr a (.tail _ (List.mem_append_left _ ha)) q
      · exact (X.offA a ha).2.2 (List.mem_append_right _ q)⟩
  · exact fun q => by
      rcases List.mem_append.mp q with q | q
      · exact fr L (.head _) q
      · exact X.offM (List.mem_append_right _ q)

theorem evalThenUse_comp {elt : Expr} {gens : List Comprehension} {scope : Scope} {pos : Pos} {env : Env} {u : Value → Sem Unit} :
    evalThenUse (.ListComp elt gens scope pos) env u = (do let _ ← comprehension (.ListComp elt gens scope pos) scope env (firstIterPos gens pos) (newList []) (firstAsync gens) (firstIter gens env) (some u)) := rfl

/-- x = [comprehension] -/
theorem Ex.assignComp {x : Str} {px spos : Pos} {elt tg iter : Expr} {scope : Scope} {pos : Pos} {items : List V} {ds : List PyData} {ext : Nat → V → List (Str × V)}
    (hst : Starts C A f env own tg iter items) (hl : ds.length = items.length) (hsz : ds.length ≤ sizeLine)
    (ha : ∀ L k d, items[k]? = some d → Asg C A (FD.comp scope f L) Option.none tg d (ext k d))
    (he : ∀ L k d x, items[k]? = some d → ds[k]? = some x → Ev C A (FD.comp scope f L) (ext k d) Option.none elt (.d x))
    (hrest : Ex C A f ((x, .d (.list ds)) :: env) own rest P) (hown : notOwn own x := by first | trivial | decide +kernel)
    (hfree : ∀ x ∈ scope.names, x.2 ≠ .free := by decide +kernel) (hcell : ∀ x ∈ scope.names, x.2 ≠ .cell := by decide +kernel) (hkind : scope.kind = .function := by rfl) (hnames : ∀ x ∈ scope.names, x.2 = .local → scope.names.lookup x.1 = some .local := by decide +kernel)
    (hfs : ∀ env x, foldedSetIterable iter env x = pure x := by intro _ _; rfl) (hfk : f.sc.kind = .function := by rfl) (hfl : ∀ L, (f.env L).kindOf x = some .local := by intro _; rfl)
    (hsw : ∀ L, swapsWith (.ListComp elt [⟨tg, iter, [], 0⟩] scope pos) (some (.Name x px)) spos.line (f.env L) = pure true := by intro _; rfl) :
    Ex C A f env own (.Assign [.Name x px] (.ListComp elt [⟨tg, iter, [], 0⟩] scope pos) spos :: rest) P := by
  refine ⟨fun h₀ mu L s X => ?_⟩
  obtain ⟨m, oa, X⟩ := X
  rw [execs_cons, exec_Assign_Name_used _ _ _ _ (hsw L), evalThenUse_comp]
  refine wpC_bind (wpC_bind (wpC_standAt (wpC_bind (wpC_bind ?_))))
  unfold comprehension
  rw [closureFor_none hfree]
  show wpC _ _ (eval iter (f.env L) >>= _) _ _ s
  refine wpC_bind (wpC_mono (hst.go _ _ _ _ _ _ _ X) (fun v s₁ h₁ => ?_) fun _ _ x => x)
  refine wpC_bind (wpC_standAt ?_)
  show wpC _ _ (foldedSetIterable iter (f.env L) v >>= _) _ _ s₁
  rw [hfs]
  refine wpC_bind (wpC_pure (wpC_bind (wpC_holding (wpC_mono h₁ (fun it s₂ h₂ => ?_) fun _ _ x => x))))
  obtain ⟨az, Z, T, Y, hz0, hza⟩ := h₂
  refine wpC_bind (wpC_standAt ?_)
  show wpC _ _ (newList [] >>= _) _ _ s₂
  refine wpC_bind (wpC_any (wpAny_newObj_type ?_ (by size_fits)))
  refine wpC_bind (wpC_pure (wpC_bind (wpC_any (wpAny_newFunctionEnv (binds := []) hcell (fun x hx => nomatch hx) (fun h' hns hsb => ?_) hkind))))
  dsimp only [Option.isSome_some] at hns hsb ⊢
  rw [map_eq_self (l := scope.names) (fun x hx => by
    obtain ⟨n, k⟩ := x
    have : (k == NameKind.free) = false := by simpa using hfree _ hx
    simp [this])]
  generalize hacc : s₂.heap.objs.size = acc at hns hsb ⊢
  have hsz1 : (s₂.heap.push { cls := .type "list", data := .seq #[] }).objs.size = acc + 1 := by rw [Heap.size_push, hacc]
  rw [hsz1] at hns hsb ⊢
  generalize hLc : acc + 1 = Lc at hns hsb ⊢
  have hne : acc ≠ Lc := by rw [← hLc]; exact Nat.ne_of_lt (Nat.lt_succ_self acc)
  have faL : ∀ b o, s₂.heap.get? b = some o → b ≠ acc ∧ b ≠ Lc := fun b o e => by
    have := Heap.lt_size e
    rw [hacc] at this
    exact ⟨Nat.ne_of_lt this, by rw [← hLc]; exact Nat.ne_of_lt (Nat.lt_succ_of_lt this)⟩
  have nacc : s₂.heap.get? acc = Option.none := by rw [← hacc]; exact size_none _
  have nLc : s₂.heap.get? Lc = Option.none := by rw [← hLc, ← hacc]; exact Heap.get?_none_of_le (Nat.le_succ _)
  have k₄ : ∀ b o, s₂.heap.get? b = some o → h'.get? b = some o := fun b o e => (hsb.2 b (faL b o e).2).trans (Heap.get?_push_of_some _ (Heap.get?_push_of_some _ e))
  have acc₄ : h'.get? acc = some { cls := .type "list", data := .seq #[] } := by
    refine (hsb.2 acc hne).trans (Heap.get?_push_of_some _ ?_)
    rw [← hacc]; exact Heap.get?_push_size _ rfl
  -- the addresses that may turn within
  have oML : ∀ a, a ∈ L :: (oa ++ (az ++ mu)) → (s₂.heap.get? a).isSome = true := Y.bs.live
  have hMacc : acc ∉ L :: (oa ++ (az ++ mu)) := Y.bs.fresh nacc
  have hMLc : Lc ∉ L :: (oa ++ (az ++ mu)) := Y.bs.fresh nLc
  have hazd : ∀ a ∈ az, a ∈ Lc :: acc :: (L :: (oa ++ (az ++ mu))) ∧ a ∉ Lc :: acc :: L :: oa := fun a q => by
    have q' : a ∈ L :: (oa ++ (az ++ mu)) := .tail _ (List.mem_append_right _ (List.mem_append_left _ q))
    refine ⟨.tail _ (.tail _ q'), fun r => ?_⟩
    rcases List.mem_cons.mp r with rfl | r
    · exact hMLc q'
    · rcases List.mem_cons.mp r with rfl | r
      · exact hMacc q'
      · rcases List.mem_cons.mp r with rfl | r
        · exact Y.offM (List.mem_append_left _ q)
        · exact (Y.offA a r).2.2 (List.mem_append_left _ q)
  have hlo : ∀ a ∈ Lc :: acc :: L :: oa, a ∈ Lc :: acc :: (L :: (oa ++ (az ++ mu))) := fun a q => by
    simp only [List.mem_cons, List.mem_append] at q ⊢
    rcases q with q | q | q | q
    · exact .inl q
    · exact .inr (.inl q)
    · exact .inr (.inr (.inl q))
    · exact .inr (.inr (.inr (.inl q)))
  have key : ∀ (R : Flow → Shared → Prop), (∀ fl s', (∃ mc, s'.heap.Ns Lc mc) → (∀ b o, b ∉ az → s₂.heap.get? b = some o → s'.heap.get? b = some o) → s'.gens = s₂.gens → s'.os = s₂.os →
      (∃ vs as, s'.heap.IsList acc vs ∧ ReadsAll (er s'.heap (Lc :: acc :: (L :: (oa ++ (az ++ mu))))) vs.toList ds as) → R fl s') →
      codeC (M' C.prog C.w) A (.compStart (.ListComp elt [⟨tg, iter, [], 0⟩] scope pos) 0 it (.ref acc) ((FD.comp scope f L).env Lc)) (fun r s' => match r with | .ok fl => R fl s' | .error _ => False) { s₂ with heap := h', toks := s₂.toks + ([] : List (Str × Value)).length } := by
    intro R fin
    have hz₄ : Z 0 (er h' (Lc :: acc :: L :: oa)) (er h' (Lc :: acc :: (L :: (oa ++ (az ++ mu))))) := T.mono _ _ _ _ _ hz0 (er_mono fun b o hb e => ⟨by
      simp only [List.mem_cons, not_or] at hb ⊢
      exact ⟨(faL b o e).2, (faL b o e).1, hb⟩, k₄ b o e⟩) (er_mono fun b o hb e => ⟨by
      simp only [List.mem_cons, not_or] at hb ⊢
      exact ⟨(faL b o e).2, (faL b o e).1, hb⟩, k₄ b o e⟩)
    refine compStart_ (compLoop_ (fun n s => ∃ k, n + k = items.length ∧ (∃ mc, s.heap.Ns Lc mc) ∧ (∀ b o, b ∉ az → s₂.heap.get? b = some o → s.heap.get? b = some o) ∧
      (∃ vs as, s.heap.IsList acc vs ∧ ReadsAll (er s.heap (Lc :: acc :: (L :: (oa ++ (az ++ mu))))) vs.toList (ds.take k) as) ∧ Bs C (Lc :: acc :: (L :: (oa ++ (az ++ mu)))) s ∧ s.gens = s₂.gens ∧ s.os = s₂.os ∧ Z k (er s.heap (Lc :: acc :: L :: oa)) (er s.heap (Lc :: acc :: (L :: (oa ++ (az ++ mu)))))) (fun n s hI => ?_) items.length ?_) fun Q q => T.iter 0 _ _ _ Q hz₄ q
    · obtain ⟨k, hnk, ⟨mc, hmc⟩, hkeep, ⟨vs, as, hIs, hRd⟩, hB, hge, hos, hz⟩ := hI
      refine wpC_mono (T.next k s (Lc :: acc :: L :: oa) (Lc :: acc :: (L :: (oa ++ (az ++ mu)))) hazd hlo hB hz (by omega)) (fun r s₃ hr => ?_) fun _ _ x => x
      have hLaz : Lc ∉ az := fun q => hMLc (.tail _ (List.mem_append_right _ (List.mem_append_left _ q)))
      have haaz : acc ∉ az := fun q => hMacc (.tail _ (List.mem_append_right _ (List.mem_append_left _ q)))
      cases r with
      | none =>
        obtain ⟨rfl, h1, h2, h3⟩ := hr
        refine fin _ _ ?_ (fun b o hb e => h1 b o hb (hkeep b o hb e)) (h2.trans hge) (h3.trans hos) ⟨vs, as, ?_, ?_⟩
        · obtain ⟨o, es, ep, e, r⟩ := hmc
          exact ⟨mc, o, es, ep, h1 _ _ hLaz e, r⟩
        · obtain ⟨o, e, r⟩ := hIs
          exact ⟨o, h1 _ _ haaz e, r⟩
        · rw [List.take_of_length_le (by omega)] at hRd
          exact ReadsAll.keeps (er_mono fun b o hb e => ⟨hb, h1 b o (fun q => hb (.tail _ (.tail _ (.tail _ (List.mem_append_right _ (List.mem_append_left _ q)))))) e⟩) hRd
      | some v =>
        refine wpC_mono hr (fun _ s₅ h₅ => ?_) fun _ _ x => x
        obtain ⟨⟨d, hd, hrep, hz'⟩, h1, h2, h3, h4⟩ := h₅
        have ke : ∀ b o, (er s.heap (Lc :: acc :: (L :: (oa ++ (az ++ mu))))).get? b = some o → (er s₅.heap (Lc :: acc :: (L :: (oa ++ (az ++ mu))))).get? b = some o :=
          er_mono fun b o hb e => ⟨hb, h1 b o (fun q => hb (.tail _ (.tail _ (.tail _ (List.mem_append_right _ (List.mem_append_left _ q)))))) e⟩
        have hB₅ : Bs C (Lc :: acc :: (L :: (oa ++ (az ++ mu)))) s₅ := ⟨C.mono hB.g ke, h2.trans hB.gens, h3.trans hB.os, fun a ha => by
          by_cases hq : a ∈ az
          · exact h4 a hq
          · obtain ⟨o, e⟩ := Option.isSome_iff_exists.mp (hB.live a ha)
            rw [h1 a o hq e]; rfl⟩
        have X₅ : W C (er s₅.heap [Lc]) (acc :: (L :: (oa ++ (az ++ mu)))) Lc [] Option.none [(v, d)] s₅ := by
          refine ⟨mc, [], ?_⟩
          constructor
          · obtain ⟨o, es, ep, e, r⟩ := hmc
            exact ⟨o, es, ep, h1 _ _ hLaz e, r⟩
          · rfl
          · exact hB₅
          · intro x dx hx; cases hx
          · intro p hp
            rw [List.mem_singleton] at hp; subst hp
            exact hrep
          · exact er_le
          · rw [er_get, if_pos (.head _)]
          · exact fun a ha => nomatch ha
          · intro q
            rcases List.mem_cons.mp q with q | q
            · exact hne q.symm
            · exact hMLc q
        refine wpC_mono ((ha L k d hd).go _ _ _ _ _ _ _ X₅) (fun _ s₆ X₆ => ?_) fun _ _ x => x
        obtain ⟨m₆, oa₆, X₆⟩ := X₆
        have hkl := (List.getElem?_eq_some_iff.mp hd).1
        obtain ⟨x, hx⟩ : ∃ x, ds[k]? = some x := ⟨_, List.getElem?_eq_getElem (by omega)⟩
        rw [List.append_nil] at X₆
        refine wpC_mono ((he L k d x hd hx).go _ _ _ _ _ _ _ X₆) (fun xv s₇ X₇ => ?_) fun _ _ x => x
        have Y₇ := X₇
        have ho₇ : oa₆ = [] := Y₇.own
        subst ho₇
        -- what stood at s₅ stands at s₇, but for the comprehension's own names
        have k₇ : ∀ b o, b ≠ Lc → s₅.heap.get? b = some o → s₇.heap.get? b = some o := fun b o hb e => Y₇.keep b o (er_of (fun q => hb (List.mem_singleton.mp q)) e)
        have k₇r : ∀ b o, (er s₅.heap (Lc :: acc :: (L :: (oa ++ (az ++ mu))))).get? b = some o → (er s₇.heap (Lc :: acc :: (L :: (oa ++ (az ++ mu))))).get? b = some o :=
          er_mono fun b o hb e => ⟨hb, k₇ b o (fun q => hb (by rw [q]; exact .head _)) e⟩
        have hIs₇ : s₇.heap.IsList acc vs := by
          obtain ⟨o, e, r⟩ := hIs
          exact ⟨o, k₇ _ _ hne (h1 _ _ haaz e), r⟩
        have hvl : vs.size = k := by
          have e1 : vs.toList.length = (ds.take k).length := by
            have gen : ∀ {h : Heap} {vs : List Value} {ds : List PyData} {as : List Addr}, ReadsAll h vs ds as → vs.length = ds.length := by
              intro h vs
              induction vs with
              | nil => intro ds as r; cases r; rfl
              | cons v vs ih => intro ds as r; cases r with | cons a b => simp [ih b]
            exact gen hRd
          rw [List.length_take, Array.length_toList] at e1
          omega
        obtain ⟨bs, hxr⟩ := Y₇.tmp _ (.head _)
        refine wpC_lift (wpAny_list_append hIs₇ (fun h₈ hIs₈ hs₈ => ?_) (by omega))
        have k₈ : ∀ b o, (er s₇.heap (Lc :: acc :: (L :: (oa ++ (az ++ mu))))).get? b = some o → (er h₈ (Lc :: acc :: (L :: (oa ++ (az ++ mu))))).get? b = some o :=
          er_mono fun b o hb e => ⟨hb, (hs₈.2 b (fun q => hb (by rw [q]; exact .tail _ (.head _)))).trans e⟩
        refine ⟨n - 1, by omega, k + 1, by omega, ⟨m₆, ?_⟩, ?_, ?_, ?_, ?_, ?_, ?_⟩
        · exact Y₇.ns.sameBut hs₈ (Ne.symm hne)
        · exact fun b o hb e => (hs₈.2 b (faL b o e).1).trans (k₇ b o (faL b o e).2 (h1 b o hb (hkeep b o hb e)))
        · obtain ⟨cs, q⟩ := readsAll_snoc (ReadsAll.keeps (fun b o e => k₈ b o (k₇r b o (ke b o e))) hRd) (Reads.keeps k₈ hxr)
          refine ⟨_, cs, hIs₈, ?_⟩
          rw [take_succ_snoc hx, Array.toList_push]
          exact q
        · refine ⟨C.mono Y₇.bs.g k₈, Y₇.bs.gens, Y₇.bs.os, fun a ha => ?_⟩
          by_cases hq : a = acc
          · subst hq
            obtain ⟨o, e, _⟩ := hIs₈
            exact (congrArg Option.isSome e : (h₈.get? a).isSome = true)
          · obtain ⟨o, e⟩ := Option.isSome_iff_exists.mp (Y₇.bs.live a ha)
            exact (congrArg Option.isSome ((hs₈.2 a hq).trans e) : (h₈.get? a).isSome = true)
        · exact (Y₇.bs.gens.trans hB.gens.symm).trans hge
        · exact (Y₇.bs.os.trans hB.os.symm).trans hos
        · refine T.mono _ _ _ _ _ hz' (er_mono fun b o hb e => ⟨hb, (hs₈.2 b (fun q => hb (by rw [q]; exact .tail _ (.head _)))).trans (k₇ b o (fun q => hb (by rw [q]; exact .head _)) e)⟩) (fun b o e => k₈ b o (k₇r b o e))
    · refine ⟨0, rfl, ⟨_, hns⟩, fun b o _ e => k₄ b o e, ⟨#[], _, ⟨_, acc₄, rfl, 0, rfl⟩, .nil⟩, ?_, rfl, rfl, hz₄⟩
      refine ⟨C.mono Y.bs.g (er_mono fun b o hb e => ⟨by
        simp only [List.mem_cons, not_or] at hb ⊢
        exact ⟨(faL b o e).2, (faL b o e).1, hb⟩, k₄ b o e⟩), Y.bs.gens, Y.bs.os, fun a ha => ?_⟩
      rcases List.mem_cons.mp ha with rfl | ha
      · obtain ⟨o, _, _, e, _⟩ := hns
        exact (congrArg Option.isSome e : (h'.get? a).isSome = true)
      · rcases List.mem_cons.mp ha with rfl | ha
        · exact (congrArg Option.isSome acc₄ : (h'.get? a).isSome = true)
        · obtain ⟨o, e⟩ := Option.isSome_iff_exists.mp (Y.bs.live a ha)
          exact (congrArg Option.isSome (k₄ a o e) : (h'.get? a).isSome = true)
  refine wpC_holding (wpC_bind (wpC_attempt (wpC_holding (wpC_run (h := Option.none) ?_ (by intro x; cases x)))))
  rw [show A.mark Option.none = A by cases A; rfl]
  refine codeC_mono (key (fun fl s' => (∃ mc, s'.heap.Ns Lc mc) ∧ (∀ b o, b ∉ az → s₂.heap.get? b = some o → s'.heap.get? b = some o) ∧ s'.gens = s₂.gens ∧ s'.os = s₂.os ∧
      (∃ vs as, s'.heap.IsList acc vs ∧ ReadsAll (er s'.heap (Lc :: acc :: (L :: (oa ++ (az ++ mu))))) vs.toList ds as)) (fun fl s' a b c d e => ⟨a, b, c, d, e⟩)) (fun r s' hr => ?_)
  cases r with
  | error e => exact hr.elim
  | ok fl =>
  obtain ⟨⟨mc, hmc⟩, hk, hg, ho, vs, as, hIs, hRd⟩ := hr
  have hv : ∀ x ∈ (scope.names.filter fun x => (x.2 == .local || x.2 == .cell) && x.1 != (".0" : Str)).reverse, x.2 = .local →
      Env.kindOf ((FD.comp scope f L).env Lc) x.1 = some .local := fun x hx hl => hnames x (List.mem_filter.mp (List.mem_reverse.mp hx)).1 hl
  have hv' : ∀ x ∈ (scope.names.filter fun x => (x.2 == .local || x.2 == .cell) && x.1 != (".0" : Str)).reverse.drop 1 ++ (scope.names.filter fun x => (x.2 == .local || x.2 == .cell) && x.1 != (".0" : Str)).reverse.take 1, x.2 = .local →
      Env.kindOf ((FD.comp scope f L).env Lc) x.1 = some .local := fun x hx hl => by
    rcases List.mem_append.mp hx with h1 | h1
    · exact hv x (List.mem_of_mem_drop h1) hl
    · exact hv x (List.mem_of_mem_take h1) hl
  have liveLc : (s'.heap.get? Lc).isSome = true := by
    obtain ⟨o, _, _, e, _⟩ := hmc
    exact (congrArg Option.isSome e : (s'.heap.get? Lc).isSome = true)
  have Y₂ := Y.move (s' := s') (az' := [Lc]) hza hk hg ho (fun a q => by
    rw [List.mem_singleton] at q; subst q
    exact ⟨nLc, liveLc⟩)
  have hLcL : Lc ≠ L := fun q => hMLc (by rw [q]; exact .head _)
  have hLcA : Lc ∉ oa := fun q => hMLc (.tail _ (List.mem_append_left _ q))
  have Y₃ : WW C (er s'.heap (L :: oa)) ([Lc] ++ mu) L env own [(.ref acc, .d (.list ds))] s' m oa := { Y₂ with
    keep := er_le
    offL := by rw [er_get, if_pos (.head _)]
    offA := fun a q => ⟨by rw [er_get, if_pos (.tail _ q)], (Y₂.offA a q).2⟩
    tmp := fun p hp => by
      rw [List.mem_singleton] at hp
      subst hp
      obtain ⟨o, e, hc, n, hd⟩ := hIs
      refine ⟨_, reads_list_at (er_of (fun q => ?_) e) hc hd (ReadsAll.keeps (er_mono fun b o hb e => ⟨fun q => hb ?_, e⟩) hRd)⟩
      · simp only [List.mem_cons, List.mem_append, List.not_mem_nil, or_false] at q
        rcases q with q | q | q | q
        · exact hMacc (by rw [q]; exact .head _)
        · exact hMacc (.tail _ (List.mem_append_left _ q))
        · exact hne q
        · exact hMacc (.tail _ (List.mem_append_right _ (List.mem_append_right _ q)))
      · simp only [List.mem_cons, List.mem_append, List.not_mem_nil, or_false] at q ⊢
        rcases q with q | q | q | q
        · exact .inr (.inr (.inl q))
        · exact .inr (.inr (.inr (.inl q)))
        · exact .inl q
        · exact .inr (.inr (.inr (.inr (.inr q)))) }
  refine wpC_bind (wpC_any (wpAny_rule (wpC_bind (wpC_holding (wpC_mono ((Asg.name (p := px) hown hfk hfl).go _ _ _ _ _ _ _ Y₃.w) (fun _ s₄ X₄ => ?_) fun _ _ x => x)))))
  obtain ⟨m₄, oa₄, Y₄⟩ := X₄
  have hns₄ : s₄.heap.Ns Lc mc := by
    obtain ⟨o, es, ep, e, r⟩ := hmc
    exact ⟨o, es, ep, Y₄.keep _ _ (er_of (by simp only [List.mem_cons, not_or]; exact ⟨hLcL, hLcA⟩) e), r⟩
  refine wpC_bind (wpC_any (wpAny_comp_letGo (cenv := (FD.comp scope f L).env Lc) hkind _ s₄ mc hv' hns₄ fun h₉ m' _ hs' => wpC_pure (wpC_pure (wpC_pure ?_))))
  have hsub : ∀ b o, h₀.get? b = some o → (er s'.heap (L :: oa)).get? b = some o := fun b o e => er_of (fun q => by
    rcases List.mem_cons.mp q with rfl | q
    · rw [Y.offL] at e; cases e
    · rw [(Y.offA b q).1] at e; cases e) (Y₂.keep b o e)
  have Y₅ : WW C h₀ ([Lc] ++ mu) L ([(x, .d (.list ds))] ++ env) own [] s₄ m₄ oa₄ := { Y₄ with
    keep := fun b o e => Y₄.keep b o (hsub b o e)
    offL := Y.offL
    offA := fun a q => ⟨(by
      cases e : h₀.get? a with
      | none => rfl
      | some o => have := (Y₄.offA a q).1; rw [hsub a o e] at this; cases this), (Y₄.offA a q).2⟩ }
  have Y₆ := Y₅.finish (s' := { s₄ with heap := h₉ }) (fun a q => by
    rw [List.mem_singleton] at q
    subst q
    refine ⟨?_, fun q => hMLc (.tail _ (List.mem_append_right _ (List.mem_append_right _ q)))⟩
    cases e : h₀.get? a with
    | none => rfl
    | some o => have := Y.keep a o e; rw [nLc] at this; cases this) (fun b o hb e => (hs'.2 b (fun q => hb (by rw [q]; exact .head _))).trans e) rfl rfl
  exact hrest.go _ _ _ _ Y₆.w
end
end Mine

end

section
open PySem PySem.W PyProof.Rows
set_option Elab.async false
set_option maxRecDepth 100000
set_option linter.unusedVariables false
namespace Mine

/-! the pieces that separate finds in a text, told from the text's own parts -/

def piece (l : List Nat) : V → Kind × List Nat
  | .m _ k q r => (k, cut l q r)
  | _ => (.run, [])
def pcs (l : List Nat) : List (Kind × List Nat) := (finds l 0).map (piece l)

theorem cut_drop (l : List Nat) (p q r : Nat) : cut l (p + q) (p + r) = cut (l.drop p) q r := by
  unfold cut
  rw [List.drop_drop]
  congr 1
  omega
theorem finds_drop (l : List Nat) : ∀ (n p s : Nat), l.length - (p + s) ≤ n → p + s ≤ l.length → (finds l (p + s)).map (piece l) = (finds (l.drop p) s).map (piece (l.drop p))
  | n, p, s, hn, hp => by
    have e : (l.drop p).drop s = l.drop (p + s) := List.drop_drop
    cases hx : nxt (l.drop (p + s)) with
    | none => rw [finds_none hx, finds_none (by rw [e]; exact hx)]; rfl
    | some t =>
      obtain ⟨sk, k, m⟩ := t
      have hb := nxt_pos hx
      rw [List.length_drop] at hb
      rw [finds_some hx, finds_some (x := l.drop p) (p := s) (by rw [e]; exact hx)]
      rw [List.map_cons, List.map_cons]
      cases n with
      | zero => omega
      | succ n =>
        have ih := finds_drop l n p (s + sk + m) (by omega) (by omega)
        rw [show p + s + sk + m = p + (s + sk + m) by omega, ih]
        congr 1
        show (k, cut l (p + s + sk) (p + (s + sk + m))) = (k, cut (l.drop p) (s + sk) (s + sk + m))
        rw [← cut_drop, show p + s + sk = p + (s + sk) by omega]
theorem pcs_none {l : List Nat} (h : nxt l = none) : pcs l = [] := by
  unfold pcs; rw [finds_none (by simpa using h)]; rfl
theorem pcs_some {l : List Nat} {sk n : Nat} {k : Kind} (h : nxt l = some (sk, k, n)) : pcs l = (k, (l.drop sk).take n) :: pcs (l.drop (sk + n)) := by
  have hb := nxt_pos h
  unfold pcs
  rw [finds_some (p := 0) (by simpa using h), List.map_cons]
  have := finds_drop l _ (sk + n) 0 (Nat.le_refl _) (by omega)
  rw [show 0 + sk + n = sk + n + 0 by omega, this]
  congr 1
  show (k, cut l (0 + sk) (sk + n + 0)) = _
  unfold cut
  rw [show sk + n + 0 - (0 + sk) = n by omega, Nat.zero_add]

theorem nlen_run (a : List Nat) (b : List Nat) (ha : ∀ c ∈ a, c ≠ 91) (hb : b.head? = some 91 ∨ b = []) : nlen 91 (a ++ b) = a.length := by
  unfold nlen
  have : (a ++ b).takeWhile (· != 91) = a := by
    rw [List.takeWhile_append_of_pos (by simpa using ha)]
    rcases hb with hb | rfl
    · cases b with
      | nil => cases hb
      | cons x r => simp only [List.head?_cons, Option.some.injEq] at hb; subst hb; simp
    · simp
  rw [this]
/-- a run, up to the next [ or the end -/
theorem pcs_run {a b : List Nat} (hn : a ≠ []) (ha : ∀ c ∈ a, c ≠ 91) (hb : b.head? = some 91 ∨ b = []) : pcs (a ++ b) = (.run, a) :: pcs b := by
  cases a with
  | nil => exact absurd rfl hn
  | cons c r =>
    have h : nxt (c :: (r ++ b)) = some (0, .run, r.length + 1) := by
      unfold nxt
      rw [if_pos (ha c (.head _)), nlen_run r b (fun x hx => ha x (.tail _ hx)) hb]
    rw [List.cons_append, pcs_some h]
    simp
theorem closeAt_some {c : List Nat} (b : List Nat) (h1 : 93 ∉ c) (h2 : 10 ∉ c) : closeAt (c ++ 93 :: b) = some c.length := by
  induction c with
  | nil => rfl
  | cons x r ih =>
    simp only [List.mem_cons, not_or] at h1 h2
    rw [List.cons_append]
    unfold closeAt
    rw [if_neg (Ne.symm h1.1), if_neg (Ne.symm h2.1), ih h1.2 h2.2]; rfl
/-- a set -/
theorem pcs_set {c : List Nat} (b : List Nat) (h1 : 93 ∉ c) (h2 : 10 ∉ c) : pcs (91 :: (c ++ 93 :: b)) = (.set, 91 :: (c ++ [93])) :: pcs b := by
  have h : nxt (91 :: (c ++ 93 :: b)) = some (0, .set, c.length + 2) := by
    unfold nxt
    rw [if_neg (by simp), closeAt_some b h1 h2]
  rw [pcs_some h]
  congr 2
  · have : 91 :: (c ++ 93 :: b) = (91 :: (c ++ [93])) ++ b := by simp
    rw [List.drop_zero, this, List.take_append_of_le_length (by simp), List.take_of_length_le (by simp)]
  · have : 91 :: (c ++ 93 :: b) = (91 :: (c ++ [93])) ++ b := by simp
    rw [this, show 0 + (c.length + 2) = (91 :: (c ++ [93])).length by simp]
    rw [List.drop_left]
theorem closeAt_none {c : List Nat} (h1 : 93 ∉ c) : closeAt c = none := by
  induction c with
  | nil => rfl
  | cons x r ih =>
    simp only [List.mem_cons, not_or] at h1
    unfold closeAt
    rw [if_neg (Ne.symm h1.1), ih h1.2]
    split <;> rfl
/-- an open end -/
theorem pcs_open {c : List Nat} (h1 : 93 ∉ c) : pcs (91 :: c) = [(.opn, 91 :: c)] := by
  have h : nxt (91 :: c) = some (0, .opn, c.length + 1) := by
    unfold nxt
    rw [if_neg (by simp), closeAt_none h1]
    dsimp only
    rw [if_neg h1]
  rw [pcs_some h]
  simp [pcs_none (l := []) rfl]
theorem pcs_nil : pcs [] = [] := pcs_none rfl

/-! _law_plain by pieces -/
/-! the pattern that means a text -/
end Mine

end

section
open PySem PySem.W PyProof.Rows
set_option Elab.async false
set_option maxRecDepth 100000
set_option linter.unusedVariables false
namespace Mine

/-! the plain law of 01 -/
/-- a text as a run of signs other than [, and the rest -/
theorem split_run (u : List Nat) : ∃ a b, u = a ++ b ∧ (∀ c ∈ a, c ≠ 91) ∧ (b = [] ∨ ∃ r, b = 91 :: r) := by
  induction u with
  | nil => exact ⟨[], [], rfl, fun c h => by simp at h, .inl rfl⟩
  | cons x u ih =>
    by_cases hx : x = 91
    · subst hx; exact ⟨[], 91 :: u, rfl, fun c h => by simp at h, .inr ⟨u, rfl⟩⟩
    · obtain ⟨a, b, rfl, h1, h2⟩ := ih
      refine ⟨x :: a, b, rfl, fun c h => ?_, h2⟩
      rcases List.mem_cons.mp h with rfl | h
      · exact hx
      · exact h1 c h

/-! the leaves' side -/
theorem closeAt_split : ∀ {l : List Nat} {k : Nat}, closeAt l = some k → ∃ u b, l = u ++ 93 :: b ∧ 93 ∉ u ∧ 10 ∉ u
  | [], k, h => by cases h
  | c :: l, k, h => by
    unfold closeAt at h
    split at h
    · rename_i q; subst q; exact ⟨[], l, rfl, by simp, by simp⟩
    · rename_i q
      split at h
      · cases h
      · rename_i q'
        cases hk : closeAt l with
        | none => rw [hk] at h; cases h
        | some j =>
          obtain ⟨u, b, rfl, h1, h2⟩ := closeAt_split hk
          exact ⟨c :: u, b, rfl, by simp only [List.mem_cons, not_or]; exact ⟨Ne.symm q, h1⟩, by simp only [List.mem_cons, not_or]; exact ⟨Ne.symm q', h2⟩⟩

end Mine

end

section
open PySem PySem.W PyProof.Rows
set_option Elab.async false
set_option maxRecDepth 100000
set_option linter.unusedVariables false
namespace Mine

/-! of 01: what the walk needs -/
def tot (ps : List (Kind × List Nat)) : Nat := (ps.map fun p => p.2.length).sum
theorem pcs_tot : ∀ (n : Nat) (l : List Nat), l.length ≤ n → tot (pcs l) ≤ l.length ∧ ∀ p ∈ pcs l, ∀ c ∈ p.2, c ∈ l
  | n, l, hn => by
    cases hx : nxt l with
    | none => rw [pcs_none hx]; exact ⟨Nat.zero_le _, fun p h => nomatch h⟩
    | some t =>
      obtain ⟨s, k, j⟩ := t
      have hb := nxt_pos hx
      cases n with
      | zero => omega
      | succ n =>
        have ih := pcs_tot n (l.drop (s + j)) (by rw [List.length_drop]; omega)
        rw [pcs_some hx]
        refine ⟨?_, fun p hp c hc => ?_⟩
        · have := ih.1
          unfold tot at this ⊢
          rw [List.map_cons, List.sum_cons]
          rw [List.length_drop] at this
          have : ((l.drop s).take j).length = j := by rw [List.length_take, List.length_drop]; omega
          show ((l.drop s).take j).length + _ ≤ _
          omega
        · rcases List.mem_cons.mp hp with rfl | hp
          · exact List.mem_of_mem_drop (List.mem_of_mem_take hc)
          · exact List.mem_of_mem_drop (ih.2 p hp c hc)
theorem pcs_ne (l : List Nat) : ∀ p ∈ pcs l, p.2 ≠ [] := by
  intro p hp
  unfold pcs at hp
  obtain ⟨v, hv, rfl⟩ := List.mem_map.mp hp
  obtain ⟨k, q, r, rfl, h0, h1, h2⟩ := finds_mem l _ 0 (Nat.le_refl _) (Nat.zero_le _) v hv
  obtain ⟨c, t, e⟩ := cut_cons h1 h2
  show cut l q r ≠ []
  rw [e]; simp
end Mine

end

section
open PySem PySem.W PyProof.Rows
set_option Elab.async false
set_option maxRecDepth 100000
set_option linter.unusedVariables false
namespace Mine

/-! of 01: what the walk of _law_leaves needs -/
end Mine

end

section
open PySem PySem.W PyProof.Rows
set_option Elab.async false
set_option maxRecDepth 100000
set_option linter.unusedVariables false
namespace Mine

/-! the plain law of 05 -/
abbrev Pc := Kind × List Nat
def mrk : Kind → List Nat → List Nat
  | .set, p => 91 :: (p.tail.dropLast.flatMap (fun c => [115, c]) ++ [93])
  | .opn, p => 91 :: p.tail.flatMap fun c => [116, c]
  | .run, p => p.flatMap fun c => [c, 114]
def odds : List Nat → List Nat
  | [] => []
  | [_] => []
  | _ :: b :: l => b :: odds l
def evens : List Nat → List Nat
  | [] => []
  | [a] => [a]
  | a :: _ :: l => a :: evens l
def unmk : Kind → List Nat → List Nat
  | .set, p => 91 :: (odds p.tail.dropLast ++ [93])
  | .opn, p => 91 :: odds p.tail
  | .run, p => evens p
def mkp (p : Pc) : Pc := (p.1, mrk p.1 p.2)
def unmkp (p : Pc) : Pc := (p.1, unmk p.1 p.2)
def flat (ps : List Pc) : List Nat := (ps.map (·.2)).flatten
theorem flat_cons (p : Pc) (ps : List Pc) : flat (p :: ps) = p.2 ++ flat ps := rfl
theorem flat_append (a b : List Pc) : flat (a ++ b) = flat a ++ flat b := by simp [flat]
def rk (p : Pc) : Kind := match p.1 with
  | .set => .set
  | _ => if p.2.head? = some 91 then .opn else .run
def readOf (l : List Nat) : List Pc := (pcs l).map fun p => (rk p, p.2)

/-- what a reading may be -/
def Raw : List Pc → Prop
  | [] => True
  | (.run, a) :: ps => a ≠ [] ∧ (∀ c ∈ a, c ≠ 91) ∧ Raw ps
  | (.set, p) :: ps => (∃ u, p = 91 :: (u ++ [93]) ∧ 93 ∉ u ∧ 10 ∉ u) ∧ Raw ps
  | (.opn, p) :: ps => (∃ u, p = 91 :: u ∧ 93 ∉ u) ∧ ps = []
def NR : List Pc → Prop
  | (.run, _) :: _ => False
  | _ => True
def Good : List Pc → Prop
  | [] => True
  | (.run, a) :: ps => a ≠ [] ∧ (∀ c ∈ a, c ≠ 91) ∧ NR ps ∧ Good ps
  | (.set, p) :: ps => (∃ u, p = 91 :: (u ++ [93]) ∧ 93 ∉ u ∧ 10 ∉ u) ∧ Good ps
  | (.opn, p) :: ps => (∃ u, p = 91 :: u ∧ 93 ∉ u) ∧ ps = []

theorem pcs_skip {r : List Nat} (hk : closeAt r = none) (h93 : 93 ∈ r) : pcs (91 :: r) = pcs r := by
  cases hx : nxt r with
  | none =>
    rw [pcs_none hx, pcs_none]
    unfold nxt
    rw [if_neg (by simp), hk]
    dsimp only
    rw [if_pos h93, hx]; rfl
  | some t =>
    obtain ⟨s, k, j⟩ := t
    have : nxt (91 :: r) = some (s + 1, k, j) := by
      unfold nxt
      rw [if_neg (by simp), hk]
      dsimp only
      rw [if_pos h93, hx]; rfl
    rw [pcs_some hx, pcs_some this, List.drop_succ_cons, show s + 1 + j = s + j + 1 by omega, List.drop_succ_cons]

theorem raw_pcs : ∀ (n : Nat) (l : List Nat), l.length ≤ n → Raw (pcs l)
  | n, [], _ => by rw [pcs_nil]; trivial
  | 0, c :: r, hn => by simp at hn
  | n + 1, c :: r, hn => by
    simp only [List.length_cons] at hn
    by_cases hc : c = 91
    · subst hc
      cases hk : closeAt r with
      | some k =>
        obtain ⟨u, b, rfl, h1, h2⟩ := closeAt_split hk
        simp only [List.length_append, List.length_cons] at hn
        rw [pcs_set b h1 h2]
        exact ⟨⟨u, rfl, h1, h2⟩, raw_pcs n b (by omega)⟩
      | none =>
        by_cases h93 : 93 ∈ r
        · rw [pcs_skip hk h93]; exact raw_pcs n r (by omega)
        · rw [pcs_open h93]; exact ⟨⟨r, rfl, h93⟩, rfl⟩
    · obtain ⟨a, b, e, ha, hb⟩ := split_run r
      subst e
      simp only [List.length_append] at hn
      have ha' : ∀ x ∈ c :: a, x ≠ 91 := fun x hx => by
        rcases List.mem_cons.mp hx with rfl | hx
        · exact hc
        · exact ha x hx
      have := pcs_run (a := c :: a) (b := b) (by simp) ha' (by rcases hb with rfl | ⟨r, rfl⟩ <;> simp)
      rw [← List.cons_append, this]
      exact ⟨by simp, ha', raw_pcs n b (by omega)⟩

theorem rk_raw : ∀ ps : List Pc, Raw ps → (ps.map fun p => (rk p, p.2)) = ps
  | [], _ => rfl
  | (.run, a) :: ps, h => by
    have e : rk (.run, a) = .run := by
      cases a with
      | nil => exact absurd rfl h.1
      | cons c r =>
        show (if some c = some 91 then _ else _) = _
        rw [if_neg (by have := h.2.1 c (.head _); simpa using this)]
    rw [List.map_cons, e, rk_raw ps h.2.2]
  | (.set, p) :: ps, h => by
    rw [List.map_cons, rk_raw ps h.2]; rfl
  | (.opn, p) :: ps, h => by
    obtain ⟨⟨u, rfl, _⟩, rfl⟩ := h
    rfl
theorem readOf_pcs (l : List Nat) : readOf l = pcs l := rk_raw _ (raw_pcs _ l (Nat.le_refl _))

theorem good_head : ∀ ps : List Pc, Good ps → NR ps → (flat ps).head? = some 91 ∨ flat ps = []
  | [], _, _ => .inr rfl
  | (.run, a) :: ps, _, h => h.elim
  | (.set, p) :: ps, h, _ => by obtain ⟨⟨u, rfl, _⟩, _⟩ := h; exact .inl rfl
  | (.opn, p) :: ps, h, _ => by obtain ⟨⟨u, rfl, _⟩, _⟩ := h; exact .inl rfl
theorem good_pcs : ∀ ps : List Pc, Good ps → pcs (flat ps) = ps
  | [], _ => pcs_nil
  | (.run, a) :: ps, h => by
    rw [flat_cons, pcs_run h.1 h.2.1 (good_head ps h.2.2.2 h.2.2.1), good_pcs ps h.2.2.2]
  | (.set, p) :: ps, h => by
    obtain ⟨⟨u, rfl, h1, h2⟩, h3⟩ := h
    rw [flat_cons]
    show pcs (91 :: (u ++ [93]) ++ flat ps) = _
    rw [List.cons_append, List.append_assoc]
    show pcs (91 :: (u ++ 93 :: flat ps)) = _
    rw [pcs_set _ h1 h2, good_pcs ps h3]
  | (.opn, p) :: ps, h => by
    obtain ⟨⟨u, rfl, h1⟩, rfl⟩ := h
    show pcs (91 :: u ++ []) = _
    rw [List.append_nil, pcs_open h1]

theorem mrk_run_nil {a : List Nat} (h : a ≠ []) : mrk .run a ≠ [] := by
  cases a with
  | nil => exact absurd rfl h
  | cons c r => show c :: 114 :: _ ≠ []; simp
theorem NR_mkp : ∀ {ps : List Pc}, NR ps → NR (ps.map mkp)
  | [], _ => trivial
  | (.run, a) :: ps, h => h.elim
  | (.set, p) :: ps, _ => trivial
  | (.opn, p) :: ps, _ => trivial
theorem marks_not {x t : Nat} {u : List Nat} (h : x ∉ u) (ht : x ≠ t) : x ∉ u.flatMap fun c => [t, c] := by
  intro q
  obtain ⟨c, hc, hq⟩ := List.mem_flatMap.mp q
  simp only [List.mem_cons, List.not_mem_nil, or_false] at hq
  rcases hq with hq | hq
  · exact ht hq
  · exact h (hq ▸ hc)
theorem good_mkp : ∀ ps : List Pc, Good ps → Good (ps.map mkp)
  | [], _ => trivial
  | (.run, a) :: ps, h => by
    refine ⟨mrk_run_nil h.1, fun c hc => ?_, NR_mkp h.2.2.1, good_mkp ps h.2.2.2⟩
    obtain ⟨d, hd, hq⟩ := List.mem_flatMap.mp (show c ∈ a.flatMap fun c => [c, 114] from hc)
    simp only [List.mem_cons, List.not_mem_nil, or_false] at hq
    rcases hq with rfl | rfl
    · exact h.2.1 c hd
    · decide
  | (.set, p) :: ps, h => by
    obtain ⟨⟨u, rfl, h1, h2⟩, h3⟩ := h
    refine ⟨⟨u.flatMap fun c => [115, c], ?_, marks_not h1 (by decide), marks_not h2 (by decide)⟩, good_mkp ps h3⟩
    show 91 :: ((u ++ [93]).dropLast.flatMap _ ++ [93]) = _
    rw [List.dropLast_concat]
  | (.opn, p) :: ps, h => by
    obtain ⟨⟨u, rfl, h1⟩, rfl⟩ := h
    exact ⟨⟨u.flatMap fun c => [116, c], rfl, marks_not h1 (by decide)⟩, rfl⟩
theorem odds_marks (t : Nat) : ∀ u : List Nat, odds (u.flatMap fun c => [t, c]) = u
  | [] => rfl
  | c :: u => by
    show c :: odds (u.flatMap fun c => [t, c]) = _
    rw [odds_marks t u]
theorem evens_marks (t : Nat) : ∀ u : List Nat, evens (u.flatMap fun c => [c, t]) = u
  | [] => rfl
  | c :: u => by
    show c :: evens (u.flatMap fun c => [c, t]) = _
    rw [evens_marks t u]
theorem unmk_mk : ∀ ps : List Pc, Good ps → (ps.map mkp).map unmkp = ps
  | [], _ => rfl
  | (.run, a) :: ps, h => by
    rw [List.map_cons, List.map_cons, unmk_mk ps h.2.2.2]
    show (Kind.run, evens (a.flatMap fun c => [c, 114])) :: ps = _
    rw [evens_marks]
  | (.set, p) :: ps, h => by
    obtain ⟨⟨u, rfl, h1, h2⟩, h3⟩ := h
    rw [List.map_cons, List.map_cons, unmk_mk ps h3]
    show (Kind.set, 91 :: (odds ((((u ++ [93]).dropLast.flatMap fun c => [115, c]) ++ [93]).dropLast) ++ [93])) :: ps = _
    rw [List.dropLast_concat, List.dropLast_concat, odds_marks]
  | (.opn, p) :: ps, h => by
    obtain ⟨⟨u, rfl, h1⟩, rfl⟩ := h
    show [(Kind.opn, 91 :: odds (u.flatMap fun c => [116, c]))] = _
    rw [odds_marks]

/-! runs side by side as one -/
def emit (p : List Nat) : List Pc := if p.isEmpty = true then [] else [(.run, p)]
def mg : List Nat → List Pc → List Pc
  | pend, [] => emit pend
  | pend, (.run, a) :: ps => mg (pend ++ a) ps
  | pend, (.set, p) :: ps => emit pend ++ (.set, p) :: mg [] ps
  | pend, (.opn, p) :: ps => emit pend ++ (.opn, p) :: mg [] ps
theorem mrk_append (a b : List Nat) : mrk .run (a ++ b) = mrk .run a ++ mrk .run b := by simp [mrk]
theorem flat_emit (p : List Nat) : flat (emit p) = p := by
  cases p with
  | nil => rfl
  | cons c r => show (c :: r) ++ [] = _; simp
theorem emit_mkp (p : List Nat) : (emit p).map mkp = emit (mrk .run p) := by
  cases p with
  | nil => rfl
  | cons c r => rfl
theorem flat_mg : ∀ (ps : List Pc) (pend : List Nat), flat ((mg pend ps).map mkp) = mrk .run pend ++ flat (ps.map mkp)
  | [], pend => by
    show flat ((emit pend).map mkp) = _
    rw [emit_mkp, flat_emit]; simp [flat]
  | (.run, a) :: ps, pend => by
    show flat ((mg (pend ++ a) ps).map mkp) = _
    rw [flat_mg ps, mrk_append, List.append_assoc]; rfl
  | (.set, p) :: ps, pend => by
    show flat ((emit pend ++ (.set, p) :: mg [] ps).map mkp) = _
    rw [List.map_append, List.map_cons, flat_append, flat_cons, flat_mg ps, emit_mkp, flat_emit]; rfl
  | (.opn, p) :: ps, pend => by
    show flat ((emit pend ++ (.opn, p) :: mg [] ps).map mkp) = _
    rw [List.map_append, List.map_cons, flat_append, flat_cons, flat_mg ps, emit_mkp, flat_emit]; rfl
theorem flat_mg' : ∀ (ps : List Pc) (pend : List Nat), flat (mg pend ps) = pend ++ flat ps
  | [], pend => by
    show flat (emit pend) = _
    rw [flat_emit]; simp [flat]
  | (.run, a) :: ps, pend => by
    show flat (mg (pend ++ a) ps) = _
    rw [flat_mg' ps, List.append_assoc]; rfl
  | (.set, p) :: ps, pend => by
    show flat (emit pend ++ (.set, p) :: mg [] ps) = _
    rw [flat_append, flat_cons, flat_mg' ps, flat_emit]; rfl
  | (.opn, p) :: ps, pend => by
    show flat (emit pend ++ (.opn, p) :: mg [] ps) = _
    rw [flat_append, flat_cons, flat_mg' ps, flat_emit]; rfl
theorem good_emit {pend : List Nat} {ps : List Pc} (hp : ∀ c ∈ pend, c ≠ 91) (h : Good ps) (hn : NR ps) : Good (emit pend ++ ps) := by
  cases pend with
  | nil => exact h
  | cons c r => exact ⟨by simp, hp, hn, h⟩
theorem good_mg : ∀ (ps : List Pc) (pend : List Nat), Raw ps → (∀ c ∈ pend, c ≠ 91) → Good (mg pend ps)
  | [], pend, _, hp => by
    show Good (emit pend)
    have := good_emit hp (ps := []) trivial trivial
    rwa [List.append_nil] at this
  | (.run, a) :: ps, pend, h, hp => good_mg ps (pend ++ a) h.2.2 fun c hc => by
    rcases List.mem_append.mp hc with hc | hc
    · exact hp c hc
    · exact h.2.1 c hc
  | (.set, p) :: ps, pend, h, hp => good_emit hp (ps := (.set, p) :: mg [] ps) ⟨h.1, good_mg ps [] h.2 fun c hc => (nomatch hc)⟩ trivial
  | (.opn, p) :: ps, pend, h, hp => by
    obtain ⟨h1, rfl⟩ := h
    exact good_emit hp (ps := [(.opn, p)]) ⟨h1, rfl⟩ trivial

theorem mg_run {a b : List Nat} (pend : List Nat) (ha : ∀ c ∈ a, c ≠ 91) (hb : b = [] ∨ ∃ r, b = 91 :: r) : mg pend (pcs (a ++ b)) = mg (pend ++ a) (pcs b) := by
  cases a with
  | nil => simp
  | cons c r =>
    rw [pcs_run (by simp) ha (by rcases hb with rfl | ⟨r, rfl⟩ <;> simp)]
    rfl
theorem mg_sign {c : Nat} (pend x : List Nat) (hc : c ≠ 91) : mg pend (pcs (c :: x)) = mg (pend ++ [c]) (pcs x) := by
  obtain ⟨a, b, rfl, ha, hb⟩ := split_run x
  have ha' : ∀ x ∈ c :: a, x ≠ 91 := fun x hx => by
    rcases List.mem_cons.mp hx with rfl | hx
    · exact hc
    · exact ha x hx
  rw [mg_run _ ha hb, ← List.cons_append, mg_run _ ha' hb, List.append_assoc]; rfl
theorem mg_signs : ∀ (a pend x : List Nat), (∀ c ∈ a, c ≠ 91) → mg pend (pcs (a ++ x)) = mg (pend ++ a) (pcs x)
  | [], pend, x, _ => by simp
  | c :: a, pend, x, h => by
    rw [List.cons_append, mg_sign _ _ (h c (.head _)), mg_signs a _ x fun d hd => h d (.tail _ hd), List.append_assoc]; rfl
theorem closeAt_line : ∀ (e x : List Nat), 93 ∉ e → closeAt (e ++ 10 :: x) = none
  | [], x, _ => rfl
  | c :: e, x, h => by
    simp only [List.mem_cons, not_or] at h
    rw [List.cons_append]
    unfold closeAt
    rw [if_neg (Ne.symm h.1), closeAt_line e x h.2]
    split <;> rfl
theorem mg_lines : ∀ (e pend x : List Nat), 93 ∉ e → 93 ∈ x → mg pend (pcs (e ++ 10 :: x)) = mg (pend ++ (e ++ [10]).filter (· != 91)) (pcs x)
  | [], pend, x, _, _ => mg_sign pend x (by decide)
  | c :: e, pend, x, h, hx => by
    simp only [List.mem_cons, not_or] at h
    rw [List.cons_append, List.cons_append]
    by_cases hc : c = 91
    · subst hc
      rw [pcs_skip (closeAt_line e x h.2) (List.mem_append_right _ (.tail _ hx)), mg_lines e pend x h.2 hx]
      rfl
    · rw [mg_sign _ _ hc, mg_lines e _ x h.2 hx, List.filter_cons_of_pos (by simpa using hc), List.append_assoc]
      rfl

/-! _law_by_parts -/
structure BS where
  row : List Pc
  run : List Nat
def bend (cl : Bool) (part : List Nat) : List Nat × List Nat × List Nat := if cl = true then rpt 10 part else ([], [], part)
def bopen (cl : Bool) (part : List Nat) : List Nat × List Nat × List Nat := pt 91 (bend cl part).2.2
def brun (s : BS) (cl : Bool) (part : List Nat) : List Nat := s.run ++ mrk .run (((bend cl part).1 ++ (bend cl part).2.1).filter (· != 91) ++ (bopen cl part).1)
def bkind (cl : Bool) : Kind := if cl = true then .set else .opn
def bstep1 (s : BS) (cl : Bool) (part : List Nat) : BS :=
  if (bopen cl part).2.1.isEmpty = true then ⟨s.row, if cl = true then brun s cl part ++ [93, 114] else brun s cl part⟩
  else ⟨s.row ++ emit (brun s cl part) ++ [(bkind cl, mrk (bkind cl) ((bopen cl part).2.1 ++ (bopen cl part).2.2 ++ (if cl = true then [93] else [])))], []⟩
def bstep (n : Nat) (s : BS) (q : List Nat × Nat) : BS := bstep1 s (decide (q.2 + 1 < n)) q.1
def byParts (l : List Nat) : List Pc :=
  let s := (spl 93 l).zipIdx.foldl (bstep (spl 93 l).length) ⟨[], []⟩
  s.row ++ emit s.run

theorem bstep_last (row : List Pc) (pend part : List Nat) (h : 93 ∉ part) : (bstep1 ⟨row, mrk .run pend⟩ false part).row ++ emit (bstep1 ⟨row, mrk .run pend⟩ false part).run = row ++ (mg pend (pcs part)).map mkp := by
  obtain ⟨a, b, rfl, ha, hb⟩ := split_run part
  have ha91 : 91 ∉ a := fun q => ha _ q rfl
  rw [mg_run _ ha hb]
  rcases hb with rfl | ⟨r, rfl⟩
  · have e1 : bopen false (a ++ []) = (a, [], []) := by
      show pt 91 (a ++ []) = _
      rw [List.append_nil, pt_none ha91]
    have e2 : brun ⟨row, mrk .run pend⟩ false (a ++ []) = mrk .run (pend ++ a) := by
      unfold brun
      rw [e1, mrk_append pend a]; rfl
    unfold bstep1
    rw [e2, e1, pcs_nil]
    show row ++ emit (mrk .run (pend ++ a)) = row ++ (emit (pend ++ a)).map mkp
    rw [emit_mkp]
  · have hr : 93 ∉ r := fun q => h (List.mem_append_right _ (.tail _ q))
    have e1 : bopen false (a ++ 91 :: r) = (a, [91], r) := pt_some r ha91
    have e2 : brun ⟨row, mrk .run pend⟩ false (a ++ 91 :: r) = mrk .run (pend ++ a) := by
      unfold brun
      rw [e1, mrk_append pend a]; rfl
    unfold bstep1
    rw [e2, e1, pcs_open hr]
    show (row ++ emit (mrk .run (pend ++ a)) ++ [(Kind.opn, mrk .opn ([91] ++ r ++ []))]) ++ [] = row ++ (emit (pend ++ a) ++ [(Kind.opn, 91 :: r)]).map mkp
    rw [List.append_nil, List.append_nil, List.map_append, emit_mkp, List.append_assoc]; rfl

/-- a part that a ] ends -/
theorem bstep_mid (row : List Pc) (pend part x : List Nat) (h : 93 ∉ part) : ∃ row' pend', bstep1 ⟨row, mrk .run pend⟩ true part = ⟨row', mrk .run pend'⟩ ∧ row' ++ (mg pend' (pcs x)).map mkp = row ++ (mg pend (pcs (part ++ 93 :: x))).map mkp := by
  -- the part: lines, and the last line
  obtain ⟨e, mkl, line, he, hp, h10, hfil⟩ : ∃ e mkl line, bend true part = (e, mkl, line) ∧ 93 ∉ line ∧ 10 ∉ line ∧ ∀ y, 93 ∈ y → mg pend (pcs (part ++ y)) = mg (pend ++ (e ++ mkl).filter (· != 91)) (pcs (line ++ y)) := by
    by_cases hm : 10 ∈ part
    · obtain ⟨a, b, rfl, hb⟩ : ∃ a b, part = a ++ 10 :: b ∧ 10 ∉ b := by
        clear h
        induction part with
        | nil => cases hm
        | cons c part ih =>
          by_cases hm' : 10 ∈ part
          · obtain ⟨a, b, rfl, hb⟩ := ih hm'
            exact ⟨c :: a, b, rfl, hb⟩
          · rcases List.mem_cons.mp hm with rfl | q
            · exact ⟨[], part, rfl, hm'⟩
            · exact absurd q hm'
      have ha : 93 ∉ a := fun q => h (List.mem_append_left _ q)
      have hb' : 93 ∉ b := fun q => h (List.mem_append_right _ (.tail _ q))
      refine ⟨a, [10], b, rpt_some a hb, hb', hb, fun y hy => ?_⟩
      rw [List.append_assoc, List.cons_append, mg_lines a pend (b ++ y) ha (List.mem_append_right _ hy)]
    · refine ⟨[], [], part, rpt_none hm, h, hm, fun y hy => ?_⟩
      simp
  rw [hfil _ (.head _)]
  obtain ⟨a, b, rfl, ha, hb⟩ := split_run line
  have ha91 : 91 ∉ a := fun q => ha _ q rfl
  rcases hb with rfl | ⟨r, rfl⟩
  · have e1 : bopen true part = (a, [], []) := by
      unfold bopen
      rw [he]
      show pt 91 (a ++ []) = _
      rw [List.append_nil, pt_none ha91]
    have e2 : brun ⟨row, mrk .run pend⟩ true part = mrk .run (pend ++ (e ++ mkl).filter (· != 91) ++ a) := by
      unfold brun
      rw [e1, he, List.append_assoc, mrk_append pend]
    refine ⟨row, pend ++ (e ++ mkl).filter (· != 91) ++ a ++ [93], ?_, ?_⟩
    · unfold bstep1
      rw [e2, e1, mrk_append (pend ++ (e ++ mkl).filter (· != 91) ++ a)]
      rfl
    · rw [List.append_nil, mg_signs a _ _ ha, mg_sign _ _ (by decide)]
  · have hr : 93 ∉ r := fun q => hp (List.mem_append_right _ (.tail _ q))
    have hr' : 10 ∉ r := fun q => h10 (List.mem_append_right _ (.tail _ q))
    have e1 : bopen true part = (a, [91], r) := by
      unfold bopen
      rw [he]
      exact pt_some r ha91
    have e2 : brun ⟨row, mrk .run pend⟩ true part = mrk .run (pend ++ (e ++ mkl).filter (· != 91) ++ a) := by
      unfold brun
      rw [e1, he, List.append_assoc, mrk_append pend]
    refine ⟨_, [], (show bstep1 ⟨row, mrk .run pend⟩ true part = ⟨row ++ emit (mrk .run (pend ++ (e ++ mkl).filter (· != 91) ++ a)) ++ [(.set, mrk .set (91 :: (r ++ [93])))], []⟩ from ?_), ?_⟩
    · unfold bstep1
      rw [e2, e1]
      rfl
    · rw [List.append_assoc a, List.cons_append, mg_signs a _ _ ha, pcs_set x hr hr']
      show _ = row ++ (emit _ ++ (Kind.set, 91 :: (r ++ [93])) :: mg [] (pcs x)).map mkp
      rw [List.map_append, emit_mkp, List.append_assoc, List.append_assoc]; rfl

theorem bfold : ∀ (m : Nat) (l : List Nat) (k n : Nat) (row : List Pc) (pend : List Nat), l.length ≤ m → k + (spl 93 l).length = n →
    (((spl 93 l).zipIdx k).foldl (bstep n) ⟨row, mrk .run pend⟩).row ++ emit (((spl 93 l).zipIdx k).foldl (bstep n) ⟨row, mrk .run pend⟩).run = row ++ (mg pend (pcs l)).map mkp
  | m, l, k, n, row, pend, hm, hn => by
    by_cases h : 93 ∈ l
    · obtain ⟨a, b, rfl, ha⟩ : ∃ a b, l = a ++ 93 :: b ∧ 93 ∉ a := by
        clear hm hn
        induction l with
        | nil => cases h
        | cons c l ih =>
          by_cases hc : c = 93
          · subst hc; exact ⟨[], l, rfl, by simp⟩
          · obtain ⟨a, b, rfl, ha⟩ := ih (by
              rcases List.mem_cons.mp h with q | q
              · exact absurd q.symm hc
              · exact q)
            exact ⟨c :: a, b, rfl, by simp only [List.mem_cons, not_or]; exact ⟨Ne.symm hc, ha⟩⟩
      cases m with
      | zero => simp at hm
      | succ m =>
        rw [spl_cut b ha] at hn ⊢
        have hne := List.length_pos_iff.mpr (spl_ne 93 b)
        rw [List.zipIdx_cons, List.foldl_cons]
        rw [List.length_cons] at hn
        have e : bstep n ⟨row, mrk .run pend⟩ (a, k) = bstep1 ⟨row, mrk .run pend⟩ true a := by
          unfold bstep
          rw [decide_eq_true (by show k + 1 < n; omega)]
        obtain ⟨row', pend', e1, e2⟩ := bstep_mid row pend a b ha
        rw [e, e1, bfold m b (k + 1) n row' pend' (by simp at hm; omega) (by omega), e2]
    · rw [spl_free h] at hn ⊢
      have e : bstep n ⟨row, mrk .run pend⟩ (l, k) = bstep1 ⟨row, mrk .run pend⟩ false l := by
        unfold bstep
        rw [decide_eq_false (by show ¬ k + 1 < n; simp at hn; omega)]
      show (bstep n ⟨row, mrk .run pend⟩ (l, k)).row ++ emit (bstep n ⟨row, mrk .run pend⟩ (l, k)).run = _
      rw [e]
      exact bstep_last row pend l h
theorem byParts_eq (l : List Nat) : byParts l = (mg [] (pcs l)).map mkp :=
  bfold _ l 0 _ [] [] (Nat.le_refl _) (Nat.zero_add _)

structure Law05 (l : List Nat) : Prop where
  made : flat ((readOf l).map mkp) = flat (byParts l)
  read : readOf (flat (byParts l)) = byParts l
  bare : readOf (flat ((byParts l).map unmkp)) = (byParts l).map unmkp
theorem law05 (l : List Nat) : Law05 l := by
  have g := good_mg (pcs l) [] (raw_pcs _ l (Nat.le_refl _)) fun c hc => (nomatch hc)
  refine ⟨?_, ?_, ?_⟩
  · rw [readOf_pcs, byParts_eq, flat_mg]; rfl
  · rw [readOf_pcs, byParts_eq, good_pcs _ (good_mkp _ g)]
  · rw [readOf_pcs, byParts_eq, unmk_mk _ g, good_pcs _ g]
end Mine

end

section
open PySem PySem.W PyProof.Rows
set_option Elab.async false
set_option maxRecDepth 100000
set_option linter.unusedVariables false
namespace Mine
open Builtin.Str

/-! of 05: what the walks need -/
theorem sliceRange_two {a b : Nat} : sliceRange a b 2 = (List.range ((b + 1 - a) / 2)).map (fun k => a + 2 * k) := by
  unfold sliceRange
  simp only [show ((2 : Int) > 0) = True from by simp, if_true]
  by_cases hlt : (a : Int) < b
  · have e3 : (((b : Int) - a + 2 - 1) / 2).toNat = (b + 1 - a) / 2 := by omega
    simp only [hlt, if_true, e3]
    exact List.map_congr_left fun k _ => by omega
  · have : (b + 1 - a) / 2 = 0 := by omega
    simp [hlt, this]
theorem filterMap_nil_get (ks : List Nat) : ks.filterMap (([] : List Nat)[·]?) = [] := by
  induction ks with
  | nil => rfl
  | cons k ks ih => rw [List.filterMap_cons]; exact ih
theorem pick_even : ∀ l : List Nat, ((List.range ((l.length + 1) / 2)).map (fun k => 0 + 2 * k)).filterMap (l[·]?) = evens l
  | [] => rfl
  | [a] => by rw [show ([a].length + 1) / 2 = 1 by simp]; rfl
  | a :: b :: l => by
    have ih := pick_even l
    have e : ((a :: b :: l).length + 1) / 2 = (l.length + 1) / 2 + 1 := by simp only [List.length_cons]; omega
    rw [e, List.range_succ_eq_map, List.map_cons, List.filterMap_cons]
    show a :: _ = a :: evens l
    congr 1
    rw [← ih, List.map_map, List.filterMap_map, List.filterMap_map]
    congr 1
theorem pick_odd : ∀ l : List Nat, ((List.range (l.length / 2)).map (fun k => 1 + 2 * k)).filterMap (l[·]?) = odds l
  | [] => rfl
  | [a] => by rw [show [a].length / 2 = 0 by simp]; rfl
  | a :: b :: l => by
    have ih := pick_odd l
    have e : (a :: b :: l).length / 2 = l.length / 2 + 1 := by simp only [List.length_cons]; omega
    rw [e, List.range_succ_eq_map, List.map_cons, List.filterMap_cons]
    show b :: _ = b :: odds l
    congr 1
    rw [← ih, List.map_map, List.filterMap_map, List.filterMap_map]
    congr 1
theorem sl_even (l : List Nat) : sl l none none 2 = evens l := by
  unfold sl
  rw [← pick_even l]
  congr 1
  exact sliceRange_two (a := 0) (b := l.length)
theorem sl_odd (l : List Nat) : sl l (some 1) none 2 = odds l := by
  cases l with
  | nil => exact filterMap_nil_get _
  | cons a l =>
    unfold sl
    rw [← pick_odd (a :: l)]
    congr 1
    have e : strSliceIndices (some 1) none 2 (a :: l).length = sliceRange (1 : Nat) ((a :: l).length : Nat) 2 := by
      unfold strSliceIndices
      simp only [show ((2 : Int) > 0) = True from by simp, if_true, show ¬ ((1 : Int) < 0) by decide, if_false]
      congr 1
      simp only [List.length_cons]; omega
    rw [e, sliceRange_two]
    congr 2
theorem odds_len : ∀ l : List Nat, (odds l).length ≤ l.length
  | [] => Nat.le_refl _
  | [a] => Nat.zero_le _
  | a :: b :: l => by
    have := odds_len l
    show (b :: odds l).length ≤ _
    simp only [List.length_cons]; omega
theorem evens_len : ∀ l : List Nat, (evens l).length ≤ l.length
  | [] => Nat.le_refl _
  | [a] => Nat.le_refl _
  | a :: b :: l => by
    have := evens_len l
    show (a :: evens l).length ≤ _
    simp only [List.length_cons]; omega

def kn : Kind → List Nat
  | .set => [115, 101, 116]
  | .opn => [111, 112, 101, 110]
  | .run => [114, 117, 110]
def encP (l : List Pc) : List PyData := l.map fun p => .tuple [.str (S (kn p.1)), .str (S p.2)]
theorem encP_append (a b : List Pc) : encP (a ++ b) = encP a ++ encP b := by simp [encP]
theorem encP_len (a : List Pc) : (encP a).length = a.length := by simp [encP]
theorem kn_ok (k : Kind) : Okl (kn k) := by unfold Okl; cases k <;> decide
theorem shaped_pc {ps : List Pc} (h : ∀ p ∈ ps, Okl p.2) : SeqAt.shaped (.list (encP ps)) = true := by
  have h1 : PyData.canLayAll0 (encP ps) = true := by
    induction ps with
    | nil => rfl
    | cons p ps ih =>
      have := ih fun q hq => h q (.tail _ hq)
      show PyData.canLayAll0 (_ :: encP ps) = true
      simp [PyData.canLay0, PyData.canLayAll0, (h p (.head _)).str, (kn_ok p.1).str, this]
  have h2 : PyData.depthAll (encP ps) ≤ 1 := by
    clear h h1
    induction ps with
    | nil => exact Nat.zero_le _
    | cons p ps ih =>
      show PyData.depthAll (_ :: encP ps) ≤ 1
      simp [PyData.depth, PyData.depthAll]
      omega
  unfold SeqAt.shaped
  rw [PyData.canLay0, h1, PyData.depth]
  simp; omega
theorem eqv_pc (ps : List Pc) : PyData.eqv (.list (encP ps)) (.list (encP ps)) = true := by
  rw [PyData.eqv]
  induction ps with
  | nil => rfl
  | cons p ps ih =>
    show PyData.eqvAll (_ :: encP ps) (_ :: encP ps) = true
    simp [PyData.eqv, PyData.eqvAll, ih]
theorem shaped_str {l : List Nat} (h : Okl l) : SeqAt.shaped (.str (S l)) = true := by
  unfold SeqAt.shaped
  simp [PyData.canLay0, h.str, PyData.depth]
theorem eqv_str (l : List Nat) : PyData.eqv (.str (S l)) (.str (S l)) = true := by simp [PyData.eqv]

/-! _law_read -/
def rdp (p : Pc) : Pc := (rk p, p.2)
def readAt (l : List Nat) (k : Nat) : List Pc := ((finds l 0).take k).map fun v => rdp (piece l v)
theorem readAt_succ {l : List Nat} {k : Nat} {v : V} (h : (finds l 0)[k]? = some v) : readAt l (k + 1) = readAt l k ++ [rdp (piece l v)] := by
  unfold readAt
  rw [take_succ_snoc h, List.map_append]; rfl
theorem readAt_all (l : List Nat) : readAt l (finds l 0).length = readOf l := by
  unfold readAt readOf pcs
  rw [List.take_length, List.map_map]; rfl

/-! lengths -/
theorem flatMap_two (f : Nat → List Nat) (hf : ∀ c, (f c).length = 2) : ∀ l : List Nat, (l.flatMap f).length = 2 * l.length
  | [] => rfl
  | c :: l => by
    rw [List.flatMap_cons, List.length_append, hf, flatMap_two f hf l, List.length_cons]; omega
theorem mrk_len (k : Kind) (p : List Nat) : (mrk k p).length ≤ 2 * p.length + 2 := by
  cases k with
  | run =>
    show (p.flatMap _).length ≤ _
    rw [flatMap_two _ fun _ => rfl]; omega
  | set =>
    show (91 :: (p.tail.dropLast.flatMap _ ++ [93])).length ≤ _
    rw [List.length_cons, List.length_append, flatMap_two _ fun _ => rfl]
    simp; omega
  | opn =>
    show (91 :: p.tail.flatMap _).length ≤ _
    rw [List.length_cons, flatMap_two _ fun _ => rfl]
    simp; omega
theorem flat_tot (ps : List Pc) : (flat ps).length = tot ps := by
  unfold flat tot
  rw [List.length_flatten, List.map_map]; rfl
theorem flat_mem {ps : List Pc} {c : Nat} : c ∈ flat ps ↔ ∃ p ∈ ps, c ∈ p.2 := by
  unfold flat
  simp only [List.mem_flatten, List.mem_map]
  constructor
  · rintro ⟨l, ⟨p, hp, rfl⟩, hc⟩; exact ⟨p, hp, hc⟩
  · rintro ⟨p, hp, hc⟩; exact ⟨_, ⟨p, hp, rfl⟩, hc⟩
theorem tot_mkp : ∀ ps : List Pc, (∀ p ∈ ps, p.2 ≠ []) → tot (ps.map mkp) ≤ 4 * tot ps
  | [], _ => Nat.le_refl _
  | p :: ps, h => by
    have ih := tot_mkp ps fun q hq => h q (.tail _ hq)
    have h1 := mrk_len p.1 p.2
    have h2 := List.length_pos_iff.mpr (h p (.head _))
    unfold tot at ih ⊢
    simp only [List.map_cons, List.sum_cons]
    show (mrk p.1 p.2).length + _ ≤ _
    omega
theorem mrk_mem {k : Kind} {p : List Nat} {c : Nat} (h : c ∈ mrk k p) : c ∈ p ∨ c ∈ [91, 93, 114, 115, 116] := by
  have two : ∀ (q : List Nat) (t : Nat), t ∈ [91, 93, 114, 115, 116] → c ∈ (q.flatMap fun c => [t, c]) → c ∈ q ∨ c ∈ [91, 93, 114, 115, 116] := fun q t ht h => by
    obtain ⟨d, hd, hq⟩ := List.mem_flatMap.mp h
    simp only [List.mem_cons, List.not_mem_nil, or_false] at hq
    rcases hq with rfl | rfl
    · exact .inr ht
    · exact .inl hd
  cases k with
  | run =>
    obtain ⟨d, hd, hq⟩ := List.mem_flatMap.mp (show c ∈ p.flatMap fun c => [c, 114] from h)
    simp only [List.mem_cons, List.not_mem_nil, or_false] at hq
    rcases hq with rfl | rfl
    · exact .inl hd
    · exact .inr (by decide)
  | set =>
    rcases List.mem_cons.mp (show c ∈ 91 :: (p.tail.dropLast.flatMap _ ++ [93]) from h) with rfl | h
    · exact .inr (by decide)
    · rcases List.mem_append.mp h with h | h
      · rcases two _ 115 (by decide) h with q | q
        · exact .inl (List.mem_of_mem_tail (List.dropLast_subset _ q))
        · exact .inr q
      · rw [List.mem_singleton] at h; subst h; exact .inr (by decide)
  | opn =>
    rcases List.mem_cons.mp (show c ∈ 91 :: p.tail.flatMap _ from h) with rfl | h
    · exact .inr (by decide)
    · rcases two _ 116 (by decide) h with q | q
      · exact .inl (List.mem_of_mem_tail q)
      · exact .inr q
theorem okl_consts : ∀ c ∈ [91, 93, 114, 115, 116], c < 0x110000 := by decide

/-- what is known of a reading of marks -/
structure Bounds (l : List Nat) : Prop where
  made : (flat (byParts l)).length ≤ 4 * l.length
  bare : (flat ((byParts l).map unmkp)).length ≤ l.length
  ok : Okl l → Okl (flat (byParts l))
  okb : Okl l → Okl (flat ((byParts l).map unmkp))
theorem bounds (l : List Nat) : Bounds l := by
  have g := good_mg (pcs l) [] (raw_pcs _ l (Nat.le_refl _)) fun c hc => (nomatch hc)
  have hb : (byParts l).map unmkp = mg [] (pcs l) := by rw [byParts_eq, unmk_mk _ g]
  have hf : flat (mg [] (pcs l)) = flat (pcs l) := by rw [flat_mg']; rfl
  have hm : flat (byParts l) = flat ((pcs l).map mkp) := by rw [byParts_eq, flat_mg]; rfl
  have ht := pcs_tot _ l (Nat.le_refl _)
  refine ⟨?_, ?_, fun ho c hc => ?_, fun ho c hc => ?_⟩
  · rw [hm, flat_tot]
    exact Nat.le_trans (tot_mkp _ (pcs_ne l)) (Nat.mul_le_mul_left 4 ht.1)
  · rw [hb, hf, flat_tot]; exact ht.1
  · rw [hm] at hc
    obtain ⟨p, hp, hc⟩ := flat_mem.mp hc
    obtain ⟨q, hq, rfl⟩ := List.mem_map.mp hp
    rcases mrk_mem (show c ∈ mrk q.1 q.2 from hc) with hc | hc
    · exact ho c (ht.2 q hq c hc)
    · exact okl_consts c hc
  · rw [hb, hf] at hc
    obtain ⟨p, hp, hc⟩ := flat_mem.mp hc
    exact ho c (ht.2 p hp c hc)
theorem okl_pieces {ps : List Pc} (h : Okl (flat ps)) : ∀ p ∈ ps, Okl p.2 := fun p hp c hc => h c (flat_mem.mpr ⟨p, hp, hc⟩)
theorem len_pieces {ps : List Pc} {n : Nat} (h : (flat ps).length ≤ n) : ∀ p ∈ ps, p.2.length ≤ n := by
  induction ps with
  | nil => intro p hp; cases hp
  | cons q ps ih =>
    rw [flat_cons, List.length_append] at h
    intro p hp
    rcases List.mem_cons.mp hp with rfl | hp
    · omega
    · exact ih (by omega) p hp
end Mine

end

section
open PySem PySem.W PyProof.Rows
set_option Elab.async false
set_option maxRecDepth 100000
set_option linter.unusedVariables false
namespace Mine

/-! of 05: what the walk of _law_by_parts needs -/
theorem spl_len (c : Nat) : ∀ l : List Nat, (spl c l).length ≤ l.length + 1 ∧ ∀ p ∈ spl c l, p.length ≤ l.length
  | [] => ⟨Nat.le_refl _, fun p hp => by rw [show spl c [] = [[]] from rfl, List.mem_singleton] at hp; subst hp; exact Nat.le_refl _⟩
  | x :: l => by
    obtain ⟨h1, h2⟩ := spl_len c l
    unfold spl
    split
    · refine ⟨by simp only [List.length_cons]; omega, fun p hp => ?_⟩
      rcases List.mem_cons.mp hp with rfl | hp
      · exact Nat.zero_le _
      · have := h2 p hp; simp only [List.length_cons]; omega
    · cases hs : spl c l with
      | nil => exact absurd hs (spl_ne c l)
      | cons h t =>
        rw [hs] at h1 h2
        refine ⟨by simp only [List.length_cons] at h1 ⊢; omega, fun p hp => ?_⟩
        rcases List.mem_cons.mp hp with rfl | hp
        · have := h2 h (.head _); simp only [List.length_cons]; omega
        · have := h2 p (.tail _ hp); simp only [List.length_cons]; omega
theorem pt_len (c : Nat) (l : List Nat) : (pt c l).1.length ≤ l.length ∧ (pt c l).2.1.length ≤ 1 ∧ (pt c l).2.2.length ≤ l.length := by
  unfold pt
  refine ⟨(List.takeWhile_prefix _).length_le, ?_, ?_⟩
  · show (if c ∈ l then [c] else []).length ≤ 1
    split <;> simp
  · have := (List.dropWhile_suffix (fun x => x != c) (l := l)).length_le
    show (List.tail _).length ≤ _
    rw [List.length_tail]; omega
theorem rpt_len (c : Nat) (l : List Nat) : (rpt c l).1.length ≤ l.length ∧ (rpt c l).2.1.length ≤ 1 ∧ (rpt c l).2.2.length ≤ l.length := by
  unfold rpt
  split
  · refine ⟨?_, Nat.le_refl _, ?_⟩
    · have := (List.dropWhile_suffix (fun x => x != c) (l := l.reverse)).length_le
      show (List.tail _).reverse.length ≤ _
      rw [List.length_reverse, List.length_tail]
      rw [List.length_reverse] at this
      omega
    · have := (List.takeWhile_prefix (fun x => x != c) (l := l.reverse)).length_le
      show (List.takeWhile _ _).reverse.length ≤ _
      rw [List.length_reverse]
      rw [List.length_reverse] at this
      exact this
  · exact ⟨Nat.zero_le _, Nat.zero_le _, Nat.le_refl _⟩
theorem bend_len (cl : Bool) (l : List Nat) : (bend cl l).1.length ≤ l.length ∧ (bend cl l).2.1.length ≤ 1 ∧ (bend cl l).2.2.length ≤ l.length := by
  unfold bend
  split
  · exact rpt_len 10 l
  · exact ⟨Nat.zero_le _, Nat.zero_le _, Nat.le_refl _⟩
theorem bopen_len (cl : Bool) (l : List Nat) : (bopen cl l).1.length ≤ l.length ∧ (bopen cl l).2.1.length ≤ 1 ∧ (bopen cl l).2.2.length ≤ l.length := by
  have h := bend_len cl l
  have := pt_len 91 (bend cl l).2.2
  unfold bopen
  omega

def bat (ps : List (List Nat)) (k : Nat) : BS := (ps.zipIdx.take k).foldl (bstep ps.length) ⟨[], []⟩
theorem bat_succ {ps : List (List Nat)} {k : Nat} {p : List Nat} (h : ps[k]? = some p) : bat ps (k + 1) = bstep1 (bat ps k) (decide (k + 1 < ps.length)) p := by
  have h' : ps.zipIdx[k]? = some (p, k) := by rw [List.getElem?_zipIdx, h]; simp
  unfold bat
  rw [take_succ_snoc h', List.foldl_append]; rfl
theorem bat_all (l : List Nat) : (bat (spl 93 l) (spl 93 l).length).row ++ emit (bat (spl 93 l) (spl 93 l).length).run = byParts l := by
  unfold bat byParts
  rw [List.take_of_length_le (by rw [List.length_zipIdx]; exact Nat.le_refl _)]
def runAdd (cl : Bool) (p : List Nat) : List Nat := ((bend cl p).1 ++ (bend cl p).2.1).filter (· != 91) ++ (bopen cl p).1
theorem runAdd_len (cl : Bool) (p : List Nat) : (runAdd cl p).length ≤ 2 * p.length + 1 := by
  have h1 := bend_len cl p
  have h2 := bopen_len cl p
  have h3 := List.length_filter_le (fun x => x != 91) ((bend cl p).1 ++ (bend cl p).2.1)
  rw [List.length_append] at h3
  unfold runAdd
  rw [List.length_append]
  omega
theorem brun_eq (s : BS) (cl : Bool) (p : List Nat) : brun s cl p = s.run ++ mrk .run (runAdd cl p) := rfl
theorem brun_len (s : BS) (cl : Bool) (p : List Nat) : (brun s cl p).length ≤ s.run.length + 4 * p.length + 4 := by
  have h1 := runAdd_len cl p
  have h2 := mrk_len .run (runAdd cl p)
  rw [brun_eq, List.length_append]
  omega
theorem emit_len (p : List Nat) : (emit p).length ≤ 1 := by
  unfold emit
  split <;> simp
theorem bat_len {ps : List (List Nat)} {L : Nat} (hL : ∀ p ∈ ps, p.length ≤ L) : ∀ k, (bat ps k).row.length ≤ 2 * k ∧ (bat ps k).run.length ≤ k * (4 * L + 6)
  | 0 => ⟨Nat.le_refl _, Nat.zero_le _⟩
  | k + 1 => by
    have ih := bat_len hL k
    have e : (k + 1) * (4 * L + 6) = k * (4 * L + 6) + (4 * L + 6) := Nat.succ_mul _ _
    rw [e]
    cases h : ps[k]? with
    | none =>
      have : bat ps (k + 1) = bat ps k := by
        have h' : ps.zipIdx[k]? = none := by rw [List.getElem?_zipIdx, h]; rfl
        unfold bat
        rw [List.take_add_one, h']; simp
      rw [this]; omega
    | some p =>
      have hp := hL p (List.mem_of_getElem? h)
      rw [bat_succ h]
      generalize decide (k + 1 < ps.length) = cl
      have hb := brun_len (bat ps k) cl p
      have he := emit_len (brun (bat ps k) cl p)
      unfold bstep1
      split
      · refine ⟨by show (bat ps k).row.length ≤ _; omega, ?_⟩
        show (if cl = true then brun (bat ps k) cl p ++ [93, 114] else brun (bat ps k) cl p).length ≤ _
        split
        · rw [List.length_append]; show _ + 2 ≤ _; omega
        · omega
      · refine ⟨?_, Nat.zero_le _⟩
        show ((bat ps k).row ++ emit (brun (bat ps k) cl p) ++ [_]).length ≤ _
        rw [List.length_append, List.length_append]
        show _ + 1 ≤ _
        omega
end Mine

end

section
open PySem PySem.W PyProof.Rows
set_option Elab.async false
namespace Mine
set_option maxRecDepth 100000
set_option maxHeartbeats 8000000
open_top hd for PySem.Challenge.rw_kn0113_05
end Mine

end

section
open PySem PySem.W PyProof.Rows
set_option Elab.async false
set_option maxRecDepth 100000
set_option linter.unusedVariables false
namespace Mine

noncomputable def K0 (w : World) : Frag := Mine.hd.heap_39 w.params

structure Gd (w : World) (mg mb : Str → Option Value) : Prop where
  ex : ∃ h, (K0 w).In h ∧ h.Ns mainGlobals mg
  bt : ∀ x : Str, x ≠ ("__name__" : Str) → mb x = bootBuiltins x

noncomputable def C0 (w : World) (os : OsState) (mg mb : Str → Option Value) : Cfg where
  prog := PySem.Challenge.pw_kn0113_05
  w := w
  os := os
  mg := mg
  mb := mb
  G h := (K0 w).In h ∧ h.Ns mainGlobals mg ∧ h.Ns builtinsNs mb ∧ h.NoLimit
  mono g k := ⟨Frag.In.keeps g.1 k, g.2.1.keeps k, g.2.2.1.keeps k, g.2.2.2.keeps k⟩
  ns g := g.2.1
  bs g := g.2.2.1
  lim g := g.2.2.2

section
variable {w : World} {os : OsState} {mg mb : Str → Option Value}
theorem Gd.own (X : Gd w mg mb) {n : Str} {v : Value} (e : nsIn (K0 w) mainGlobals n = some (some v)) : mg n = some v := let ⟨h, a, b⟩ := X.ex; mg_of a b e
theorem Gd.built (X : Gd w mg mb) {n : Str} (e : nsIn (K0 w) mainGlobals n = some none) : mg n = none := let ⟨h, a, b⟩ := X.ex; mg_none_of a b e
theorem g_twin (X : Gd w mg mb) : mg "_twin_re_1" = some (.ref 36) := X.own (by kernel_rfl)
theorem g_sign (X : Gd w mg mb) : mg "_law_sign" = some (.ref 50) := X.own (by kernel_rfl)
theorem g_read (X : Gd w mg mb) : mg "_law_read" = some (.ref 57) := X.own (by kernel_rfl)
theorem g_mark (X : Gd w mg mb) : mg "_law_mark" = some (.ref 62) := X.own (by kernel_rfl)
theorem g_unmark (X : Gd w mg mb) : mg "_law_unmark" = some (.ref 69) := X.own (by kernel_rfl)
theorem g_parts (X : Gd w mg mb) : mg "_law_by_parts" = some (.ref 76) := X.own (by kernel_rfl)
theorem g_law (X : Gd w mg mb) : mg "law" = some (.ref 81) := X.own (by kernel_rfl)
theorem g_separate (X : Gd w mg mb) : mg "separate" = some (.ref 43) := X.own (by kernel_rfl)
theorem n_chr (X : Gd w mg mb) : mg "chr" = none := X.built (by kernel_rfl)
theorem b_chr (X : Gd w mg mb) : mb "chr" = some (.builtin "chr") := (X.bt _ (by decide +kernel)).trans (by kernel_rfl)
theorem n_len (X : Gd w mg mb) : mg "len" = none := X.built (by kernel_rfl)
theorem b_len (X : Gd w mg mb) : mb "len" = some (.builtin "len") := (X.bt _ (by decide +kernel)).trans (by kernel_rfl)
theorem n_enumerate (X : Gd w mg mb) : mg "enumerate" = none := X.built (by kernel_rfl)
theorem b_enumerate (X : Gd w mg mb) : mb "enumerate" = some (.type "enumerate") := (X.bt _ (by decide +kernel)).trans (by kernel_rfl)
theorem hK0 : ∀ h, (C0 w os mg mb).G h → (K0 w).In h := fun h g => g.1
end
noncomputable def D_sign : { fd : FuncData // ∀ w, fdOf (K0 w) 50 = fd } := by
  refine ⟨?b, fun w => ?h⟩
  case h => conv => lhs; whnf
noncomputable abbrev F_sign : FuncData := D_sign.1
noncomputable def B_sign : { b : List Stmt // bodyOf F_sign = b } := by
  refine ⟨?b, ?h⟩
  case h => conv => lhs; whnf
noncomputable def D_read : { fd : FuncData // ∀ w, fdOf (K0 w) 57 = fd } := by
  refine ⟨?b, fun w => ?h⟩
  case h => conv => lhs; whnf
noncomputable abbrev F_read : FuncData := D_read.1
noncomputable def B_read : { b : List Stmt // bodyOf F_read = b } := by
  refine ⟨?b, ?h⟩
  case h => conv => lhs; whnf
noncomputable def D_mark : { fd : FuncData // ∀ w, fdOf (K0 w) 62 = fd } := by
  refine ⟨?b, fun w => ?h⟩
  case h => conv => lhs; whnf
noncomputable abbrev F_mark : FuncData := D_mark.1
noncomputable def B_mark : { b : List Stmt // bodyOf F_mark = b } := by
  refine ⟨?b, ?h⟩
  case h => conv => lhs; whnf
noncomputable def D_unmark : { fd : FuncData // ∀ w, fdOf (K0 w) 69 = fd } := by
  refine ⟨?b, fun w => ?h⟩
  case h => conv => lhs; whnf
noncomputable abbrev F_unmark : FuncData := D_unmark.1
noncomputable def B_unmark : { b : List Stmt // bodyOf F_unmark = b } := by
  refine ⟨?b, ?h⟩
  case h => conv => lhs; whnf
noncomputable def D_parts : { fd : FuncData // ∀ w, fdOf (K0 w) 76 = fd } := by
  refine ⟨?b, fun w => ?h⟩
  case h => conv => lhs; whnf
noncomputable abbrev F_parts : FuncData := D_parts.1
noncomputable def B_parts : { b : List Stmt // bodyOf F_parts = b } := by
  refine ⟨?b, ?h⟩
  case h => conv => lhs; whnf
noncomputable def D_law : { fd : FuncData // ∀ w, fdOf (K0 w) 81 = fd } := by
  refine ⟨?b, fun w => ?h⟩
  case h => conv => lhs; whnf
noncomputable abbrev F_law : FuncData := D_law.1
noncomputable def B_law : { b : List Stmt // bodyOf F_law = b } := by
  refine ⟨?b, ?h⟩
  case h => conv => lhs; whnf
noncomputable def D_separate : { fd : FuncData // ∀ w, fdOf (K0 w) 43 = fd } := by
  refine ⟨?b, fun w => ?h⟩
  case h => conv => lhs; whnf
noncomputable abbrev F_separate : FuncData := D_separate.1
noncomputable def B_separate : { b : List Stmt // bodyOf F_separate = b } := by
  refine ⟨?b, ?h⟩
  case h => conv => lhs; whnf
section
variable {w : World} {os : OsState} {mg mb : Str → Option Value}
theorem at_sign : FnAt (C0 w os mg mb) 50 F_sign.name F_sign.params B_sign.1 F_sign.scope F_sign.code := fnAt_K (K := K0 w) hK0 rfl rfl rfl rfl rfl rfl
theorem at_read : FnAt (C0 w os mg mb) 57 F_read.name F_read.params B_read.1 F_read.scope F_read.code := fnAt_K (K := K0 w) hK0 rfl rfl rfl rfl rfl rfl
theorem at_mark : FnAt (C0 w os mg mb) 62 F_mark.name F_mark.params B_mark.1 F_mark.scope F_mark.code := fnAt_K (K := K0 w) hK0 rfl rfl rfl rfl rfl rfl
theorem at_unmark : FnAt (C0 w os mg mb) 69 F_unmark.name F_unmark.params B_unmark.1 F_unmark.scope F_unmark.code := fnAt_K (K := K0 w) hK0 rfl rfl rfl rfl rfl rfl
theorem at_parts : FnAt (C0 w os mg mb) 76 F_parts.name F_parts.params B_parts.1 F_parts.scope F_parts.code := fnAt_K (K := K0 w) hK0 rfl rfl rfl rfl rfl rfl
theorem at_law : FnAt (C0 w os mg mb) 81 F_law.name F_law.params B_law.1 F_law.scope F_law.code := fnAt_K (K := K0 w) hK0 rfl rfl rfl rfl rfl rfl
theorem at_separate : FnAt (C0 w os mg mb) 43 F_separate.name F_separate.params B_separate.1 F_separate.scope F_separate.code := fnAt_K (K := K0 w) hK0 rfl rfl rfl rfl rfl rfl
theorem pat_at : ∀ h, (C0 w os mg mb).G h → PatAt (C0 w os mg mb).w h 36 := fun h g => by
  refine ⟨_, _, _, 33, 35, _, _, g.1 36 _ rfl, g.1 35 _ rfl, g.1 33 _ rfl⟩
theorem sep (X : Gd w mg mb) : SepOk (C0 w os mg mb) 43 36 := by
  refine sep_ok at_separate (x := "pattern") (g_twin X) pat_at (fun pm doc vals hl => ?_) (fun y hy => ?_) rfl (fun _ => rfl) (fun _ => rfl) (by decide +kernel) (by decide +kernel) rfl
  · obtain ⟨v, rfl⟩ := one_val (d := vn) hl
    with_unfolding_all rfl
  · rw [List.mem_singleton] at hy; subst hy; rfl
end
end Mine

end

section
open PySem PySem.W PyProof.Rows
set_option Elab.async false
set_option maxRecDepth 100000
set_option linter.unusedVariables false
namespace Mine

abbrev T05 : List Nat := [91, 91, 91, 91, 93, 93, 93, 93, 10, 10, 97, 42]

section
variable {w : World} {os : OsState} {mg mb : Str → Option Value}
theorem f_sign (X : Gd w mg mb) (n : Int) : Fun (C0 w os mg mb) 50 (1 + 1) [vi n] (vs [sgn T05 n]) := by
  refine Fun.of_body at_sign (xs := ["number"]) (fun pm doc vals hl => ?_) rfl (by decide) (fun x hx => ?_) (fun A hR => ?_)
  · obtain ⟨v, rfl⟩ := one_val hl
    with_unfolding_all rfl
  · rw [List.mem_singleton] at hx; subst hx; rfl
  · obtain ⟨h0, h1, h2, h3⟩ := sgn_facts n
    refine Ex.assign (Ev.bin (Ev.name rfl) Ev.int fun _ _ => Op.modi (by decide)) ?_
    refine Ex.cond (Tst.cmp (Ev.name rfl) Ev.int fun _ _ => Op.lti) (fun h => ?_) (fun h => ?_)
    · exact Ex.ret (Ev.sub (Ev.str (l := T05) (by decide +kernel)) (Ev.name rfl) fun _ _ => Op.chr (c := sgn T05 n) (by decide) (sgn_get rfl (of_decide_eq_true h))) rfl
    · have h := of_decide_eq_false h
      refine Ex.assign (Ev.bin (Ev.bin (Ev.name rfl) Ev.int fun _ _ => Op.divi (by decide) (PyProof.noPylong_of_log2 (by decide +kernel))) Ev.int fun _ _ => Op.modi (by decide)) ?_
      refine Ex.ret (Ev.call (ds := [vi (sgn T05 n)]) (.inr ⟨n_chr X, b_chr X⟩) callee_builtin (Evs.cons (Ev.ifexp (Tst.cmp (Ev.name rfl) Ev.int fun _ _ => Op.lti) (fun h' => ?_) (fun h' => ?_)) Evs.nil) (fun vals hl => ?_)) rfl
      · have h' := of_decide_eq_true h'
        have e : ((sgn T05 n : Nat) : Int) = (n.fdiv 16).fmod 1112064 := by unfold sgn; rw [if_neg h, if_pos h']; omega
        rw [e]; exact Ev.name rfl
      · have h' := of_decide_eq_false h'
        have e : ((sgn T05 n : Nat) : Int) = (n.fdiv 16).fmod 1112064 + 2048 := by unfold sgn; rw [if_neg h, if_neg h']; omega
        rw [e]; exact Ev.bin (Ev.name rfl) Ev.int fun _ _ => Op.addi
      · obtain ⟨v, rfl⟩ := one_val hl
        have := sgn_lt (T := T05) (by decide) n
        exact Op.chrOf (by omega)

theorem f_read (X : Gd w mg mb) (l : List Nat) (hl : l.length ≤ 3000) : Fun (C0 w os mg mb) 57 (2 + 1) [vs l] (.d (.list (encP (readOf l)))) := by
  refine Fun.of_body at_read (xs := ["text"]) (fun pm doc vals hl => ?_) rfl (by decide) (fun x hx => ?_) (fun A hR => ?_)
  · obtain ⟨v, rfl⟩ := one_val hl
    with_unfolding_all rfl
  · rw [List.mem_singleton] at hx; subst hx; rfl
  · have hs := sizeLine_eq
    have hm := finds_mem l _ 0 (Nat.le_refl _) (Nat.zero_le _)
    have hn := finds_len l _ 0 (Nat.le_refl _) (Nat.zero_le _)
    refine Ex.newlist rfl ?_
    refine Ex.for (fun k => [("text", vs l)]) (fun k => some ("row", encP (readAt l k))) (ext := fun _ d => [("found", d)])
      (Starts.find (sep X) at_separate.callee (g_separate X) pat_at (hR.le (by omega)) (by omega) (Ev.name rfl)) (sub_env ⟨rfl, trivial⟩) rfl (fun k d hd => Asg.name) (fun k v hd => ?_) ?_
    · obtain ⟨kd, q, r, rfl, h0, h1, h2⟩ := hm v (List.mem_of_getElem? hd)
      have hk := (List.getElem?_eq_some_iff.mp hd).1
      obtain ⟨c, t, hc⟩ := cut_cons h1 h2
      have hcl := cut_len l q r
      have hsz : l.length ≤ sizeLine := by omega
      have hnx := readAt_succ hd
      have hrl : (encP (readAt l k)).length ≤ 3000 := by
        rw [encP_len]
        unfold readAt
        rw [List.length_map, List.length_take]; omega
      refine Ex.assign (Ev.grp0 (Ev.name rfl) hsz) ?_
      refine Ex.ifl (Tst.cmp (Ev.grpS (Ev.name rfl) hsz) Ev.none fun _ _ => Op.isnot) (fun h => ?_) (fun h => ?_)
      · cases kd with
        | run => cases h
        | opn => cases h
        | set =>
          refine Ex.append1 (d := .tuple [.str (S (kn .set)), .str (S (cut l q r))]) (Ev.tuple (Evs.cons (Ev.str (by decide +kernel)) (Evs.cons (Ev.name rfl) Evs.nil)) (by simp)) (by omega) ?_
          refine Ex.nil ⟨rfl, sub_env ⟨rfl, trivial⟩, ?_⟩
          rw [hnx, encP_append]; rfl
      · have hk' : kd ≠ .set := by rintro rfl; cases h
        have e : rdp (piece l (.m (S l) kd q r)) = (if c = 91 then Kind.opn else Kind.run, cut l q r) := by
          have h2 : (cut l q r).head? = some c := by rw [hc]; rfl
          cases kd with
          | set => exact absurd rfl hk'
          | run =>
            show ((if (cut l q r).head? = some 91 then Kind.opn else Kind.run), cut l q r) = _
            rw [h2]
            simp only [Option.some.injEq]
          | opn =>
            show ((if (cut l q r).head? = some 91 then Kind.opn else Kind.run), cut l q r) = _
            rw [h2]
            simp only [Option.some.injEq]
        refine Ex.append1 (d := .tuple [.str (S (kn (if c = 91 then Kind.opn else Kind.run))), .str (S (cut l q r))]) (Ev.tuple (Evs.cons
          (Ev.ifexp (Tst.cmp (Ev.first (Ev.name rfl) hc (by omega)) (Ev.str (l := [91]) (by decide +kernel)) fun _ _ => Op.eqs) (fun hq => ?_) (fun hq => ?_)) (Evs.cons (Ev.name rfl) Evs.nil)) (by simp)) (by omega) ?_
        · have hq : c = 91 := by simpa using hq
          show Ev _ _ _ _ _ _ (vs (kn (if c = 91 then Kind.opn else Kind.run)))
          rw [if_pos hq]
          exact Ev.str (by decide +kernel)
        · have hq : ¬ c = 91 := by simpa using hq
          show Ev _ _ _ _ _ _ (vs (kn (if c = 91 then Kind.opn else Kind.run)))
          rw [if_neg hq]
          exact Ev.str (by decide +kernel)
        · refine Ex.nil ⟨rfl, sub_env ⟨rfl, trivial⟩, ?_⟩
          rw [hnx, encP_append, e]; rfl
    · rw [readAt_all]
      exact Ex.freeze (Ex.ret (Ev.name rfl) rfl)

/-- ''.join([.. for sign in ..]) -/
theorem f_mark (X : Gd w mg mb) (k : Kind) (p : List Nat) (hp : p.length ≤ 3000) : Fun (C0 w os mg mb) 62 (1 + 1) [vs (kn k), vs p] (vs (mrk k p)) := by
  refine Fun.of_body at_mark (xs := ["kind", "piece"]) (fun pm doc vals hl => ?_) rfl (by decide) (fun x hx => ?_) (fun A hR => ?_)
  · obtain ⟨v₁, v₂, rfl⟩ := two_val hl
    with_unfolding_all rfl
  · rcases List.mem_cons.mp hx with rfl | hx
    · rfl
    · rw [List.mem_singleton] at hx; subst hx; rfl
  · have hs := sizeLine_eq
    have flen : ∀ (f : Nat → List Nat), (∀ c, (f c).length = 2) → ∀ q : List Nat, q.length ≤ 3000 → (q.map f).flatten.length ≤ 6000 := fun f hf q hq => by
      have := flatMap_two f hf q
      unfold List.flatMap at this
      omega
    refine Ex.cond (Tst.cmp (Ev.name rfl) (Ev.str (l := [115, 101, 116]) (by decide +kernel)) fun _ _ => Op.eqs) (fun h => ?_) (fun h => ?_)
    · have hk : k = .set := by cases k <;> first | rfl | (exact absurd (of_decide_eq_true h) (by decide))
      subst hk
      have hq : p.tail.dropLast.length ≤ 3000 := by rw [List.length_dropLast, List.length_tail]; omega
      have hfl := flen (fun c => [115, c]) (fun _ => rfl) _ hq
      refine Ex.ret (d := vs (([91] ++ (p.tail.dropLast.map fun c => [115, c]).flatten) ++ [93])) (Ev.bin (Ev.bin (Ev.str (l := [91]) (by decide +kernel))
        (Ev.meth (dv := vs []) (d := vs (p.tail.dropLast.map fun c => [115, c]).flatten) (ds := [.d (.list ((p.tail.dropLast.map fun c => [115, c]).map fun l => .str (S l)))]) (Ev.str rfl) (OfT.str _) F.plainAttrs_str F.slot_str_join F.type_str_join (Evs.cons ?_ Evs.nil) (fun ov vals hl => ?_))
        fun _ _ => Op.add (by simp only [List.length_singleton]; omega)) (Ev.str (l := [93]) (by decide +kernel)) fun _ _ => Op.add (by simp only [List.length_append, List.length_singleton]; omega)) rfl
      · refine Ev.listcomp (ext := fun _ d => [("sign", d)]) (Starts.str (Ev.inner (Ev.name rfl) (by omega)) hR.1) (by simp) (by simp; omega) (fun L k d hd => Asg.name) (fun L k d x hd hx => ?_)
        obtain ⟨c, hc, rfl⟩ := chars_get hd
        rw [List.map_map, List.getElem?_map, hc] at hx
        cases hx
        exact Ev.bin (Ev.str (l := [115]) (by decide +kernel)) (Ev.name rfl) fun _ _ => Op.add (by simp [hs])
      · obtain ⟨v, rfl⟩ := one_val hl
        exact Op.join (by omega)
    refine Ex.cond (Tst.cmp (Ev.name rfl) (Ev.str (l := [111, 112, 101, 110]) (by decide +kernel)) fun _ _ => Op.eqs) (fun h' => ?_) (fun h' => ?_)
    · have hk : k = .opn := by cases k <;> first | rfl | (exact absurd (of_decide_eq_true h') (by decide))
      subst hk
      have hq : p.tail.length ≤ 3000 := by rw [List.length_tail]; omega
      have hfl := flen (fun c => [116, c]) (fun _ => rfl) _ hq
      refine Ex.ret (d := vs ([91] ++ (p.tail.map fun c => [116, c]).flatten)) (Ev.bin (Ev.str (l := [91]) (by decide +kernel))
        (Ev.meth (dv := vs []) (d := vs (p.tail.map fun c => [116, c]).flatten) (ds := [.d (.list ((p.tail.map fun c => [116, c]).map fun l => .str (S l)))]) (Ev.str rfl) (OfT.str _) F.plainAttrs_str F.slot_str_join F.type_str_join (Evs.cons ?_ Evs.nil) (fun ov vals hl => ?_))
        fun _ _ => Op.add (by simp only [List.length_singleton]; omega)) rfl
      · refine Ev.listcomp (ext := fun _ d => [("sign", d)]) (Starts.str (Ev.behind (Ev.name rfl) (by omega)) hR.1) (by simp) (by simp; omega) (fun L k d hd => Asg.name) (fun L k d x hd hx => ?_)
        obtain ⟨c, hc, rfl⟩ := chars_get hd
        rw [List.map_map, List.getElem?_map, hc] at hx
        cases hx
        exact Ev.bin (Ev.str (l := [116]) (by decide +kernel)) (Ev.name rfl) fun _ _ => Op.add (by simp [hs])
      · obtain ⟨v, rfl⟩ := one_val hl
        exact Op.join (by omega)
    · have hk : k = .run := by
        cases k with
        | run => rfl
        | set => exact absurd h (by decide)
        | opn => exact absurd h' (by decide)
      subst hk
      have hfl := flen (fun c => [c, 114]) (fun _ => rfl) _ hp
      refine Ex.ret (d := vs (p.map fun c => [c, 114]).flatten)
        (Ev.meth (dv := vs []) (ds := [.d (.list ((p.map fun c => [c, 114]).map fun l => .str (S l)))]) (Ev.str rfl) (OfT.str _) F.plainAttrs_str F.slot_str_join F.type_str_join (Evs.cons ?_ Evs.nil) (fun ov vals hl => ?_)) rfl
      · refine Ev.listcomp (ext := fun _ d => [("sign", d)]) (Starts.str (Ev.name rfl) hR.1) (by simp) (by simp; omega) (fun L k d hd => Asg.name) (fun L k d x hd hx => ?_)
        obtain ⟨c, hc, rfl⟩ := chars_get hd
        rw [List.map_map, List.getElem?_map, hc] at hx
        cases hx
        exact Ev.bin (Ev.name rfl) (Ev.str (l := [114]) (by decide +kernel)) fun _ _ => Op.add (by simp [hs])
      · obtain ⟨v, rfl⟩ := one_val hl
        exact Op.join (by omega)

theorem f_unmark (X : Gd w mg mb) (k : Kind) (p : List Nat) (hp : p.length ≤ 3000) : Fun (C0 w os mg mb) 69 (1 + 1) [vs (kn k), vs p] (vs (unmk k p)) := by
  refine Fun.of_body at_unmark (xs := ["kind", "piece"]) (fun pm doc vals hl => ?_) rfl (by decide) (fun x hx => ?_) (fun A hR => ?_)
  · obtain ⟨v₁, v₂, rfl⟩ := two_val hl
    with_unfolding_all rfl
  · rcases List.mem_cons.mp hx with rfl | hx
    · rfl
    · rw [List.mem_singleton] at hx; subst hx; rfl
  · have hs := sizeLine_eq
    have ht1 : p.tail.dropLast.length ≤ 3000 := by rw [List.length_dropLast, List.length_tail]; omega
    have ht2 : p.tail.length ≤ 3000 := by rw [List.length_tail]; omega
    refine Ex.cond (Tst.cmp (Ev.name rfl) (Ev.str (l := [115, 101, 116]) (by decide +kernel)) fun _ _ => Op.eqs) (fun h => ?_) (fun h => ?_)
    · have hk : k = .set := by cases k <;> first | rfl | (exact absurd (of_decide_eq_true h) (by decide))
      subst hk
      have := odds_len p.tail.dropLast
      refine Ex.ret (d := vs (([91] ++ odds p.tail.dropLast) ++ [93])) (Ev.bin (Ev.bin (Ev.str (l := [91]) (by decide +kernel)) ?_ fun _ _ => Op.add (by simp only [List.length_singleton]; omega)) (Ev.str (l := [93]) (by decide +kernel)) fun _ _ => Op.add (by simp only [List.length_append, List.length_singleton]; omega)) rfl
      rw [← sl_odd]
      exact Ev.slice (a := some 1) (b := none) (c := some 2) (Ev.inner (Ev.name rfl) (by omega)) Ev.int trivial Ev.int rfl (by omega) (by show (sl _ _ _ 2).length ≤ _; rw [sl_odd]; exact odds_len _)
    refine Ex.cond (Tst.cmp (Ev.name rfl) (Ev.str (l := [111, 112, 101, 110]) (by decide +kernel)) fun _ _ => Op.eqs) (fun h' => ?_) (fun h' => ?_)
    · have hk : k = .opn := by cases k <;> first | rfl | (exact absurd (of_decide_eq_true h') (by decide))
      subst hk
      have := odds_len p.tail
      refine Ex.ret (d := vs ([91] ++ odds p.tail)) (Ev.bin (Ev.str (l := [91]) (by decide +kernel)) ?_ fun _ _ => Op.add (by simp only [List.length_singleton]; omega)) rfl
      rw [← sl_odd]
      exact Ev.slice (a := some 1) (b := none) (c := some 2) (Ev.behind (Ev.name rfl) (by omega)) Ev.int trivial Ev.int rfl (by omega) (by show (sl _ _ _ 2).length ≤ _; rw [sl_odd]; exact odds_len _)
    · have hk : k = .run := by
        cases k with
        | run => rfl
        | set => exact absurd h (by decide)
        | opn => exact absurd h' (by decide)
      subst hk
      refine Ex.ret (d := vs (evens p)) ?_ rfl
      rw [← sl_even]
      exact Ev.slice (a := none) (b := none) (c := some 2) (Ev.name rfl) trivial trivial Ev.int rfl (by omega) (by show (sl _ _ _ 2).length ≤ _; rw [sl_even]; exact evens_len _)
end
end Mine

end

section
open PySem PySem.W PyProof.Rows
set_option Elab.async false
set_option maxRecDepth 100000
set_option linter.unusedVariables false
namespace Mine

def encT (ps : List (List Nat)) : List PyData := ps.map fun p => .str (S p)
theorem truth_str (l : List Nat) : truth (.str (S l)) = !l.isEmpty := by
  show (((S l).length : Int) != 0) = _
  rw [S_len]
  cases l with
  | nil => rfl
  | cons c r =>
    show (((r.length + 1 : Nat) : Int) != 0) = true
    simp
    omega
def extE : Nat → V → List (Str × V) := fun _ d => match d with
  | .d (.tuple [a, b]) => [("part", .d b), ("number", .d a)]
  | _ => []

section
variable {w : World} {os : OsState} {mg mb : Str → Option Value}
theorem f_parts (X : Gd w mg mb) (l : List Nat) (hl : l.length ≤ 400) : Fun (C0 w os mg mb) 76 (4 + 1) [vs l] (.d (.list (encP (byParts l)))) := by
  refine Fun.of_body at_parts (xs := ["text"]) (fun pm doc vals hl => ?_) rfl (by decide) (fun x hx => ?_) (fun A hR => ?_)
  · obtain ⟨v, rfl⟩ := one_val hl
    with_unfolding_all rfl
  · rw [List.mem_singleton] at hx; subst hx; rfl
  · have hs := sizeLine_eq
    obtain ⟨hsl, hsp⟩ := spl_len 93 l
    refine Ex.newlist rfl ?_
    refine Ex.assign (Ev.str (l := []) rfl) ?_
    refine Ex.assign (d := .d (.list (encT (spl 93 l)))) (Ev.meth (dv := vs l) (ds := [vs [93]]) (Ev.name rfl) (OfT.str _) F.plainAttrs_str F.slot_str_split F.type_str_split (Evs.cons (Ev.str (by decide +kernel)) Evs.nil) (fun ov vals hl => ?_)) ?_
    · obtain ⟨v, rfl⟩ := one_val hl
      exact Op.split (by omega)
    generalize hps : spl 93 l = ps at hsl hsp
    have hsl2 : (encT ps).length = ps.length := List.length_map _
    refine Ex.for (fun k => [("parts", .d (.list (encT ps))), ("run", vs (bat ps k).run)]) (fun k => some ("row", encP (bat ps k).row)) (ext := extE)
      (Starts.enum (Ev.name rfl) hR.1 (n_enumerate X) (b_enumerate X)) (sub_env ⟨rfl, rfl, trivial⟩) rfl (fun k d hd => ?_) (fun k d hd => ?_) ?_
    · have hk := (List.getElem?_eq_some_iff.mp hd).1
      rw [enumItems_len] at hk
      rw [enumItems_get (List.getElem?_eq_getElem hk)] at hd
      cases hd
      exact Asg.tuple (Asgs.cons Asg.name (Asgs.cons Asg.name Asgs.nil)) hR.1
    · have hk := (List.getElem?_eq_some_iff.mp hd).1
      rw [enumItems_len, hsl2] at hk
      have hpk : ps[k]? = some ps[k] := List.getElem?_eq_getElem hk
      have hpd : (encT ps)[k]? = some (.str (S ps[k])) := by unfold encT; rw [List.getElem?_map, hpk]; rfl
      rw [enumItems_get hpd] at hd
      cases hd
      have hnx := bat_succ hpk
      have hbl := bat_len (ps := ps) (L := l.length) hsp k
      have hpl := hsp _ (List.mem_of_getElem? hpk)
      generalize ps[k] = p at hnx hpl
      generalize bat ps k = s at hnx hbl
      rw [hnx]
      have hclosed : decide (((k : Int) + 1) < ((encT ps).length : Int)) = decide (k + 1 < ps.length) := decide_eq_decide.mpr (by rw [hsl2]; omega)
      generalize decide (k + 1 < ps.length) = cl at hnx hclosed ⊢
      have hkk : k * (4 * l.length + 6) ≤ 401 * 1606 := Nat.mul_le_mul (by omega) (by omega)
      have hbe := bend_len cl p
      have hbo := bopen_len cl p
      have hra := runAdd_len cl p
      have hbr := brun_len s cl p
      have hml := mrk_len .run (runAdd cl p)
      have hrow : (encP s.row).length ≤ 900 := by rw [encP_len]; omega
      show Ex _ _ _ [("part", vs p), ("number", vi k), ("parts", .d (.list (encT ps))), ("run", vs s.run)] (some ("row", encP s.row)) _ _
      refine Ex.assign (d := vb cl) ?_ ?_
      · rw [← hclosed]
        refine Ev.cmp (d₁ := vi ((k : Int) + 1)) (d₂ := vi (encT ps).length) (Ev.bin (Ev.name rfl) Ev.int fun _ _ => Op.addi) (Ev.call (ds := [.d (.list (encT ps))]) (.inr ⟨n_len X, b_len X⟩) callee_builtin (Evs.cons (Ev.name rfl) Evs.nil) (fun vals hl => ?_)) fun _ _ => Op.lti
        obtain ⟨v, rfl⟩ := one_val hl
        exact Op.lenl (by omega)
      refine Ex.unpack (d := .d (tup3 (bend cl p))) (Ev.ifexp (Tst.value (d := .bool cl) (Ev.name rfl) trivial) (fun h => ?_) (fun h => ?_)) (Asg.tuple (Asgs.cons Asg.name (Asgs.cons Asg.name (Asgs.cons Asg.name Asgs.nil))) hR.1) ?_
      · have h : cl = true := h
        rw [h]
        refine Ev.meth (dv := vs p) (ds := [vs [10]]) (Ev.name rfl) (OfT.str _) F.plainAttrs_str F.slot_str_rpartition F.type_str_rpartition (Evs.cons (Ev.str (by decide +kernel)) Evs.nil) (fun ov vals hl => ?_)
        obtain ⟨v, rfl⟩ := one_val hl
        exact Op.rpartition (by omega)
      · have h : cl = false := h
        rw [h]
        exact Ev.tuple (Evs.cons (Ev.str rfl) (Evs.cons (Ev.str rfl) (Evs.cons (Ev.name rfl) Evs.nil))) (by simp)
      refine Ex.unpack (d := .d (tup3 (bopen cl p))) (Ev.meth (dv := vs (bend cl p).2.2) (ds := [vs [91]]) (Ev.name rfl) (OfT.str _) F.plainAttrs_str F.slot_str_partition F.type_str_partition (Evs.cons (Ev.str (by decide +kernel)) Evs.nil) (fun ov vals hl => ?_))
        (Asg.tuple (Asgs.cons Asg.name (Asgs.cons Asg.name (Asgs.cons Asg.name Asgs.nil))) hR.1) ?_
      · obtain ⟨v, rfl⟩ := one_val hl
        exact Op.partition (by omega)
      have hfl := List.length_filter_le (fun x => x != 91) ((bend cl p).1 ++ (bend cl p).2.1)
      rw [List.length_append] at hfl
      refine Ex.aug (d := vs (brun s cl p)) rfl (Ev.fn (f_mark X .run (runAdd cl p) (by omega)) (g_mark X) at_mark.callee (hR.le (by decide)) (Evs.consT (by decide +kernel)
        (EvT.bin (EvT.strike (c := 91) (Ev.bin (Ev.name rfl) (Ev.name rfl) fun _ _ => Op.add (by omega)) (by rw [List.length_append]; omega) (by decide +kernel) (by decide +kernel)) (Ev.name rfl) fun _ _ => Op.add (by omega))))
        (fun _ _ => Op.iadd (by omega)) ?_
      refine Ex.ifl (Tst.value (d := .str (S (bopen cl p).2.1)) (Ev.name rfl) (by show (S _).length ≤ _; rw [S_len]; omega)) (fun h => ?_) (fun h => ?_)
      · rw [truth_str] at h
        have he : (bopen cl p).2.1.isEmpty = false := by simpa using h
        have e1 : bstep1 s cl p = ⟨s.row ++ emit (brun s cl p) ++ [(bkind cl, mrk (bkind cl) ((bopen cl p).2.1 ++ (bopen cl p).2.2 ++ (if cl = true then [93] else [])))], []⟩ := by
          unfold bstep1
          rw [he]; rfl
        rw [e1]
        refine Ex.ifs [("run", vs []), ("inside", vs (bopen cl p).2.2), ("opener", vs (bopen cl p).2.1), ("closed", vb cl), ("parts", .d (.list (encT ps)))] (some ("row", encP (s.row ++ emit (brun s cl p))))
          (Tst.value (d := .str (S (brun s cl p))) (Ev.name rfl) (by show (S _).length ≤ _; rw [S_len]; omega)) (fun h' => ?_) (fun h' => ?_) ?_
        · rw [truth_str] at h'
          have he' : (brun s cl p).isEmpty = false := by simpa using h'
          have e2 : emit (brun s cl p) = [(.run, brun s cl p)] := if_neg (by rw [he']; decide)
          refine Ex.append1 (d := .tuple [.str (S (kn .run)), .str (S (brun s cl p))]) (Ev.tuple (Evs.cons (Ev.str (by decide +kernel)) (Evs.cons (Ev.name rfl) Evs.nil)) (by simp)) (by omega) ?_
          refine Ex.assign (Ev.str (l := []) rfl) ?_
          refine Ex.nil ⟨rfl, sub_env ⟨rfl, rfl, rfl, rfl, rfl, trivial⟩, ?_⟩
          rw [e2, encP_append]; rfl
        · rw [truth_str] at h'
          have he' : (brun s cl p).isEmpty = true := by simpa using h'
          have e2 : emit (brun s cl p) = [] := if_pos he'
          have e3 : brun s cl p = [] := List.isEmpty_iff.mp he'
          refine Ex.nil ⟨rfl, sub_env ⟨?_, rfl, rfl, rfl, rfl, trivial⟩, ?_⟩
          · rw [e3]; rfl
          · rw [e2, List.append_nil]
        refine Ex.assign (d := vs (kn (bkind cl))) (Ev.ifexp (Tst.value (d := .bool cl) (Ev.name rfl) trivial) (fun h' => ?_) (fun h' => ?_)) ?_
        · have h' : cl = true := h'
          rw [h']; exact Ev.str (by decide +kernel)
        · have h' : cl = false := h'
          rw [h']; exact Ev.str (by decide +kernel)
        have hcb : (if cl = true then [93] else []).length ≤ 1 := by split <;> simp
        have htl : ((bopen cl p).2.1 ++ (bopen cl p).2.2 ++ (if cl = true then [93] else [])).length ≤ 500 := by rw [List.length_append, List.length_append]; omega
        have hrow2 : (encP (s.row ++ emit (brun s cl p))).length ≤ 1000 := by
          have := emit_len (brun s cl p)
          rw [encP_len] at hrow ⊢
          rw [List.length_append]; omega
        refine Ex.append1 (d := .tuple [.str (S (kn (bkind cl))), .str (S (mrk (bkind cl) ((bopen cl p).2.1 ++ (bopen cl p).2.2 ++ (if cl = true then [93] else []))))])
          (Ev.tuple (Evs.cons (Ev.name rfl) (Evs.cons (Ev.fn (f_mark X (bkind cl) _ (by omega)) (g_mark X) at_mark.callee (hR.le (by decide)) (Evs.cons (Ev.name rfl) (Evs.cons
            (Ev.bin (Ev.bin (Ev.name rfl) (Ev.name rfl) fun _ _ => Op.add (by omega)) (Ev.bin (Ev.str (l := [93]) (by decide +kernel)) (Ev.name rfl) fun _ _ => Op.times) fun _ _ => Op.add (by rw [List.length_append]; omega)) Evs.nil))) Evs.nil)) (by simp)) (by omega) ?_
        refine Ex.nil ⟨rfl, sub_env ⟨rfl, rfl, trivial⟩, ?_⟩
        show some (("row" : Str), _) = some (("row" : Str), encP (s.row ++ emit (brun s cl p) ++ [(bkind cl, _)]))
        rw [encP_append (s.row ++ emit (brun s cl p))]; rfl
      · rw [truth_str] at h
        have he : (bopen cl p).2.1.isEmpty = true := by simpa using h
        have e1 : bstep1 s cl p = ⟨s.row, if cl = true then brun s cl p ++ [93, 114] else brun s cl p⟩ := by
          unfold bstep1
          rw [he]; rfl
        rw [e1]
        refine Ex.ifl (Tst.value (d := .bool cl) (Ev.name rfl) trivial) (fun h' => ?_) (fun h' => ?_)
        · have h' : cl = true := h'
          refine Ex.aug (d := vs (brun s cl p ++ [93, 114])) rfl (Ev.str (l := [93, 114]) (by decide +kernel)) (fun _ _ => Op.iadd (by simp only [List.length_cons, List.length_nil]; omega)) ?_
          refine Ex.nil ⟨rfl, sub_env ⟨rfl, ?_, trivial⟩, rfl⟩
          rw [if_pos h']; rfl
        · have h' : cl = false := h'
          refine Ex.nil ⟨rfl, sub_env ⟨rfl, ?_, trivial⟩, rfl⟩
          rw [if_neg (by rw [h']; decide)]; rfl
    · have hall := bat_all l
      rw [hps] at hall
      rw [enumItems_len, hsl2]
      have hbl := bat_len (ps := ps) (L := l.length) hsp ps.length
      generalize bat ps ps.length = s at hall hbl
      rw [← hall]
      have hkk : ps.length * (4 * l.length + 6) ≤ 401 * 1606 := Nat.mul_le_mul (by omega) (by omega)
      have hrow : (encP s.row).length ≤ 900 := by rw [encP_len]; omega
      refine Ex.ifs [] (some ("row", encP (s.row ++ emit s.run))) (Tst.value (d := .str (S s.run)) (Ev.name rfl) (by show (S _).length ≤ _; rw [S_len]; omega)) (fun h' => ?_) (fun h' => ?_) ?_
      · rw [truth_str] at h'
        have he' : s.run.isEmpty = false := by simpa using h'
        have e2 : emit s.run = [(.run, s.run)] := if_neg (by rw [he']; decide)
        refine Ex.append1 (d := .tuple [.str (S (kn .run)), .str (S s.run)]) (Ev.tuple (Evs.cons (Ev.str (by decide +kernel)) (Evs.cons (Ev.name rfl) Evs.nil)) (by simp)) (by omega) ?_
        refine Ex.nil ⟨rfl, (fun x d h => (nomatch h)), ?_⟩
        rw [e2, encP_append]; rfl
      · rw [truth_str] at h'
        have he' : s.run.isEmpty = true := by simpa using h'
        have e2 : emit s.run = [] := if_pos he'
        refine Ex.nil ⟨rfl, (fun x d h => (nomatch h)), ?_⟩
        rw [e2, List.append_nil]
      exact Ex.freeze (Ex.ret (Ev.name rfl) rfl)
end
end Mine

end

section
open PySem PySem.W PyProof.Rows
set_option Elab.async false
set_option maxRecDepth 100000
set_option linter.unusedVariables false
namespace Mine

def extP (x y : Str) : Nat → V → List (Str × V) := fun _ d => match d with
  | .d (.tuple [a, b]) => [(y, .d b), (x, .d a)]
  | _ => []
theorem pc_get {ps : List Pc} {k : Nat} {d : V} (h : ((encP ps).map V.d)[k]? = some d) : ∃ p, ps[k]? = some p ∧ d = .d (.tuple [.str (S (kn p.1)), .str (S p.2)]) := by
  unfold encP at h
  rw [List.map_map, List.getElem?_map] at h
  cases hp : ps[k]? with
  | none => rw [hp] at h; cases h
  | some p => rw [hp] at h; cases h; exact ⟨p, rfl, rfl⟩

section
variable {w : World} {os : OsState} {mg mb : Str → Option Value}
theorem f_law (X : Gd w mg mb) (ns : List Int) (hn : ns.length ≤ 63) : Fun (C0 w os mg mb) 81 (9 + 1) [.d (.list (ns.map PyData.int))] (vb true) := by
  refine Fun.of_body at_law (xs := ["script"]) (fun pm doc vals hl => ?_) rfl (by decide) (fun x hx => ?_) (fun A hR => ?_)
  · obtain ⟨v, rfl⟩ := one_val hl
    with_unfolding_all rfl
  · rw [List.mem_singleton] at hx; subst hx; rfl
  · have hs := sizeLine_eq
    have hc := cLine_is
    have hu : A.units + 64 < cLine := by have := hR.2.2; omega
    generalize ht : ns.map (sgn T05) = t
    have htl : t.length ≤ 63 := by rw [← ht, List.length_map]; exact hn
    have hto : Okl t := by
      rw [← ht]; intro c hc
      obtain ⟨n, _, rfl⟩ := List.mem_map.mp hc
      exact sgn_lt (by decide) n
    have hfl : (ns.map fun n => [sgn T05 n]).flatten = t := by rw [flat_one, ht]
    refine Ex.assign (d := vs t) (Ev.meth (dv := vs []) (ds := [.d (.list ((ns.map fun n => [sgn T05 n]).map fun l => .str (S l)))]) (Ev.str rfl) (OfT.str _) F.plainAttrs_str F.slot_str_join F.type_str_join (Evs.cons ?_ Evs.nil) (fun ov vals hl => ?_)) ?_
    · refine Ev.listcomp (ext := fun _ d => [("number", d)]) (Starts.list (Ev.name rfl) hR.1) (by simp) (by simp; omega) (fun L k d hd => Asg.name) (fun L k d x hd hx => ?_)
      rw [List.getElem?_map, List.getElem?_map] at hd
      rw [List.getElem?_map, List.getElem?_map] at hx
      cases hc : ns[k]? with
      | none => rw [hc] at hd; cases hd
      | some n =>
        rw [hc] at hd hx
        cases hd; cases hx
        exact Ev.fn (f_sign X n) (g_sign X) at_sign.callee (hR.le (by decide)) (Evs.cons (Ev.name rfl) Evs.nil)
    · obtain ⟨v, rfl⟩ := one_val hl
      have := Op.join (C := C0 w os mg mb) (A := A) (v₁ := ov) (v₂ := v) (ls := ns.map fun n => [sgn T05 n]) (by rw [hfl]; omega)
      rw [hfl] at this
      exact this
    have hul : ([97, 91, 10, 98, 91, 99] ++ t ++ [93, 100, 91, 101]).length ≤ 73 := by simp; omega
    have huo : Okl ([97, 91, 10, 98, 91, 99] ++ t ++ [93, 100, 91, 101]) := (Okl.append (by unfold Okl; decide) hto).append (by unfold Okl; decide)
    refine Ex.for (fun _ => []) (fun _ => none) (ext := fun _ d => [("asked", d)]) (items := [PyData.str (S t), .str (S ([97, 91, 10, 98, 91, 99] ++ t ++ [93, 100, 91, 101]))].map V.d)
      (Starts.tuple (Ev.tuple (Evs.cons (Ev.name rfl) (Evs.cons (Ev.bin (Ev.bin (Ev.str (l := [97, 91, 10, 98, 91, 99]) (by decide +kernel)) (Ev.name rfl) fun _ _ => Op.add (by simp; omega)) (Ev.str (l := [93, 100, 91, 101]) (by decide +kernel)) fun _ _ => Op.add (by simp; omega)) Evs.nil)) (by simp)) hR.1)
      (fun x d h => nomatch h) rfl (fun k d hd => Asg.name) (fun k d hd => ?_) ?_
    · obtain ⟨u, rfl, hl, ho⟩ : ∃ u, d = vs u ∧ u.length ≤ 73 ∧ Okl u := by
        have := List.mem_of_getElem? hd
        simp only [List.map_cons, List.map_nil, List.mem_cons, List.not_mem_nil, or_false] at this
        rcases this with rfl | rfl
        · exact ⟨t, rfl, by omega, hto⟩
        · exact ⟨_, rfl, hul, huo⟩
      have B := bounds u
      have W := law05 u
      have hmade := B.made
      have hbare := B.bare
      have hpu : ∀ p ∈ readOf u, p.2.length ≤ 73 := by
        rw [readOf_pcs]
        exact len_pieces (by rw [flat_tot]; exact Nat.le_trans (pcs_tot _ u (Nat.le_refl _)).1 hl)
      have hpw : ∀ p ∈ byParts u, p.2.length ≤ 292 := len_pieces (by omega)
      have hcu : (readOf u).length ≤ 73 := by
        rw [readOf_pcs]
        have h1 := finds_len u _ 0 (Nat.le_refl _) (Nat.zero_le _)
        unfold pcs
        rw [List.length_map]; omega
      have hne : ∀ ps : List Pc, Raw ps → ps.length ≤ (flat ps).length := by
        intro ps
        induction ps with
        | nil => intro _; exact Nat.le_refl _
        | cons p ps ih =>
          obtain ⟨k, q⟩ := p
          intro h
          rw [flat_cons, List.length_append, List.length_cons]
          cases k with
          | run =>
            have := ih h.2.2
            have := List.length_pos_iff.mpr h.1
            show _ ≤ q.length + _
            omega
          | set =>
            have := ih h.2
            obtain ⟨v, hv, _⟩ := h.1
            have : 0 < q.length := by rw [hv]; exact Nat.succ_pos _
            show _ ≤ q.length + _
            omega
          | opn =>
            obtain ⟨⟨v, hv, _⟩, rfl⟩ := h
            have : 0 < q.length := by rw [hv]; exact Nat.succ_pos _
            show _ ≤ q.length + _
            simp; omega
      have hcw : (byParts u).length ≤ 292 := by
        have h1 := hne _ (raw_pcs _ (flat (byParts u)) (Nat.le_refl _))
        rw [← readOf_pcs, W.read] at h1
        omega
      refine Ex.assign (Ev.fn (f_parts X u (by omega)) (g_parts X) at_parts.callee (hR.le (by decide)) (Evs.cons (Ev.name rfl) Evs.nil)) ?_
      refine Ex.assign (d := vs (flat (byParts u))) (Ev.meth (dv := vs []) (ds := [.d (.list ((((readOf u).map mkp).map (·.2)).map fun l => .str (S l)))]) (Ev.str rfl) (OfT.str _) F.plainAttrs_str F.slot_str_join F.type_str_join (Evs.cons ?_ Evs.nil) (fun ov vals hl => ?_)) ?_
      · refine Ev.listcomp (ext := extP "kind" "piece") (Starts.list (Ev.fn (f_read X u (by omega)) (g_read X) at_read.callee (hR.le (by decide)) (Evs.cons (Ev.name rfl) Evs.nil)) hR.1) (by simp [encP]) (by simp; omega) (fun L k d hd => ?_) (fun L k d x hd hx => ?_)
        · obtain ⟨p, hp, rfl⟩ := pc_get hd
          exact Asg.tuple (Asgs.cons Asg.name (Asgs.cons Asg.name Asgs.nil)) hR.1
        · obtain ⟨p, hp, rfl⟩ := pc_get hd
          rw [List.map_map, List.map_map, List.getElem?_map, hp] at hx
          cases hx
          have := hpu p (List.mem_of_getElem? hp)
          exact Ev.fn (f_mark X p.1 p.2 (by omega)) (g_mark X) at_mark.callee (hR.le (by decide)) (Evs.cons (Ev.name rfl) (Evs.cons (Ev.name rfl) Evs.nil))
      · obtain ⟨v, rfl⟩ := one_val hl
        have e : (((readOf u).map mkp).map (·.2)).flatten = flat (byParts u) := W.made
        rw [← e]
        exact Op.join (by rw [e]; omega)
      -- ''.join([piece for _, piece in wanted])
      refine Ex.cond (Tst.neq (a := .str (S (flat (byParts u)))) (Ev.name rfl) (Ev.meth (dv := vs []) (d := vs (flat (byParts u))) (ds := [.d (.list (((byParts u).map (·.2)).map fun l => .str (S l)))]) (Ev.str rfl) (OfT.str _) F.plainAttrs_str F.slot_str_join F.type_str_join (Evs.cons ?_ Evs.nil) (fun ov vals hl => ?_))
        (shaped_str (B.ok ho)) (eqv_str _) hu) (fun h => nomatch h) fun _ => ?_
      · refine Ev.listcomp (ext := extP "_" "piece") (Starts.list (Ev.name rfl) hR.1) (by simp [encP]) (by simp; omega) (fun L k d hd => ?_) (fun L k d x hd hx => ?_)
        · obtain ⟨p, hp, rfl⟩ := pc_get hd
          exact Asg.tuple (Asgs.cons Asg.name (Asgs.cons Asg.name Asgs.nil)) hR.1
        · obtain ⟨p, hp, rfl⟩ := pc_get hd
          rw [List.map_map, List.getElem?_map, hp] at hx
          cases hx
          exact Ev.name rfl
      · obtain ⟨v, rfl⟩ := one_val hl
        exact Op.join (by show (flat (byParts u)).length ≤ _; omega)
      have F2 := f_read (os := os) X (flat (byParts u)) (by omega)
      rw [W.read] at F2
      refine Ex.cond (Tst.neq (a := .list (encP (byParts u))) (Ev.fn F2 (g_read X) at_read.callee (hR.le (by decide)) (Evs.cons (Ev.name rfl) Evs.nil)) (Ev.name rfl) (shaped_pc (okl_pieces (B.ok ho))) (eqv_pc _) hu) (fun h => nomatch h) fun _ => ?_
      refine Ex.assignComp (ds := encP ((byParts u).map unmkp)) (ext := extP "kind" "piece") (Starts.list (Ev.name rfl) hR.1) (by simp [encP]) (by simp [encP]; omega) (fun L k d hd => ?_) (fun L k d x hd hx => ?_) ?_
      · obtain ⟨p, hp, rfl⟩ := pc_get hd
        exact Asg.tuple (Asgs.cons Asg.name (Asgs.cons Asg.name Asgs.nil)) hR.1
      · obtain ⟨p, hp, rfl⟩ := pc_get hd
        unfold encP at hx
        rw [List.map_map, List.getElem?_map, hp] at hx
        cases hx
        have := hpw p (List.mem_of_getElem? hp)
        exact Ev.tuple (Evs.cons (Ev.name rfl) (Evs.cons (Ev.fn (f_unmark X p.1 p.2 (by omega)) (g_unmark X) at_unmark.callee (hR.le (by decide)) (Evs.cons (Ev.name rfl) (Evs.cons (Ev.name rfl) Evs.nil))) Evs.nil)) (by simp)
      have F3 := f_read (os := os) X (flat ((byParts u).map unmkp)) (by omega)
      rw [W.bare] at F3
      refine Ex.cond (Tst.neq (a := .list (encP ((byParts u).map unmkp))) (Ev.fn F3 (g_read X) at_read.callee (hR.le (by decide)) (Evs.cons (Ev.meth (dv := vs []) (d := vs (flat ((byParts u).map unmkp))) (ds := [.d (.list ((((byParts u).map unmkp).map (·.2)).map fun l => .str (S l)))]) (Ev.str rfl) (OfT.str _) F.plainAttrs_str F.slot_str_join F.type_str_join (Evs.cons ?_ Evs.nil) (fun ov vals hl => ?_)) Evs.nil))
        (Ev.name rfl) (shaped_pc (okl_pieces (B.okb ho))) (eqv_pc _) hu) (fun h => nomatch h) fun _ => ?_
      · refine Ev.listcomp (ext := extP "_" "piece") (Starts.list (Ev.name rfl) hR.1) (by simp [encP]) (by simp; omega) (fun L k d hd => ?_) (fun L k d x hd hx => ?_)
        · obtain ⟨p, hp, rfl⟩ := pc_get hd
          exact Asg.tuple (Asgs.cons Asg.name (Asgs.cons Asg.name Asgs.nil)) hR.1
        · obtain ⟨p, hp, rfl⟩ := pc_get hd
          rw [List.map_map, List.getElem?_map, hp] at hx
          cases hx
          exact Ev.name rfl
      · obtain ⟨v, rfl⟩ := one_val hl
        exact Op.join (by show (flat ((byParts u).map unmkp)).length ≤ _; omega)
      exact Ex.nil ⟨rfl, fun x d h => (nomatch h), rfl⟩
    · exact Ex.ret Ev.bool rfl

theorem all05 : PySem.Challenge.rw_kn0113_05.Holds := by
  refine Mine.hd fun w s₀ s₁ mg mb G Y a ha hg args vals as hpre hlay hrd => ?_
  obtain ⟨ns, rfl, hn⟩ := law_args rfl rfl hpre
  obtain ⟨v, rfl, bs, hr⟩ := reads_script hrd
  have hK : (K0 w).In s₁.heap := kIn_of Y
  have X : Gd w mg mb := ⟨⟨_, hK, G.T.g⟩, G.T.builtins⟩
  obtain rfl : a = 81 := by
    have := ha.symm.trans (g_law X)
    cases this; rfl
  have k0 : ∀ b o, s₁.heap.get? b = some o → (er s₁.heap []).get? b = some o := fun b o e => er_of (by simp) e
  have B : Bs (C0 w s₁.os mg mb) [] s₁ := ⟨⟨Frag.In.keeps hK k0, G.T.g.keeps k0, G.T.b.keeps k0, G.T.nolimit.keeps k0⟩, hg, rfl, fun a ha => nomatch ha⟩
  refine wpC_mono ((f_law (os := s₁.os) X ns hn callerA [v] (room_caller (by decide)) rfl).go [] s₁ B fun p hp => ?_) (fun v' s' h => ?_) fun _ _ x => x
  · simp only [List.zip_cons_cons, List.zip_nil_left, List.mem_singleton] at hp
    subst hp
    exact ⟨bs, Reads.keeps k0 hr⟩
  · obtain ⟨k, r⟩ := h
    obtain rfl := r.bool
    exact law_end k hg
end
end Mine

end

theorem PySem.Challenge.cw_kn0113_05_holds : PySem.Challenge.rw_kn0113_05.Holds :=
  Mine.all05
