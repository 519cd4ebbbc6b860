import PyProof.Rows.All
import Wide.All
import OpenK.AllK
import Wide.FinOn
import PySem.Challenge.RW_dn0015_01
set_option Elab.async false
section PartQ1
namespace Mine
/-- the worth of a figure of base 16; 16 for any other octet -/
def fig (c : Nat) : Nat :=
  if 48 ≤ c ∧ c ≤ 57 then c - 48 else if 65 ≤ c ∧ c ≤ 70 then c - 55 else if 97 ≤ c ∧ c ≤ 102 then c - 87 else 16
def hexB (c : UInt8) : Bool := decide (fig c.toNat < 16)
def us (c : UInt8) : UInt8 := if c = 95 then 32 else c
def two (a d : UInt8) : UInt8 := (fig a.toNat * 16 + fig d.toNat).toUInt8
def esc : List UInt8 → Bool
  | a :: d :: _ => hexB a && hexB d
  | _ => false
def two2 : List UInt8 → UInt8
  | a :: d :: _ => two a d
  | _ => 0
/-- the walk from the last octet to the first -/
def rd : List UInt8 → List UInt8
  | [] => []
  | c :: cs => if c = 61 ∧ esc cs = true then two2 cs :: (rd cs).drop 2 else us c :: rd cs
/-- the substitution from the first octet to the last -/
def qs : List UInt8 → List UInt8
  | [] => []
  | c :: cs => if c = 61 ∧ esc cs = true then two2 cs :: qs (cs.drop 2) else c :: qs cs
termination_by l => l.length
decreasing_by all_goals (simp only [List.length_cons, List.length_drop]; omega)
theorem hex_us (a : UInt8) : hexB (us a) = hexB a := by
  unfold us; split
  · subst_vars; decide
  · rfl
theorem hex_us_eq {a : UInt8} (h : hexB a = true) : us a = a := by
  unfold us; split
  · subst_vars; revert h; decide
  · rfl
theorem us_61 (c : UInt8) : us c = 61 ↔ c = 61 := by
  unfold us; split
  · subst_vars; decide
  · exact Iff.rfl
theorem hex_ne61 {a : UInt8} (h : hexB a = true) : a ≠ 61 := by intro e; subst e; revert h; decide
theorem esc_us : ∀ l : List UInt8, esc (l.map us) = esc l
  | [] => rfl
  | [_] => rfl
  | a :: d :: r => by simp only [List.map_cons, esc, hex_us]
theorem esc_out : ∀ {l : List UInt8}, esc l = true → ∃ a d r, l = a :: d :: r ∧ hexB a = true ∧ hexB d = true
  | [], h => by cases h
  | [_], h => by cases h
  | a :: d :: r, h => ⟨a, d, r, rfl, by simpa [esc] using h⟩
theorem qs_rd : ∀ (n : Nat) (l : List UInt8), l.length ≤ n → qs (l.map us) = rd l
  | _, [], _ => by simp [qs, rd]
  | 0, _ :: _, h => by simp at h
  | n + 1, c :: cs, h => by
    have hn : cs.length ≤ n := by simp only [List.length_cons] at h; omega
    rw [List.map_cons, qs, rd, esc_us]
    have hu := us_61 c
    by_cases hc : c = 61 ∧ esc cs = true
    · rw [if_pos ⟨hu.mpr hc.1, hc.2⟩, if_pos hc]
      obtain ⟨a, d, r, rfl, ha, hd⟩ := esc_out hc.2
      simp only [List.map_cons, List.drop_succ_cons, List.drop_zero, two2, hex_us_eq ha, hex_us_eq hd]
      rw [qs_rd n r (by simp only [List.length_cons] at hn; omega), rd, if_neg (fun x => hex_ne61 ha x.1), rd, if_neg (fun x => hex_ne61 hd x.1)]
      rfl
    · rw [if_neg (fun x => hc ⟨hu.mp x.1, x.2⟩), if_neg hc, qs_rd n cs hn]
theorem rd_len : ∀ l : List UInt8, (rd l).length ≤ l.length
  | [] => Nat.le_refl _
  | c :: cs => by
    have := rd_len cs
    rw [rd]; split
    · simp only [List.length_cons, List.length_drop]; omega
    · simp only [List.length_cons]; omega
/-- behind two figures the walk has laid them as they are -/
theorem rd_hex {a d : UInt8} {r : List UInt8} (ha : hexB a = true) (hd : hexB d = true) : rd (a :: d :: r) = a :: d :: rd r := by
  rw [rd, if_neg (fun x => hex_ne61 ha x.1), rd, if_neg (fun x => hex_ne61 hd x.1), hex_us_eq ha, hex_us_eq hd]
end Mine

end PartQ1
section PartR1
namespace Mine
open PySem PySem.Sre
set_option maxRecDepth 10000
abbrev CD : Array Nat := #[14, 8, 1, 3, 3, 1, 1, 61, 0, 16, 61, 17, 0, 24, 16, 2, 2, 13, 11, 9, 0, 67043328, 126, 126, 0, 0, 0, 0, 0, 1, 17, 1, 1]
abbrev fr0 (s : Nat) (o : Bool) : Sre.Frame := { wait := .nextStart, pc := 9, pos := s, outermost := o }
abbrev st (T : Array Nat) (n s : Nat) (o : Bool) (mk : Array (Option Nat)) (sn : Seen) : M :=
  { code := CD, text := T, lim := n, start := s, lastStart := n, pc := 9, pos := s, handed := s, outermost := o, marks := mk, frames := [fr0 s o], weight := 1, seen := sn }
/-- the machine with its answer, at the one frame -/
abbrev no (T : Array Nat) (n s : Nat) (o : Bool) (mk : Array (Option Nat)) (sn : Seen) (pc pos hd : Nat) (lm li : Int) : M :=
  { code := CD, text := T, lim := n, start := s, lastStart := n, pc := pc, pos := pos, handed := hd, outermost := o, marks := mk, lastmark := lm, lastindex := li, frames := [fr0 s o], weight := 1, seen := sn, answer := some false }
theorem step_next {T : Array Nat} {n s : Nat} {o : Bool} {mk : Array (Option Nat)} {sn : Seen} {pc pos hd : Nat} {lm li : Int} (h : s < n) :
    (no T n s o mk sn pc pos hd lm li).step = st T n (s + 1) false mk sn := by
  unfold M.step
  simp only [Option.isSome_none, Bool.false_eq_true, if_false]
  unfold M.resume
  simp only [Bool.false_eq_true, if_false]
  rw [if_pos (by exact h)]
  rfl
theorem step_last {T : Array Nat} {n s : Nat} {o : Bool} {mk : Array (Option Nat)} {sn : Seen} {pc pos hd : Nat} {lm li : Int} (h : ¬ s < n) :
    ((no T n s o mk sn pc pos hd lm li).step.step).outcome = some .failed := by
  have : (no T n s o mk sn pc pos hd lm li).step = { no T n s o mk sn 9 s hd lm li with frames := [], weight := 0 } := by
    unfold M.step
    simp only [Option.isSome_none, Bool.false_eq_true, if_false]
    unfold M.resume
    simp only [Bool.false_eq_true, if_false]
    rw [if_neg (by exact h)]
    rfl
  rw [this]
  rfl
theorem lit_end {T : Array Nat} {n s : Nat} {o : Bool} {mk : Array (Option Nat)} {sn : Seen} (h : n ≤ s) :
    (st T n s o mk sn).step = no T n s o mk (sn.add 16) 9 s s (-1) (-1) := by
  show (if s ≥ n then _ else _ : M) = _
  rw [if_pos h]
  rfl
theorem lit_no {T : Array Nat} {n s : Nat} {o : Bool} {mk : Array (Option Nat)} {sn : Seen} (h : ¬ n ≤ s) (hc : T.getD s 0 ≠ 61) :
    (st T n s o mk sn).step = no T n s o mk (sn.add 16) 9 s s (-1) (-1) := by
  have e : (T.getD s 0 == 61) = false := by simpa using hc
  show (if s ≥ n then _ else match (Except.ok (T.getD s 0 == 61, sn.add 16) : Except String (Bool × Seen)) with | .error why => _ | .ok (false, seen) => _ | .ok (true, seen) => _ : M) = _
  rw [if_neg h, e]
  rfl

/-- behind the sign and the first mark -/
abbrev md (T : Array Nat) (n s : Nat) (o : Bool) (mk : Array (Option Nat)) (sn : Seen) : M :=
  { code := CD, text := T, lim := n, start := s, lastStart := n, pc := 13, pos := s + 1, handed := s, outermost := o, marks := mk.setIfInBounds 0 (some (s + 1)), lastmark := 0, lastindex := -1, frames := [fr0 s o], weight := 1, seen := sn }
theorem lit_yes {T : Array Nat} {n s : Nat} {o : Bool} {mk : Array (Option Nat)} {sn : Seen} (h : ¬ n ≤ s) (hc : T.getD s 0 = 61) :
    (st T n s o mk sn).step.step = md T n s o mk ((sn.add 16).add 17) := by
  have e : (T.getD s 0 == 61) = true := by simpa using hc
  have e1 : (st T n s o mk sn).step = { st T n s o mk (sn.add 16) with pc := 11, pos := s + 1 } := by
    show (if s ≥ n then _ else match (Except.ok (T.getD s 0 == 61, sn.add 16) : Except String (Bool × Seen)) with | .error why => _ | .ok (false, seen) => _ | .ok (true, seen) => _ : M) = _
    rw [if_neg h, e]
    rfl
  rw [e1]
  rfl
theorem bit_hex : ∀ c : Nat, c < 256 → (CD.getD (20 + c / 32) 0).testBit (c % 32) = decide (fig c < 16) := by decide +kernel
theorem acc_hex {c : Nat} (h : c < 256) (sn : Seen) : ∃ sn', accepts CD 17 c sn = .ok (decide (fig c < 16), sn') := by
  have hb := bit_hex c h
  have e : accepts CD 17 c sn = (if (decide (c < 256) && (CD.getD (19 + (1 + c / 32)) 0).testBit (c % 32)) = true then .ok (true, sn.add 9) else .ok (!true, (sn.add 9).add 0)) := rfl
  rw [e, show 19 + (1 + c / 32) = 20 + c / 32 by omega, hb, decide_eq_true h, Bool.true_and]
  by_cases hf : fig c < 16
  · rw [if_pos (by simpa using hf), decide_eq_true hf]; exact ⟨_, rfl⟩
  · rw [if_neg (by simpa using hf), decide_eq_false hf]; exact ⟨_, rfl⟩
theorem run_two {T : Array Nat} {p : Nat} (h1 : T.getD p 0 < 256) (h2 : T.getD (p + 1) 0 < 256) (sn : Seen) :
    ∃ k sn', Sre.run CD T 17 2 p 0 sn = .ok (k, sn') ∧ k ≤ 2 ∧ (k = 2 ↔ fig (T.getD p 0) < 16 ∧ fig (T.getD (p + 1) 0) < 16) := by
  obtain ⟨s1, e1⟩ := acc_hex h1 sn
  obtain ⟨s2, e2⟩ := acc_hex h2 s1
  have e : Sre.run CD T 17 2 p 0 sn = (accepts CD 17 (T.getD p 0) sn >>= fun x => if x.1 = true then Sre.run CD T 17 1 (p + 1) 1 x.2 else pure (0, x.2)) := rfl
  rw [e, e1]
  show ∃ k sn', (if decide (fig (T.getD p 0) < 16) = true then Sre.run CD T 17 1 (p + 1) 1 s1 else pure (0, s1)) = _ ∧ _
  by_cases hf : fig (T.getD p 0) < 16
  · rw [if_pos (by simpa using hf)]
    have e' : Sre.run CD T 17 1 (p + 1) 1 s1 = (accepts CD 17 (T.getD (p + 1) 0) s1 >>= fun x => if x.1 = true then Sre.run CD T 17 0 (p + 1 + 1) 2 x.2 else pure (1, x.2)) := rfl
    rw [e', e2]
    show ∃ k sn', (if decide (fig (T.getD (p + 1) 0) < 16) = true then Sre.run CD T 17 0 (p + 1 + 1) 2 s2 else pure (1, s2)) = _ ∧ _
    by_cases hg : fig (T.getD (p + 1) 0) < 16
    · rw [if_pos (by simpa using hg)]
      exact ⟨2, s2, rfl, Nat.le_refl _, fun _ => ⟨hf, hg⟩, fun _ => rfl⟩
    · rw [if_neg (by simpa using hg)]
      exact ⟨1, s2, rfl, by omega, fun x => by omega, fun x => absurd x.2 hg⟩
  · rw [if_neg (by simpa using hf)]
    exact ⟨0, s1, rfl, by omega, fun x => by omega, fun x => absurd x.1 hf⟩
theorem rep_short {T : Array Nat} {n s : Nat} {o : Bool} {mk : Array (Option Nat)} {sn : Seen} (h : n < s + 3) :
    (md T n s o mk sn).step = no T n s o (mk.setIfInBounds 0 (some (s + 1))) (sn.add 24) 13 (s + 1) s 0 (-1) := by
  show (if ((2 : Nat) : Int) > (n : Int) - ((s + 1 : Nat) : Int) then _ else _ : M) = _
  rw [if_pos (by omega)]
  rfl
/-- behind the two figures -/
abbrev md2 (T : Array Nat) (n s : Nat) (o : Bool) (mk : Array (Option Nat)) (sn : Seen) : M :=
  { code := CD, text := T, lim := n, start := s, lastStart := n, pc := 30, pos := s + 1 + 2, handed := s + 1 + 2, outermost := o, marks := mk.setIfInBounds 0 (some (s + 1)), lastmark := 0, lastindex := -1,
    frames := [{ wait := .giveBack, pc := 13, pos := s + 1 + 2, outermost := o, count := 2, kept := { lastmark := 0, lastindex := -1 } }, fr0 s o], weight := 2, seen := sn }
theorem rep_step {T : Array Nat} {n s : Nat} {o : Bool} {mk : Array (Option Nat)} {sn : Seen} (h : ¬ n < s + 3) {k : Nat} {sn' : Seen} (hr : Sre.run CD T 17 2 (s + 1) 0 ((sn.add 24).add 13) = .ok (k, sn')) :
    (md T n s o mk sn).step = if k < 2 then no T n s o (mk.setIfInBounds 0 (some (s + 1))) sn' 13 (s + 1) s 0 (-1) else
      ({ md T n s o mk sn' with pos := s + 1 + k } : M).afterRun .giveBack k { lastmark := 0, lastindex := -1 } := by
  show (if ((2 : Nat) : Int) > (n : Int) - ((s + 1 : Nat) : Int) then _ else
    match Sre.run CD T 17 (min 2 ((n : Int) - ((s + 1 : Nat) : Int)).toNat) (s + 1) 0 ((sn.add 24).add 13) with | .error why => _ | .ok (n, seen) => _ : M) = _
  rw [if_neg (by omega), show min 2 ((n : Int) - ((s + 1 : Nat) : Int)).toNat = 2 by omega, hr]
  rfl
theorem rep_yes {T : Array Nat} {n s : Nat} {o : Bool} {mk : Array (Option Nat)} {sn : Seen} (h : ¬ n < s + 3) {sn' : Seen} (hr : Sre.run CD T 17 2 (s + 1) 0 ((sn.add 24).add 13) = .ok (2, sn')) :
    (md T n s o mk sn).step = md2 T n s o mk sn' := by
  rw [rep_step h hr]
  rfl
theorem fin_yes {T : Array Nat} {n s : Nat} {o : Bool} {mk : Array (Option Nat)} {sn : Seen} :
    ∃ m : M, (md2 T n s o mk sn).step.step.step.step.step = m ∧ (md2 T n s o mk sn).step.step.step.step.outcome = none ∧ (md2 T n s o mk sn).step.step.step.outcome = none ∧ (md2 T n s o mk sn).step.step.outcome = none ∧ (md2 T n s o mk sn).step.outcome = none ∧ m.outcome = some .matched ∧ m.start = s ∧ m.handed = s + 3 ∧ m.lastmark = 1 ∧ m.lastindex = 1 ∧
      m.marks = (mk.setIfInBounds 0 (some (s + 1))).setIfInBounds 1 (some (s + 3)) := by
  have e1 : (md2 T n s o mk sn).step.step = { md2 T n s o mk ((sn.add 17).add 1) with pc := 32, marks := (mk.setIfInBounds 0 (some (s + 1))).setIfInBounds 1 (some (s + 1 + 2)), lastmark := 1, lastindex := 1, answer := some true } := by
    have e0 : (md2 T n s o mk sn).step = { md2 T n s o mk (sn.add 17) with pc := 32, marks := (mk.setIfInBounds 0 (some (s + 1))).setIfInBounds 1 (some (s + 1 + 2)), lastmark := 1, lastindex := 1 } := by
      show ({ md2 T n s o mk (sn.add 17) with seen := sn.add 17 } : M).mark 1 = _
      unfold M.mark
      rw [if_pos (by show (1 : Int) ≤ 0 + 1; decide)]
      rfl
    rw [e0]
    show (if (o && ((false && (s + 1 + 2 != n)) || (false && (s + 1 + 2 == s)))) = true then _ else _ : M) = _
    rw [if_neg (by simp)]
    rfl
  refine ⟨_, rfl, ?_⟩
  rw [e1]
  exact ⟨rfl, rfl, rfl, rfl, rfl, rfl, rfl, rfl, rfl, rfl⟩

theorem runFor_step {m : M} (h : m.outcome = none) (k : Nat) : M.runFor (k + 1) m = M.runFor k m.step := by
  rw [M.runFor, h]; rfl
theorem runFor_add : ∀ (a b : Nat) (m : M), M.runFor (a + b) m = M.runFor b (M.runFor a m)
  | 0, b, m => by rw [Nat.zero_add]; rfl
  | a + 1, b, m => by
    cases h : m.outcome with
    | none => rw [Nat.succ_add, runFor_step h, runFor_step h, runFor_add a b]
    | some x =>
      have e : ∀ j, M.runFor j m = m := by
        intro j; cases j with
        | zero => rfl
        | succ j => rw [M.runFor, h]; rfl
      rw [e, e, e]
theorem runFor_done {m : M} (h : m.outcome.isSome = true) : ∀ j, M.runFor j m = m
  | 0 => rfl
  | j + 1 => by rw [M.runFor, if_pos h]
/-- an escape stands at place s -/
def mt (T : Array Nat) (n s : Nat) : Prop := s + 3 ≤ n ∧ T.getD s 0 = 61 ∧ fig (T.getD (s + 1) 0) < 16 ∧ fig (T.getD (s + 2) 0) < 16
theorem miss_step {T : Array Nat} {n s : Nat} {o : Bool} {mk : Array (Option Nat)} {sn : Seen} (hT : ∀ i, T.getD i 0 < 256) (hm : ¬ mt T n s) :
    ∃ k pc pos hd lm li mk' sn', k ≤ 3 ∧ mk'.size = mk.size ∧ M.runFor k (st T n s o mk sn) = no T n s o mk' sn' pc pos hd lm li := by
  by_cases h1 : n ≤ s
  · exact ⟨1, _, _, _, _, _, _, _, by omega, rfl, (runFor_step rfl 0).trans (lit_end h1)⟩
  by_cases h2 : T.getD s 0 = 61
  · have e2 := lit_yes (o := o) (mk := mk) (sn := sn) h1 h2
    have e0 : M.runFor 3 (st T n s o mk sn) = (st T n s o mk sn).step.step.step := by
      rw [runFor_step rfl]
      have o1 : (st T n s o mk sn).step.outcome = none := by
        show (if s ≥ n then _ else match (Except.ok (T.getD s 0 == 61, sn.add 16) : Except String (Bool × Seen)) with | .error why => _ | .ok (false, seen) => _ | .ok (true, seen) => _ : M).outcome = _
        rw [if_neg h1, h2]; rfl
      rw [runFor_step o1, runFor_step (by rw [e2])]
      rfl
    by_cases h3 : n < s + 3
    · exact ⟨3, _, _, _, _, _, _, _, by omega, by simp, e0.trans ((congrArg M.step e2).trans (rep_short h3))⟩
    · obtain ⟨k, sn', hr, hk, hk2⟩ := run_two (p := s + 1) (hT _) (hT _) ((((sn.add 16).add 17).add 24).add 13)
      have hlt : k < 2 := by
        rcases Nat.lt_or_ge k 2 with h | h
        · exact h
        · exact absurd ⟨by omega, h2, hk2.mp (by omega)⟩ hm
      refine ⟨3, _, _, _, _, _, _, _, by omega, by simp, e0.trans ((congrArg M.step e2).trans ((rep_step h3 hr).trans (if_pos hlt)))⟩
  · exact ⟨1, _, _, _, _, _, _, _, by omega, rfl, (runFor_step rfl 0).trans (lit_no h1 h2)⟩
theorem hit_step {T : Array Nat} {n s : Nat} {o : Bool} {mk : Array (Option Nat)} {sn : Seen} (hT : ∀ i, T.getD i 0 < 256) (hm : mt T n s) :
    ∃ m : M, M.runFor 8 (st T n s o mk sn) = m ∧ m.outcome = some .matched ∧ m.start = s ∧ m.handed = s + 3 ∧ m.lastmark = 1 ∧ m.lastindex = 1 ∧ m.marks = (mk.setIfInBounds 0 (some (s + 1))).setIfInBounds 1 (some (s + 3)) := by
  obtain ⟨hn, h2, hf⟩ := hm
  have h1 : ¬ n ≤ s := by omega
  have e2 := lit_yes (o := o) (mk := mk) (sn := sn) h1 h2
  have o1 : (st T n s o mk sn).step.outcome = none := by
    show (if s ≥ n then _ else match (Except.ok (T.getD s 0 == 61, sn.add 16) : Except String (Bool × Seen)) with | .error why => _ | .ok (false, seen) => _ | .ok (true, seen) => _ : M).outcome = _
    rw [if_neg h1, h2]; rfl
  obtain ⟨k, sn', hr, hk, hk2⟩ := run_two (p := s + 1) (hT _) (hT _) ((((sn.add 16).add 17).add 24).add 13)
  have e3 : k = 2 := hk2.mpr hf
  subst e3
  have h3 : ¬ n < s + 3 := by omega
  obtain ⟨m, em, p4, p3, p2, p1, rest⟩ := fin_yes (T := T) (n := n) (s := s) (o := o) (mk := mk) (sn := sn')
  refine ⟨m, ?_, rest⟩
  rw [runFor_step rfl, runFor_step o1, e2, runFor_step rfl, rep_yes h3 hr, runFor_step rfl, runFor_step p1, runFor_step p2, runFor_step p3, runFor_step p4]
  exact em
def Told (T : Array Nat) (n s : Nat) (m : M) : Prop :=
  (∃ i, s ≤ i ∧ mt T n i ∧ (∀ j, s ≤ j → j < i → ¬ mt T n j) ∧ m.outcome = some .matched ∧ m.start = i ∧ m.handed = i + 3 ∧ m.lastmark = 1 ∧ m.lastindex = 1 ∧ m.marks = #[some (i + 1), some (i + 3)]) ∨
  ((∀ j, s ≤ j → ¬ mt T n j) ∧ m.outcome = some .failed)
theorem marks_two {mk : Array (Option Nat)} (h : mk.size = 2) (a b : Option Nat) : (mk.setIfInBounds 0 a).setIfInBounds 1 b = #[a, b] := by
  obtain ⟨l⟩ := mk
  match l, h with
  | [x, y], _ => rfl
theorem search_runs {T : Array Nat} {n : Nat} (hT : ∀ i, T.getD i 0 < 256) : ∀ (d s : Nat) (o : Bool) (mk : Array (Option Nat)) (sn : Seen), n = s + d → mk.size = 2 →
    ∃ k, k ≤ 8 * (d + 1) ∧ Told T n s (M.runFor k (st T n s o mk sn)) := by
  intro d
  induction d with
  | zero =>
    intro s o mk sn hn hk
    have hm : ∀ j, s ≤ j → ¬ mt T n j := fun j hj h => by have := h.1; omega
    obtain ⟨k, pc, pos, hd, lm, li, mk', sn', k3, hsz, e⟩ := miss_step (o := o) (mk := mk) (sn := sn) hT (hm s (Nat.le_refl _))
    refine ⟨k + 2, by omega, .inr ⟨hm, ?_⟩⟩
    rw [runFor_add, e]
    have o1 : (no T n s o mk' sn' pc pos hd lm li).step.outcome = none := by
      unfold M.step
      simp only [Option.isSome_none, Bool.false_eq_true, if_false]
      unfold M.resume
      simp only [Bool.false_eq_true, if_false]
      rw [if_neg (by show ¬ s < n; omega)]
      rfl
    rw [runFor_step rfl, runFor_step o1]
    exact step_last (by omega)
  | succ d ih =>
    intro s o mk sn hn hk
    by_cases hm : mt T n s
    · obtain ⟨m, em, h1, h2, h3, h4, h5, h6⟩ := hit_step (o := o) (mk := mk) (sn := sn) hT hm
      refine ⟨8, by omega, .inl ⟨s, Nat.le_refl _, hm, fun j h h' => by omega, ?_⟩⟩
      rw [em]
      exact ⟨h1, h2, h3, h4, h5, h6.trans (marks_two hk _ _)⟩
    · obtain ⟨k, pc, pos, hd, lm, li, mk', sn', k3, hsz, e⟩ := miss_step (o := o) (mk := mk) (sn := sn) hT hm
      obtain ⟨k', hk', t⟩ := ih (s + 1) false mk' sn' (by omega) (hsz.trans hk)
      refine ⟨k + (1 + k'), by omega, ?_⟩
      rw [runFor_add, e, runFor_add, runFor_step rfl, step_next (by omega)]
      show Told T n s (M.runFor k' (st T n (s + 1) false mk' sn'))
      rcases t with ⟨i, hi, hmi, hj, r⟩ | ⟨hj, r⟩
      · refine .inl ⟨i, by omega, hmi, fun j h h' => ?_, r⟩
        rcases Nat.eq_or_lt_of_le h with rfl | h
        · exact hm
        · exact hj j h h'
      · refine .inr ⟨fun j h => ?_, r⟩
        rcases Nat.eq_or_lt_of_le h with rfl | h
        · exact hm
        · exact hj j h
theorem forSearch_eq {T : Array Nat} {pos n : Nat} (h : pos + 3 ≤ n) : Sre.forSearch CD T 1 pos n false = st T n pos true #[none, none] (({} : Seen).add 14) := by
  show (if (decide (pos > n) || decide (n - pos < 3)) = true then _ else _ : M) = _
  rw [if_neg (by simp; omega)]
  rfl
theorem forSearch_short {T : Array Nat} {pos n : Nat} (h : ¬ pos + 3 ≤ n) : (Sre.forSearch CD T 1 pos n false).answer = some false ∧ (Sre.forSearch CD T 1 pos n false).outcome = none ∧ (Sre.forSearch CD T 1 pos n false).frames = [] := by
  show (if (decide (pos > n) || decide (n - pos < 3)) = true then _ else _ : M).answer = _ ∧ (if (decide (pos > n) || decide (n - pos < 3)) = true then _ else _ : M).outcome = _ ∧ (if (decide (pos > n) || decide (n - pos < 3)) = true then _ else _ : M).frames = _
  rw [if_pos (by simp; omega)]
  exact ⟨rfl, rfl, rfl⟩
theorem search_all {T : Array Nat} {pos n : Nat} (hT : ∀ i, T.getD i 0 < 256) (hp : pos ≤ n) : ∃ k, k ≤ 8 * (n + 1) ∧ Told T n pos (M.runFor k (Sre.forSearch CD T 1 pos n false)) := by
  by_cases h : pos + 3 ≤ n
  · rw [forSearch_eq h]
    obtain ⟨k, hk, t⟩ := search_runs (T := T) (n := n) hT (n - pos) pos true #[none, none] (({} : Seen).add 14) (by omega) rfl
    exact ⟨k, by omega, t⟩
  · refine ⟨1, by omega, .inr ⟨fun j hj hm => by have := hm.1; omega, ?_⟩⟩
    obtain ⟨h1, h2, h3⟩ := forSearch_short (T := T) h
    rw [runFor_step h2, M.runFor]
    unfold M.step
    rw [if_neg (by rw [h2]; simp), h1, h3]
    rfl
end Mine

end PartR1
section PartFx1
open PySem PySem.W PyProof.Rows PySem.Calls
set_option Elab.async false
namespace Mine
set_option maxRecDepth 100000
theorem slot_bytes_join : Slot "bytes" "join" "bytes.join" :=
  .of (owner := "bytes") (n := "join") (by rw [typeLookup_type, builtinLookup_eq_fast]; kernel_rfl) (by decide +kernel) (by decide +kernel) (by decide +kernel)
    (by first | exact .inl (by decide +kernel) | exact .inr (by decide +kernel)) (by rw [isSubtype_type]; kernel_rfl)
theorem entry_bytes_join : entryFor table "bytes.join" = some Builtin.«bytes.join» := entryFor_of_tree (by kernel_rfl)
theorem args_bytes_join_2 (a b : Value) : argsOk "bytes.join" ⟨[a, b], []⟩ := by
  unfold argsOk; rw [signature?_of (id := "bytes.join") (n := ['n', 'i', 'o', 'j']) (o := ['s', 'e', 't', 'y', 'b']) (by kernel_rfl) FB.owner_bytes]; kernel_rfl
theorem slot_bytes_replace : Slot "bytes" "replace" "bytes.replace" :=
  .of (owner := "bytes") (n := "replace") (by rw [typeLookup_type, builtinLookup_eq_fast]; kernel_rfl) (by decide +kernel) (by decide +kernel) (by decide +kernel)
    (by first | exact .inl (by decide +kernel) | exact .inr (by decide +kernel)) (by rw [isSubtype_type]; kernel_rfl)
theorem type_bytes_replace : typeOf (.builtin "bytes.replace") = pure (.type "method_descriptor") := by show builtinType _ = _; rw [builtinType_eq_fast]; kernel_rfl
theorem entry_bytes_replace : entryFor table "bytes.replace" = some Builtin.«bytes.replace» := entryFor_of_tree (by kernel_rfl)
theorem args_bytes_replace_3 (a b c : Value) : argsOk "bytes.replace" ⟨[a, b, c], []⟩ := by
  unfold argsOk; rw [signature?_of (id := "bytes.replace") (n := ['e', 'c', 'a', 'l', 'p', 'e', 'r']) (o := ['s', 'e', 't', 'y', 'b']) (by kernel_rfl) FB.owner_bytes]; kernel_rfl
theorem plain_loop : plainId "re.Pattern.sub.loop" = true := by decide +kernel
theorem entry_loop : entryFor table "re.Pattern.sub.loop" = some Builtin.«re.Pattern.sub.loop» := entryFor_of_tree (by kernel_rfl)
theorem entry_sub : entryFor table "re.Pattern.sub" = some Builtin.«re.Pattern.sub» := entryFor_of_tree (by kernel_rfl)
theorem slot_sub : Slot "re.Pattern" "sub" "re.Pattern.sub" :=
  .of (owner := "re.Pattern") (n := "sub") (by rw [typeLookup_type, builtinLookup_eq_fast]; kernel_rfl) (by decide +kernel) (by decide +kernel) (by decide +kernel)
    (by first | exact .inl (by decide +kernel) | exact .inr (by decide +kernel)) (by rw [isSubtype_type]; kernel_rfl)
theorem args_sub (a b c : Value) : argsOk "re.Pattern.sub" ⟨[a, b, c], []⟩ := by unfold argsOk; kernel_rfl
theorem slot_group : Slot "re.Match" "group" "re.Match.group" :=
  .of (owner := "re.Match") (n := "group") (by rw [typeLookup_type, builtinLookup_eq_fast]; kernel_rfl) (by decide +kernel) (by decide +kernel) (by decide +kernel)
    (by first | exact .inl (by decide +kernel) | exact .inr (by decide +kernel)) (by rw [isSubtype_type]; kernel_rfl)
theorem type_group : typeOf (.builtin "re.Match.group") = pure (.type "method_descriptor") := by show builtinType _ = _; rw [builtinType_eq_fast]; kernel_rfl
theorem entry_group : entryFor table "re.Match.group" = some Builtin.«re.Match.group» := entryFor_of_tree (by kernel_rfl)
theorem args_group (a b : Value) : argsOk "re.Match.group" ⟨[a, b], []⟩ := by unfold argsOk; kernel_rfl
theorem plainAttrs_match : PlainAttrs "re.Match" :=
  ⟨⟨"object.__getattribute__", by rw [typeLookup_type, builtinLookup_eq_fast]; kernel_rfl, by decide +kernel⟩, by rw [typeLookup_type, builtinLookup_eq_fast]; kernel_rfl⟩
theorem entry_partial : entryFor table "functools.partial.__call__" = some Builtin.«functools.partial.__call__» := entryFor_of_tree (by kernel_rfl)
theorem slot_partial : typeLookup (.type "functools.partial") "__call__" = pure (some (.builtin "functools.partial.__call__")) := by rw [typeLookup_type, builtinLookup_eq_fast]; kernel_rfl
theorem entry_fromhex : entryFor table "bytes.fromhex" = some Builtin.«bytes.fromhex» := entryFor_of_tree (by kernel_rfl)
end Mine

end PartFx1
section PartS1
open PySem PySem.W PyProof.Rows PySem.Calls
set_option Elab.async false
namespace Mine
open PySem.Builtin.Re
section
variable {M : Model} {A : Around} {E : Value → Shared → Prop} {s : Shared}
theorem drive_any {Q : Sre.M → Shared → Prop} : ∀ (turns k : Nat) (m : Sre.M), 0 < turns → k ≤ 4 * turns → (Sre.M.runFor k m).outcome.isSome = true → Q (Sre.M.runFor k m) s → wpAny M A (reDrive turns m) Q E s
  | 0, _, _, h, _, _, _ => absurd h (Nat.lt_irrefl _)
  | turns + 1, k, m, _, hk, ho, hQ => by
    unfold reDrive
    show wpAny M A (if (Sre.M.runFor 4 m).outcome.isSome then pure (Sre.M.runFor 4 m) else do rule "sre.turn"; reDrive turns (Sre.M.runFor 4 m)) Q E s
    by_cases h4 : k ≤ 4
    · have e : Sre.M.runFor 4 m = Sre.M.runFor k m := by
        rw [show 4 = k + (4 - k) by omega, runFor_add, runFor_done ho]
      rw [e, if_pos ho]
      exact wpAny_pure hQ
    · have e : Sre.M.runFor k m = Sre.M.runFor (k - 4) (Sre.M.runFor 4 m) := by
        rw [← runFor_add]; congr 1; omega
      by_cases hs : (Sre.M.runFor 4 m).outcome.isSome = true
      · rw [if_pos hs]
        rw [e, runFor_done hs] at hQ
        exact wpAny_pure hQ
      · rw [if_neg hs]
        refine wpAny_bind (wpAny_rule ?_)
        exact drive_any turns (k - 4) _ (by omega) (by omega) (e ▸ ho) (e ▸ hQ)
theorem rules_any {f : Nat → PUnit → Sem (ForInStep PUnit)} {Q : PUnit → Shared → Prop} (hf : ∀ i (R : ForInStep PUnit → Shared → Prop), R (.yield ⟨⟩) s → wpAny M A (f i ⟨⟩) R E s) (h : Q ⟨⟩ s) : ∀ l : List Nat, wpAny M A (forIn l PUnit.unit f) Q E s
  | [] => by rw [List.forIn_nil]; exact wpAny_pure h
  | i :: l => by
    rw [List.forIn_cons]
    exact wpAny_bind (hf i _ (rules_any hf h l))
theorem run_any {Q : Option Sre.M → Shared → Prop} {k : Nat} {m : Sre.M} (hk : k ≤ 4 * 2 ^ 64) (ho : (Sre.M.runFor k m).outcome = some .matched ∨ (Sre.M.runFor k m).outcome = some .failed)
    (hm : (Sre.M.runFor k m).outcome = some .matched → Q (some (Sre.M.runFor k m)) s) (hf : (Sre.M.runFor k m).outcome = some .failed → Q none s) : wpAny M A (reRunToEnd m) Q E s := by
  unfold reRunToEnd
  refine wpAny_bind (drive_any (2 ^ 64) k m (by decide) hk (by rcases ho with h | h <;> rw [h] <;> rfl) ?_)
  refine wpAny_bind (rules_any (fun i R hR => ?_) ?_ _)
  · split
    · exact wpAny_bind (wpAny_rule (wpAny_pure hR))
    · exact wpAny_pure hR
  rcases ho with h | h
  · rw [h]; exact wpAny_pure (hm h)
  · rw [h]; exact wpAny_pure (hf h)
theorem next_any {Q : Option Sre.M → Shared → Prop} {t : ReTarget} {pos : Nat} (hc : t.code = CD) (hg : t.groups = 1) (hT : ∀ i, t.text.getD i 0 < 256) (hp : pos ≤ t.lim) (hl : t.lim ≤ 1000000)
    (h : ∀ m : Sre.M, Told t.text t.lim pos m → (m.outcome = some .matched → Q (some m) s) ∧ (m.outcome = some .failed → Q none s)) : wpAny M A (reNextFound t pos false) Q E s := by
  unfold reNextFound
  rw [hc, hg]
  obtain ⟨k, hk, hT'⟩ := search_all hT hp
  have h' := h _ hT'
  refine run_any (Nat.le_trans hk (by omega)) ?_ h'.1 h'.2
  rcases hT' with ⟨_, _, _, _, o, _⟩ | ⟨_, o⟩
  · exact .inl o
  · exact .inr o
end
end Mine

end PartS1
section PartJ1
open PySem PySem.W PyProof.Rows PySem.Calls
set_option Elab.async false
namespace Mine
open PySem.Builtin PySem.Builtin.Bytes
inductive BAre : List Value → List (Array UInt8) → Prop
  | nil : BAre [] []
  | cons (b : Array UInt8) (t : Tok) {vs : List Value} {bs : List (Array UInt8)} : BAre vs bs → BAre (.bytes b t :: vs) (b :: bs)
theorem BAre.append {vs ws : List Value} {bs cs : List (Array UInt8)} (h : BAre vs bs) (k : BAre ws cs) : BAre (vs ++ ws) (bs ++ cs) := by
  induction h with
  | nil => exact k
  | cons b t _ ih => exact .cons b t ih
theorem BAre.length {vs : List Value} {bs : List (Array UInt8)} (h : BAre vs bs) : vs.length = bs.length := by
  induction h with
  | nil => rfl
  | cons b t _ ih => simp [ih]
theorem BAre.at {vs : List Value} {bs : List (Array UInt8)} (h : BAre vs bs) : ∀ (i : Nat) (hi : i < bs.length), ∃ t, vs[i]? = some (.bytes bs[i] t) := by
  induction h with
  | nil => intro i hi; exact absurd hi (Nat.not_lt_zero _)
  | cons b t _ ih =>
    intro i hi
    cases i with
    | zero => exact ⟨t, rfl⟩
    | succ i => simpa using ih i (by simpa using hi)
section
variable {M : Model} {A : Around} {E : Value → Shared → Prop} {s : Shared}
theorem joinLetGo_any {Q : Unit → Shared → Prop} (h : Q () s) : ∀ (vs keep : List Value), wpAny M A (joinLetGo (vs.map fun v => (v, none)) keep) Q E s
  | [], _ => wpAny_pure h
  | v :: vs, keep => by
    show wpAny M A (letGo _ _ >>= fun _ => joinLetGo (vs.map fun v => (v, none)) keep) Q E s
    exact wpAny_bind (wpAny_letGo (joinLetGo_any h vs keep))
theorem forIn_range_any {β : Type} (n : Nat) (f : Nat → β → Sem (ForInStep β)) (I : Nat → β → Prop) (Q : β → Shared → Prop) (b : β)
    (turn : ∀ i b, i < n → I i b → wpAny M A (f i b) (fun r s' => s' = s ∧ ∃ b', r = .yield b' ∧ I (i + 1) b') E s)
    (fin : ∀ b, I n b → Q b s) (h : I 0 b) : wpAny M A (forIn [:n] b f) Q E s := by
  rw [Std.Legacy.Range.forIn_eq_forIn_range']
  have key : ∀ (k i : Nat) (b : β), i + k = n → I i b → wpAny M A (forIn (List.range' i k 1) b f) Q E s := by
    intro k
    induction k with
    | zero => intro i b hi hI; exact wpAny_pure (fin b (by rw [show n = i by omega]; exact hI))
    | succ k ih =>
      intro i b hi hI
      rw [List.range'_succ, List.forIn_cons]
      refine wpAny_bind (wpAny_mono (turn i b (by omega) hI) (fun r s' hr => ?_) fun _ _ e => e)
      obtain ⟨rfl, b', rfl, hI'⟩ := hr
      exact ih (i + 1) b' (by omega) hI'
  have e := key n 0 b (by omega) h
  simpa using e
end
def catB (bs : List (Array UInt8)) : Array UInt8 := (bs.map Array.toList).flatten.toArray
theorem take_eq {bs : List (Array UInt8)} {i : Nat} (hi : i < bs.length) : bs.take (i + 1) = bs.take i ++ [bs[i]] := by
  rw [List.take_succ_eq_append_getElem hi]
theorem joined_nil : ∀ (parts : List (Array UInt8)) (k : Nat) (acc : Array UInt8), (parts.zipIdx k).foldl (fun out (p, i) => (if i > 0 then out ++ (#[] : Array UInt8) else out) ++ p) acc = acc ++ catB parts := by
  intro parts
  induction parts with
  | nil => intro k acc; simp [catB]
  | cons p ps ih =>
    intro k acc
    rw [List.zipIdx_cons, List.foldl_cons, ih]
    apply Array.toList_inj.mp
    simp [catB]
theorem sizes_fold : ∀ (bs : List (Array UInt8)) (n : Nat), bs.toArray.foldl (fun x y => x + y.size) n = n + (catB bs).size := by
  intro bs
  induction bs with
  | nil => intro n; simp [catB]
  | cons b bs ih => intro n; simp [catB] at ih ⊢; rw [ih]; omega
theorem take_quiet {id : String} {b : Array UInt8} {t : Tok} : takeBufferQuiet? id (.bytes b t) 0 = pure (some (b, none)) := by
  unfold takeBufferQuiet? takeBuffer?
  rw [KBy.special_eq KBy.look_buffer, KBy.own_buffer, show ((0 : Int) == fullReadOnly) = false from rfl, KBy.buffer_eq]
  rfl
theorem BAre.noHeap {vs : List Value} {bs : List (Array UInt8)} (h : BAre vs bs) : ∀ i, ((vs.take i).map fun v => (v, (none : Option Value))).any (fun x => x.1.onHeap) = false := by
  induction h with
  | nil => intro i; cases i <;> rfl
  | cons b t _ ih =>
    intro i
    cases i with
    | zero => rfl
    | succ i => rw [List.take_succ_cons, List.map_cons, List.any_cons, ih i]; rfl
theorem meets_join {vs : List Value} {bs : List (Array UInt8)} {p : Addr} {ep : Nat} {t : Tok} (hB : BAre vs bs) (h0 : vs ≠ []) (hz : (catB bs).size ≤ 16777216) :
   Meets («bytes.join» ⟨[.bytes #[] t, .ref p], []⟩) (fun _ R s => s.heap.get? p = some (W.listOf vs.toArray ep) ∧ ∀ t' k, R (.ok (.ret (.bytes (catB bs) t'))) { s with toks := k }) := by
  refine .of_wp fun prog w A R s hS => ?_
  obtain ⟨hp, h⟩ := hS
  show wpAny _ _ (joinM .bytes _) _ _ s
  unfold joinM
  have e1 : selfAndOne "bytes.join" (⟨[.bytes #[] t, .ref p], []⟩ : Args) = pure (.bytes #[] t, .ref p) := rfl
  refine wpAny_bind (wpAny_of_eq e1 ?_)
  dsimp only
  rw [if_pos (by rfl)]
  have hT : s.TypeIs (.ref p) "list" := ⟨_, hp, rfl⟩
  have e2 : ∀ Q : Value → Shared → Prop, Q (.ref p) s → wpAny (model prog w) A.in1 (joinItems (.ref p)) Q (fun e s' => R (.error e) s') s := fun Q hQ => by
    unfold joinItems
    refine wpAny_bind (wpAny_typeOf hT ?_)
    rw [if_pos (by rfl)]
    exact wpAny_pure hQ
  refine wpAny_bind (e2 _ ?_)
  refine wpAny_bind (wpAny_seqItems hp rfl ?_)
  dsimp only
  rw [if_pos (by rfl)]
  match vs, hB, h0 with
  | [_], .cons b u .nil, _ =>
    show wpAny _ _ (typeOf (.bytes b u) >>= _) _ _ s
    refine wpAny_bind (wpAny_typeOf (typeIs_bytes _ _ _) ?_)
    rw [if_pos (by rfl)]
    refine wpAny_bind (wpAny_rule ?_)
    refine wpAny_pure ⟨_, rfl, ?_⟩
    have e : catB [b] = b := by simp [catB]
    have h' := h u s.toks
    rw [e] at h'
    exact h'
  | v1 :: v2 :: vs, hB, _ =>
    refine wpAny_bind (forIn_range_any _ _ (fun i st => st = ((bs.take i).toArray, ((v1 :: v2 :: vs).take i).map fun v => (v, none))) _ _ ?_ ?_ ?_)
    · rintro i _ hi rfl
      have hi' : i < bs.length := by rw [← hB.length]; simpa using hi
      obtain ⟨u, hu⟩ := hB.at i hi'
      have hg : (v1 :: v2 :: vs).toArray.getD i Value.none = .bytes bs[i] u := by
        rw [Array.getD_eq_getD_getElem?, List.getElem?_toArray, hu]; rfl
      refine wpAny_bind (wpAny_seqItems hp rfl ?_)
      dsimp only
      rw [hB.noHeap i, if_neg (by decide), hg]
      refine wpAny_bind (wpAny_holding (wpAny_of_eq take_quiet ?_))
      dsimp only
      refine wpAny_bind (wpAny_seqItems hp rfl ?_)
      dsimp only
      rw [if_neg (by simp)]
      refine wpAny_pure ⟨rfl, _, rfl, ?_⟩
      rw [take_eq hi', List.take_succ_eq_append_getElem (by simpa using hi), List.map_append]
      have : (v1 :: v2 :: vs)[i]'(by simpa using hi) = .bytes bs[i] u := by
        rw [List.getElem?_eq_getElem (by simpa using hi)] at hu; exact Option.some.inj hu
      rw [this]
      simp
    · rintro _ rfl
      have el : (v1 :: v2 :: vs).toArray.size = bs.length := by rw [List.size_toArray, hB.length]
      have ev : (v1 :: v2 :: vs).take (v1 :: v2 :: vs).toArray.size = v1 :: v2 :: vs := by rw [List.size_toArray, List.take_length]
      have eb : bs.take (v1 :: v2 :: vs).toArray.size = bs := by rw [el, List.take_length]
      rw [ev, eb]
      dsimp only
      refine wpAny_bind (m := payload (.bytes #[] t)) (wpAny_bind (wpAny_pure (wpAny_pure ?_)))
      rw [sizes_fold]
      rw [if_neg (by rw [KBy.tooLong_not (by simpa using hz)]; decide)]
      refine wpAny_bind ?_
      show wpAny _ _ (mkBytes (joined #[] bs.toArray.toList)) _ _ s
      have ej : joined #[] bs.toArray.toList = catB bs := by
        unfold joined
        rw [joined_nil]
        simp
      rw [ej]
      refine wpAny_mkBytes ?_ (by rw [sizeLine_eq]; exact hz)
      refine wpAny_bind (wpAny_holding (wpAny_point ?_))
      refine wpAny_bind (joinLetGo_any ?_ _ _)
      exact wpAny_pure ⟨_, rfl, h _ _⟩
    · simp
theorem join_any {prog : Program} {w : World} {A : Around} {E : Value → Shared → Prop} {s : Shared} {Q : Value → Shared → Prop} {vs : List Value} {bs : List (Array UInt8)} {p : Addr} {ep : Nat} {t : Tok} (hB : BAre vs bs) (h0 : vs ≠ []) (hz : (catB bs).size ≤ 16777216)
    (hp : s.heap.get? p = some (W.listOf vs.toArray ep)) (h : ∀ t' k, Q (.bytes (catB bs) t') { s with toks := k }) : wpAny (model prog w) A (call (.builtin "bytes.join") [.bytes #[] t, .ref p]) Q E s :=
  call_meets slot_bytes_join (typeIs_bytes _ _ _) entry_bytes_join (args_bytes_join_2 _ _) (meets_join hB h0 hz) ⟨hp, h⟩
end Mine

end PartJ1
section PartP2
namespace Mine
open PySem.Builtin.Bytes
def splitU : List UInt8 → List (List UInt8)
  | [] => [[]]
  | c :: cs => if c = 95 then [] :: splitU cs else match splitU cs with
    | h :: t => (c :: h) :: t
    | [] => [[c]]
theorem splitU_ne : ∀ l, splitU l ≠ []
  | [] => by simp [splitU]
  | c :: cs => by
    rw [splitU]; split
    · simp
    · split <;> simp
def glue (pre : List UInt8) : List (List UInt8) → List (List UInt8)
  | h :: t => (pre ++ h) :: t
  | [] => [pre]
def isU (b : Array UInt8) (i : Nat) : Bool := b.extract i (i + 1) == #[95]
theorem isU_iff {l : List UInt8} {i : Nat} (h : i < l.length) : isU l.toArray i = decide (l[i] = 95) := by
  unfold isU
  have e : l.toArray.extract i (i + 1) = #[l[i]] := by
    apply Array.toList_inj.mp
    simp
    rw [List.drop_eq_getElem_cons h]; rfl
  rw [e]
  by_cases hc : l[i] = 95
  · simp [hc]
  · simp [hc]
def occS (b : Array UInt8) (acc : List Nat × Nat) (i : Nat) : List Nat × Nat :=
  if (decide (i ≥ acc.2) && b.extract i (i + (#[95] : Array UInt8).size) == #[95]) = true then (i :: acc.1, i + (#[95] : Array UInt8).size) else acc
theorem occ_fold (b : Array UInt8) : ∀ (k i : Nat) (acc : List Nat × Nat), acc.2 ≤ i → ((List.range' i k).foldl (occS b) acc).1 = ((List.range' i k).filter (isU b)).reverse ++ acc.1 := by
  intro k
  induction k with
  | zero => intro i acc h; rfl
  | succ k ih =>
    intro i acc h
    rw [List.range'_succ, List.foldl_cons, List.filter_cons]
    by_cases hu : isU b i = true
    · have e : occS b acc i = (i :: acc.1, i + 1) := by
        unfold occS
        rw [if_pos]; · rfl
        simp only [Bool.and_eq_true, decide_eq_true_eq]
        exact ⟨h, hu⟩
      rw [e, ih (i + 1) _ (Nat.le_refl _), if_pos hu]
      simp
    · have e : occS b acc i = acc := by
        unfold occS
        rw [if_neg]
        simp only [Bool.and_eq_true, decide_eq_true_eq]
        exact fun x => hu x.2
      rw [e, ih (i + 1) _ (Nat.le_succ_of_le h), if_neg hu]
theorem occ_eq (b : Array UInt8) : occurrences b #[95] 0 b.size = (List.range' 0 b.size).filter (isU b) := by
  have e : occurrences b #[95] 0 b.size = (((List.range (b.size + 1 - (0 + 1))).map (· + 0)).foldl (occS b) ([], 0)).1.reverse := rfl
  rw [e, show b.size + 1 - (0 + 1) = b.size by omega]
  have e2 : (List.range b.size).map (· + 0) = List.range' 0 b.size := by simp [List.range_eq_range']
  rw [e2, occ_fold b b.size 0 ([], 0) (Nat.le_refl _)]
  simp
def btS (b : Array UInt8) (x : Array (Array UInt8) × Nat) (p : Nat) : Array (Array UInt8) × Nat := (x.1.push (b.extract x.2 p), p + 1)
theorem bt_fold {l : List UInt8} : ∀ (k i last : Nat) (parts : Array (Array UInt8)), i + k = l.length → last ≤ i →
    ((((List.range' i k).filter (isU l.toArray)).foldl (btS l.toArray) (parts, last)).1.push (l.toArray.extract (((List.range' i k).filter (isU l.toArray)).foldl (btS l.toArray) (parts, last)).2 l.length)).toList.map Array.toList =
      parts.toList.map Array.toList ++ glue ((l.take i).drop last) (splitU (l.drop i)) := by
  intro k
  induction k with
  | zero =>
    intro i last parts hi hl
    have e : i = l.length := by omega
    subst e
    simp [splitU, glue]
    exact List.take_of_length_le (by simp)
  | succ k ih =>
    intro i last parts hi hl
    have hlt : i < l.length := by omega
    rw [List.range'_succ, List.filter_cons]
    have hd : l.drop i = l[i] :: l.drop (i + 1) := List.drop_eq_getElem_cons hlt
    by_cases hu : isU l.toArray i = true
    · rw [if_pos hu, List.foldl_cons]
      have hc : l[i] = 95 := by rw [isU_iff hlt] at hu; simpa using hu
      have eb : btS l.toArray (parts, last) i = (parts.push (l.toArray.extract last i), i + 1) := rfl
      rw [eb]
      rw [ih (i + 1) (i + 1) _ (by omega) (Nat.le_refl _), hd, splitU, if_pos hc]
      have e0 : (l.take (i + 1)).drop (i + 1) = [] := by simp
      rw [e0]
      cases hs : splitU (l.drop (i + 1)) with
      | nil => exact absurd hs (splitU_ne _)
      | cons h t => simp [glue, List.drop_take]
    · rw [if_neg hu, ih (i + 1) last parts (by omega) (by omega), hd, splitU]
      have hc : l[i] ≠ 95 := by intro e; apply hu; rw [isU_iff hlt]; simpa using e
      rw [if_neg hc]
      cases hs : splitU (l.drop (i + 1)) with
      | nil => exact absurd hs (splitU_ne _)
      | cons h t =>
        have e1 : (l.take (i + 1)).drop last = (l.take i).drop last ++ [l[i]] := by
          rw [List.take_succ_eq_append_getElem hlt, List.drop_append_of_le_length (by rw [List.length_take]; omega)]
        simp [glue, e1]
theorem bt_eq (l : List UInt8) : (between l.toArray 1 (occurrences l.toArray #[95] 0 l.toArray.size)).map Array.toList = splitU l := by
  rw [occ_eq]
  have e : between l.toArray 1 ((List.range' 0 l.toArray.size).filter (isU l.toArray)) = ((((List.range' 0 l.length).filter (isU l.toArray)).foldl (btS l.toArray) (#[], 0)).1.push (l.toArray.extract (((List.range' 0 l.length).filter (isU l.toArray)).foldl (btS l.toArray) (#[], 0)).2 l.length)).toList := rfl
  rw [e, bt_fold l.length 0 0 #[] (by omega) (Nat.le_refl _)]
  cases hs : splitU l with
  | nil => exact absurd hs (splitU_ne _)
  | cons h t => simp [glue, hs]
def joinS (out : Array UInt8) (x : Array UInt8 × Nat) : Array UInt8 := (if x.2 > 0 then out ++ #[32] else out) ++ x.1
theorem join_fold : ∀ (ps : List (Array UInt8)) (k : Nat) (acc : Array UInt8), ((ps.zipIdx (k + 1)).foldl joinS acc).toList = acc.toList ++ (ps.map fun p => 32 :: p.toList).flatten := by
  intro ps
  induction ps with
  | nil => intro k acc; simp
  | cons p ps ih => intro k acc; rw [List.zipIdx_cons, List.foldl_cons, ih]; simp [joinS]
theorem join_split : ∀ (l : List UInt8), ∀ h t, splitU l = h :: t → h ++ (t.map fun p => 32 :: p).flatten = l.map us := by
  intro l
  induction l with
  | nil => intro h t e; simp [splitU] at e; obtain ⟨rfl, rfl⟩ := e; rfl
  | cons c cs ih =>
    intro h t e
    rw [splitU] at e
    cases hs : splitU cs with
    | nil => exact absurd hs (splitU_ne _)
    | cons h' t' =>
      have ih' := ih h' t' hs
      rw [hs] at e
      by_cases hc : c = 95
      · rw [if_pos hc] at e
        cases e
        simp only [List.nil_append, List.map_cons, List.flatten_cons, List.cons_append, us, if_pos hc]
        rw [ih']
      · rw [if_neg hc] at e
        cases e
        simp only [List.cons_append, List.map_cons, us, if_neg hc]
        rw [ih']
theorem replace_eq (l : List UInt8) : joined #[32] (between l.toArray 1 (occurrences l.toArray #[95] 0 l.toArray.size)) = (l.map us).toArray := by
  have e := bt_eq l
  cases hs : splitU l with
  | nil => exact absurd hs (splitU_ne _)
  | cons h t =>
    rw [hs] at e
    cases hb : between l.toArray 1 (occurrences l.toArray #[95] 0 l.toArray.size) with
    | nil => rw [hb] at e; cases e
    | cons b bs =>
      rw [hb, List.map_cons] at e
      injection e with e1 e2
      have ej : joined #[32] (b :: bs) = ((bs.zipIdx 1).foldl joinS (#[] ++ b)) := rfl
      rw [ej]
      apply Array.toList_inj.mp
      rw [join_fold bs 0, ← join_split l h t hs, ← e1, ← e2]
      simp [List.map_map, Function.comp_def]
theorem replace_none {l : List UInt8} (h : (occurrences l.toArray #[95] 0 l.toArray.size).isEmpty = true) : l.map us = l := by
  rw [occ_eq, List.isEmpty_iff, List.filter_eq_nil_iff] at h
  refine List.ext_getElem (by simp) fun i h1 h2 => ?_
  have := h i (by simp; simpa using h2)
  rw [isU_iff h2] at this
  rw [List.getElem_map, us, if_neg (by simpa using this)]
end Mine

end PartP2
section PartW2
open PySem PySem.W PyProof.Rows PySem.Calls
set_option Elab.async false
namespace Mine
open PySem.Builtin PySem.Builtin.Bytes
theorem same_bytes {b : Array UInt8} {t : Tok} : Kind.same .bytes (.bytes b t) = pure (.bytes b t) := by
  unfold Kind.same
  rw [if_pos (by rfl)]
  rfl
theorem meets_replace {l : List UInt8} {t t1 t2 : Tok} (hz : l.length ≤ 1000000) :
   Meets («bytes.replace» ⟨[.bytes l.toArray t, .bytes #[95] t1, .bytes #[32] t2], []⟩) (fun _ R s => ∀ t' k, R (.ok (.ret (.bytes (l.map us).toArray t'))) { s with toks := k }) := by
  refine .of_wp fun prog w A R s h => ?_
  show wpAny _ _ (replaceM .bytes _) _ _ s
  unfold replaceM
  have e1 : selfAndSome "bytes.replace" "replace" 2 3 (⟨[.bytes l.toArray t, .bytes #[95] t1, .bytes #[32] t2], []⟩ : Args) = pure (.bytes l.toArray t, [.bytes #[95] t1, .bytes #[32] t2]) := rfl
  refine wpAny_bind (wpAny_of_eq e1 ?_)
  refine wpAny_bind (m := bytesLike "bytes.replace" (.bytes #[95] t1)) (wpAny_of_eq KBd.like_eq ?_)
  refine wpAny_bind (m := bytesLike "bytes.replace" (.bytes #[32] t2)) (wpAny_of_eq KBd.like_eq ?_)
  show wpAny _ _ (bytesLike "bytes.replace" (.bytes #[95] t1) >>= _) _ _ s
  refine wpAny_bind (wpAny_of_eq KBd.like_eq ?_)
  refine wpAny_bind (m := bytesLike "bytes.replace" (.bytes #[32] t2)) (wpAny_of_eq KBd.like_eq ?_)
  refine wpAny_bind (m := payload (.bytes l.toArray t)) (wpAny_bind (wpAny_pure (wpAny_pure ?_)))
  show wpAny _ _ (if ((occurrences l.toArray #[95] 0 l.toArray.size).isEmpty || ((#[95] : Array UInt8).isEmpty && (#[32] : Array UInt8).isEmpty)) = true then _ else _) _ _ s
  by_cases ho : (occurrences l.toArray #[95] 0 l.toArray.size).isEmpty = true
  · rw [if_pos (by rw [ho]; rfl)]
    refine wpAny_bind (wpAny_rule ?_)
    refine wpAny_bind (wpAny_of_eq same_bytes ?_)
    have h' := h t s.toks
    rw [replace_none ho] at h'
    exact wpAny_pure ⟨_, rfl, h'⟩
  · rw [if_neg (by simpa using ho)]
    have hlen : (occurrences l.toArray #[95] 0 l.toArray.size).length ≤ l.length := by
      rw [occ_eq]
      refine Nat.le_trans (List.length_filter_le _ _) (by simp)
    show wpAny _ _ (if tooLong (l.toArray.size + (occurrences l.toArray #[95] 0 l.toArray.size).length * 1) = true then _ else _) _ _ s
    have hsz : l.toArray.size = l.length := List.size_toArray
    rw [if_neg (by rw [KBy.tooLong_not (by omega)]; decide)]
    refine wpAny_bind ?_
    show wpAny _ _ (mkBytes (joined #[32] (between l.toArray 1 (occurrences l.toArray #[95] 0 l.toArray.size)))) _ _ s
    rw [replace_eq]
    refine wpAny_mkBytes ?_ (by rw [sizeLine_eq]; simp; omega)
    exact wpAny_pure ⟨_, rfl, h _ _⟩
theorem replace_any {prog : Program} {w : World} {A : Around} {E : Value → Shared → Prop} {s : Shared} {Q : Value → Shared → Prop} {b : Array UInt8} {t t1 t2 : Tok} (hz : b.size ≤ 1000000)
    (h : ∀ t' k, Q (.bytes (b.toList.map us).toArray t') { s with toks := k }) : wpAny (model prog w) A (call (.builtin "bytes.replace") [.bytes b t, .bytes #[95] t1, .bytes #[32] t2]) Q E s := by
  obtain ⟨l⟩ := b
  exact call_meets slot_bytes_replace (typeIs_bytes _ _ _) entry_bytes_replace (args_bytes_replace_3 _ _ _) (meets_replace hz) h
theorem replace_method {M : Model} {A : Around} {E : Value → Shared → Prop} {s : Shared} {b : Array UInt8} {t : Tok} {pl : Sem Bool} {Q : Value × List Value → Shared → Prop} (h : Q (.builtin "bytes.replace", [.bytes b t]) s) : wpAny M A (getMethod (.bytes b t) "replace" pl) Q E s := by
  with_reducible exact KBd.method_of (.bytes b t) (typeIs_bytes _ _ _) slot_bytes_replace type_bytes_replace KBd.noRef h
end Mine

end PartW2
section PartHX
open PySem PySem.W PyProof.Rows PySem.Calls
set_option Elab.async false
namespace Mine
set_option maxRecDepth 100000
open PySem.Builtin PySem.Builtin.Bytes
abbrev L22 : List Nat := [48, 49, 50, 51, 52, 53, 54, 55, 56, 57, 65, 66, 67, 68, 69, 70, 97, 98, 99, 100, 101, 102]
theorem in22 : ∀ n, n < 256 → fig n < 16 → n ∈ L22 := by decide +kernel
theorem in22B {a : UInt8} (h : hexB a = true) : ∃ n ∈ L22, a = n.toUInt8 ∧ n = a.toNat := by
  refine ⟨a.toNat, in22 _ a.toNat_lt (by simpa [hexB] using h), ?_, rfl⟩
  exact (UInt8.ofNat_toNat).symm
theorem hex_tree : ∀ n1 ∈ L22, ∀ n2 ∈ L22, ∀ u : Tok, fromhexM .bytes ⟨[.type "bytes", .str ⟨#[n1, n2]⟩ u], []⟩ = (mkBytes #[(fig n1 * 16 + fig n2).toUInt8] >>= fun v => ret v) := by
  simp only [L22, List.forall_mem_cons, List.not_mem_nil, false_implies, implies_true, and_true]
  repeat' (first | apply And.intro)
  all_goals (intro u; kernel_rfl)
theorem dec_tree : ∀ n1 ∈ L22, ∀ n2 ∈ L22, ∀ id : String, _codecs.runDecoder id _codecs.utf8Decoder none true [n1.toUInt8, n2.toUInt8].toArray 0 [] = pure (#[n1, n2], 2) := by
  simp only [L22, List.forall_mem_cons, List.not_mem_nil, false_implies, implies_true, and_true]
  repeat' (first | apply And.intro)
  all_goals (intro u; kernel_rfl)
end Mine

end PartHX
section PartLX
open PySem PySem.W PyProof.Rows PySem.Calls
set_option Elab.async false
namespace Mine
set_option maxRecDepth 100000
open PySem.Builtin PySem.Builtin.Bytes PySem.Builtin.Re
abbrev matchObj (b : Array UInt8) (t : Tok) (tu : Addr) : Obj := { cls := .type "re.Match", data := .fields #[.bytes b t, .ref 42, .int 0 0, .int (b.size : Int) 0, .int 1 0, .ref tu] }
abbrev spanObj (i : Nat) : Obj := { cls := .type "tuple", data := .seq #[.int (i : Int) 0, .int ((i + 3 : Nat) : Int) 0, .int ((i + 1 : Nat) : Int) 0, .int ((i + 3 : Nat) : Int) 0] }
abbrev hexBound : Obj := { cls := .type "builtin_function_or_method", data := .fields #[.builtin "bytes.fromhex", .type "bytes"] }
theorem type_fromhex : typeOf (.builtin "bytes.fromhex") = pure (.type "classmethod_descriptor") := by show builtinType _ = _; rw [builtinType_eq_fast]; kernel_rfl
theorem isType_bytes : isType (.type "bytes") = pure true := by first | rfl | kernel_rfl | (unfold isType; rw [isSubtype_type]; kernel_rfl)
theorem owner_fromhex : (kfb_private% "ownerAndName") "bytes.fromhex" = ("bytes", "fromhex") := by first | decide +kernel | kernel_rfl
theorem quiet_fromhex {as : Args} : (Code.builtin "bytes.fromhex" as).quiet = true := Code.quiet_builtin _ (by decide +kernel)
section
variable {prog : Program} {w : World} {M : Model} {A : Around} {E : Value → Shared → Prop} {s : Shared} {K : Frag} {h₀ : Heap} {L : Addr} {m : PySem.Str → Option Value} {news : List (Addr × Obj)}
theorem hex_get {P : Fin → Shared → Prop} (h : P (.done (.ret (.ref s.heap.objs.size))) { s with heap := s.heap.push hexBound }) :
    wpAny M A (Builtin.«classmethod_descriptor.__get__» ⟨[.builtin "bytes.fromhex", .none, .type "bytes"], []⟩) P E s := by
  unfold Builtin.«classmethod_descriptor.__get__»
  refine wpAny_bind (wpAny_of_eq (a := (.builtin "bytes.fromhex", none, some (.type "bytes"))) (by first | rfl | kernel_rfl) ?_)
  simp only [owner_fromhex]
  refine wpAny_bind (wpAny_of_eq (a := .type "bytes") rfl ?_)
  refine wpAny_bind (wpAny_of_eq (a := true) isType_bytes ?_)
  refine KFB.if_not rfl ?_
  refine wpAny_bind (wpAny_of_eq (a := true) F.sub_bytes_bytes ?_)
  refine KFB.if_not rfl ?_
  exact wpAny_bind (wpAny_newObj_type (wpAny_pure h))
theorem hex_getm {pl : Sem Bool} {Q : Value × List Value → Shared → Prop} (F : Fr h₀ L s.heap m) (N : News h₀ L s.heap news) (X₀ : K.In h₀)
    (e : findCls K (.type "bytes") (.type "type") (PySem.Str.ofString "fromhex") = some (.get (.builtin "classmethod_descriptor.__get__") (.builtin "bytes.fromhex") .none (.type "bytes")))
    (h : ∀ x h', Fr h₀ L h' m → News h₀ L h' ((x, hexBound) :: news) → (∀ p ∈ news, p.1 < x) → Q (.ref x, []) { s with heap := h', toks := s.toks + 1 }) :
    wpAny (model prog w) A (getMethod (.type "bytes") (PySem.Str.ofString "fromhex") pl) Q E s := by
  have X := X₀.keeps F.keep
  have hstub : opaqueClassAbove (.type "bytes") = pure none := by unfold opaqueClassAbove; dsimp only; rw [show Manifest.isStub "bytes" = false by decide +kernel]; rfl
  have ht : typeOf (.type "bytes") = pure (.type "type") := by first | rfl | kernel_rfl
  have L0 : Looks (model prog w) s.heap (typeOf (.type "bytes")) (.type "type") := Looks.of_pure ht
  have hg : findIn K (.type "type") "__getattribute__" = some (some (.builtin "type.__getattribute__")) := type_tga
  unfold getMethod specialOf
  refine wpAny_bind (wpAny_bind (L0.here ((looks_findIn X hg).here ?_)))
  dsimp only
  rw [if_pos canon_tga]
  refine wpAny_bind (wpAny_mono (Q := fun v => Q (v, [])) (E := E) ?_ (fun _ _ z => wpAny_pure z) fun _ _ z => z)
  have LO : Looks (model prog w) s.heap (opaqueClassAbove (.type "bytes")) none := Looks.of_pure hstub
  refine cls_open X LO L0 hg (looks_hook X (r := none) (by rfl)) (by show subIn K _ _ = _; rfl) e ?_
  show wpAny _ _ (holding [.builtin "bytes.fromhex"] (call (.builtin "classmethod_descriptor.__get__") [.builtin "bytes.fromhex", .none, .type "bytes"]) >>= fun v => ret v) _ _ _
  refine wpAny_bind (wpAny_holding (wpAny_call_entry KFB.slot_get type_fromhex KFB.entry_get (hex_get ⟨_, rfl, wpAny_pure (wpAny_pure (h _ _ (F.push _) (News.push F N _) fun p hp => Heap.lt_size (N p hp).1))⟩) (KFB.args_get _ _ _)))
def BoundAt (x : Addr) (f self : Value) (h : Heap) : Prop := h.get? x = some { cls := .type "builtin_function_or_method", data := .fields #[f, self] }
theorem callWith_bnd {pos : Pos} {u : Addr} {f self : Value} {first : List Value} {args : List (Bool × Sem Value)} {Q : Value → Shared → Prop} (hplain : args.any (·.1) = false)
    (h : wpAny M A (evalArgs (.ref u) true args []) (fun x s₁ => BoundAt u f self s₁.heap ∧ wpAny M A (call (.ref u) (first ++ x.pos) x.kw) Q E s₁) E s) : wpAny M A (callWith pos (.ref u) first args []) Q E s := by
  unfold callWith
  refine wpAny_bind (wpAny_holding (wpAny_mono h (fun x s₁ h₁ => wpAny_bind (wpAny_standAt ?_)) fun _ _ x => x))
  obtain ⟨ho, hcall⟩ := h₁
  simp only [hplain, List.any_nil, Bool.or_false]
  refine wpAny_bind (m := keeperOf (.ref u)) ?_
  unfold keeperOf
  refine wpAny_bind (wpAny_load ho ?_)
  simp only [show (Value.type "builtin_function_or_method" != Value.type "method") = true by decide, show (Value.type "builtin_function_or_method" == Value.type "builtin_function_or_method" || Value.type "builtin_function_or_method" == Value.type "method-wrapper") = true by decide, if_true]
  refine wpAny_pure ?_
  exact wpAny_bind (wpAny_mono hcall (fun r s₂ hr => wpAny_bind (wpAny_holding (wpAny_point (wpAny_pure hr)))) fun _ _ x => x)
theorem callWith_hex {pos : Pos} {u : Addr} {first : List Value} {env : Env} {e : Expr} {rest : List Expr} {Q : Value → Shared → Prop}
    (h : wpAny M A (spliced (backTo pos (starEach (e :: rest) env))) (fun vs s₁ => BoundAt u (.builtin "bytes.fromhex") (.type "bytes") s₁.heap ∧ wpAny M A (call (.ref u) (first ++ vs)) Q E s₁) E s)
    (he : starEach (e :: rest) env = (false, eval e env) :: starEach rest env := by rfl) (hplain : (backTo pos (starEach rest env)).any (·.1) = false := by rfl) :
    wpAny M A (callWith pos (.ref u) first (backTo pos (starEach (e :: rest) env)) []) Q E s := by
  rw [he] at h ⊢
  refine callWith_bnd (f := .builtin "bytes.fromhex") (self := .type "bytes") (by show (false || (backTo pos (starEach rest env)).any (·.1)) = false; rw [hplain]; rfl) ?_
  exact evalArgs_plain h
theorem check_hex {v : Str} {u : Tok} : checkBoundCall "bytes.fromhex" ⟨[.type "bytes", .str v u], []⟩ = pure () := by first | kernel_rfl | rfl
theorem call_hex {x : Addr} {a d : UInt8} {u : Tok} {Q : Value → Shared → Prop} (ho : BoundAt x (.builtin "bytes.fromhex") (.type "bytes") s.heap) (ha : hexB a = true) (hd : hexB d = true)
    (h : ∀ t' k, Q (.bytes #[two a d] t') { s with toks := k }) : wpAny (model prog w) A (call (.ref x) [.str ⟨#[a.toNat, d.toNat]⟩ u]) Q E s := by
  refine wpAny_call (codeAny_of_tree ?_)
  show wpAny _ A.in1 (callAny (.ref x) ⟨[.str ⟨#[a.toNat, d.toNat]⟩ u], []⟩) _ _ s
  simp only [callAny]
  refine wpAny_bind (wpAny_load ho ?_)
  simp only [show (Value.type "builtin_function_or_method" == Value.type "method" || Value.type "builtin_function_or_method" == Value.type "builtin_function_or_method" || Value.type "builtin_function_or_method" == Value.type "method-wrapper") = true by decide, if_true]
  refine KFB.if_so (by decide) ?_
  refine wpAny_bind (wpAny_of_eq (a := ()) check_hex ?_)
  refine wpAny_bind (wpAny_pure (wpAny_pure ?_))
  refine ⟨quiet_fromhex, codeAny_builtin entry_fromhex ?_⟩
  obtain ⟨n1, h1, _, e1⟩ := in22B ha
  obtain ⟨n2, h2, _, e2⟩ := in22B hd
  show wpAny _ _ (fromhexM .bytes ⟨[.type "bytes", .str ⟨#[a.toNat, d.toNat]⟩ u], []⟩) _ _ s
  rw [← e1, ← e2, hex_tree n1 h1 n2 h2]
  refine wpAny_bind (wpAny_mkBytes ?_ (by rw [sizeLine_eq]; show 1 ≤ _; decide))
  rw [e1, e2]
  exact wpAny_pure (h _ _)
theorem call_dec {a d : UInt8} {t : Tok} {Q : Value → Shared → Prop} (ha : hexB a = true) (hd : hexB d = true) (h : ∀ t' k, Q (.str ⟨#[a.toNat, d.toNat]⟩ t') { s with toks := k }) :
    wpAny (model prog w) A (call (.builtin "bytes.decode") [.bytes #[a, d] t]) Q E s := by
  obtain ⟨n1, h1, e1, e1'⟩ := in22B ha
  obtain ⟨n2, h2, e2, e2'⟩ := in22B hd
  refine KBd.decode (c := a) (cs := [d]) (x := ⟨#[a.toNat, d.toNat]⟩) (n := 2) (fun id => ?_) (by show 2 ≤ _; decide) h
  rw [← e1', ← e2', e1, e2]
  exact dec_tree n1 h1 n2 h2 id
theorem text_bytes {b : Array UInt8} {t : Tok} : reTextOf (.bytes b t) = pure (b.map (·.toNat), 1) := by
  unfold reTextOf
  rw [show asStr? (.bytes b t) = pure none from rfl, KBy.quiet_eq]
  rfl
theorem slice_two {b : Array UInt8} {i : Nat} (hi : i + 3 ≤ b.size) : ((b.map (·.toNat)).extract (i + 1) (i + 3)).map (·.toUInt8) = #[b.getD (i + 1) 0, b.getD (i + 2) 0] := by
  apply Array.ext
  · simp; omega
  · intro k h1 h2
    have hk : k < 2 := by simpa using h2
    match k, hk with
    | 0, _ => simp [Array.getD_eq_getD_getElem?, show i + 1 < b.size by omega]
    | 1, _ => simp [Array.getD_eq_getD_getElem?, show i + 2 < b.size by omega, show i + 1 + 1 = i + 2 by omega]
theorem meets_group {x tu : Addr} {b : Array UInt8} {t u : Tok} {i : Nat} (hi : i + 3 ≤ b.size) :
    Meets («re.Match.group» ⟨[.ref x, .int 1 u], []⟩) (fun _ R s => s.heap.get? x = some (matchObj b t tu) ∧ s.heap.get? tu = some (spanObj i) ∧ ∀ t' k, R (.ok (.ret (.bytes #[b.getD (i + 1) 0, b.getD (i + 2) 0] t'))) { s with toks := k }) := by
  refine .of_wp fun prog w A R s hS => ?_
  obtain ⟨hx, ht, h⟩ := hS
  unfold «re.Match.group»
  refine wpAny_bind (m := noKeywords "Match.group" _) (wpAny_of_eq (a := ()) (by first | rfl | kernel_rfl) ?_)
  refine wpAny_bind (m := reFound (.ref x)) ?_
  unfold reFound
  refine wpAny_bind (wpAny_fieldsOf hx rfl ?_)
  refine wpAny_bind (m := reRawItems (.ref tu)) ?_
  unfold reRawItems
  refine wpAny_bind (wpAny_seqItems ht rfl ?_)
  refine wpAny_pure (wpAny_pure ?_)
  have em : Array.map reRawOf ((some #[Value.int (i : Int) 0, Value.int ((i + 3 : Nat) : Int) 0, Value.int ((i + 1 : Nat) : Int) 0, Value.int ((i + 3 : Nat) : Int) 0]).getD #[]) = #[(i : Int), ((i + 3 : Nat) : Int), ((i + 1 : Nat) : Int), ((i + 3 : Nat) : Int)] := by
    simp [reRawOf]
  rw [em]
  refine wpAny_bind (m := reGroupNumber _ (.int 1 u)) ?_
  unfold reGroupNumber
  refine wpAny_bind (m := asInt? (.int 1 u)) (wpAny_pure ?_)
  refine KFB.if_so rfl ?_
  refine wpAny_bind (m := asIndex (.int 1 u)) (wpAny_of_eq (a := 1) rfl ?_)
  refine wpAny_ite ?_
  rw [if_neg (by show ¬ ((decide ((1 : Int) < 0) || decide ((2 * 1 : Int) ≥ (4 : Nat))) = true); decide)]
  refine wpAny_pure ?_
  refine wpAny_bind (m := reGroupText _ 1 .none) ?_
  unfold reGroupText
  show wpAny _ _ (if (decide (((i + 1 : Nat) : Int) < 0) || decide (((i + 3 : Nat) : Int) < 0)) = true then _ else _) _ _ s
  rw [if_neg (by simp; omega)]
  refine wpAny_bind (m := reTextOf (.bytes b t)) (wpAny_of_eq text_bytes ?_)
  show wpAny _ _ (mkBytes (((b.map (·.toNat)).extract (i + 1) (i + 3)).map (·.toUInt8))) _ _ s
  rw [slice_two hi]
  refine wpAny_mkBytes ?_ (by rw [sizeLine_eq]; show 2 ≤ _; decide)
  exact wpAny_pure ⟨_, rfl, h _ _⟩
end
end Mine

end PartLX
section PartTop01
open PySem PySem.W PyProof.Rows
set_option Elab.async false
namespace Mine
set_option maxRecDepth 100000 in
set_option maxHeartbeats 8000000 in
open_top hd for PySem.Challenge.rw_dn0015_01
end Mine

end PartTop01
section PartLM
open PySem PySem.W PyProof.Rows
set_option Elab.async false
namespace Mine
theorem bound_of {h₀ h : Heap} {L x : Addr} {f self : Value} {news : List (Addr × Obj)} (N : News h₀ L h news) (hm : (x, ({ cls := .type "builtin_function_or_method", data := .fields #[f, self] } : Obj)) ∈ news) : BoundAt x f self h := N.get hm
theorem group_method {M : Model} {A : Around} {E : Value → Shared → Prop} {s : Shared} {h₀ : Heap} {L x tu : Addr} {b : Array UInt8} {t : Tok} {news : List (Addr × Obj)} {pl : Sem Bool} {Q : Value × List Value → Shared → Prop} (N : News h₀ L s.heap news) (hx : (x, matchObj b t tu) ∈ news)
    (h : Q (.builtin "re.Match.group", [.ref x]) s) : wpAny M A (getMethod (.ref x) "group" pl) Q E s :=
  getMethod_builtin ⟨_, N.get hx, rfl⟩ plainAttrs_match slot_group type_group (fun _ e => by cases e; exact ⟨_, N.get hx, rfl⟩) h
theorem group_call {prog : Program} {w : World} {A : Around} {E : Value → Shared → Prop} {s : Shared} {h₀ : Heap} {L x tu : Addr} {b : Array UInt8} {t u : Tok} {i : Nat} {news : List (Addr × Obj)} {Q : Value → Shared → Prop} (N : News h₀ L s.heap news) (hx : (x, matchObj b t tu) ∈ news) (htu : (tu, spanObj i) ∈ news) (hi : i + 3 ≤ b.size)
    (h : ∀ t' k, Q (.bytes #[b.getD (i + 1) 0, b.getD (i + 2) 0] t') { s with toks := k }) : wpAny (model prog w) A (call (.builtin "re.Match.group") [.ref x, .int 1 u]) Q E s :=
  call_meets slot_group ⟨_, N.get hx, rfl⟩ entry_group (args_group _ _) (meets_group hi) ⟨N.get hx, N.get htu, h⟩
section
local macro_rules | `(tactic| walk_at "getMethod ref") => `(tactic| (k_here; (with_reducible show wpAny _ _ (getMethod (Value.ref _) (PySem.Str.ofString "group") _) _ _ _); k_dflt (refine group_method (by assumption) (List.mem_cons_of_mem _ (by assumption)) ?_)))
local macro_rules | `(tactic| walk_at "call builtin:re.Match.group") => `(tactic| (k_here; k_dflt (refine group_call (by assumption) (List.mem_cons_of_mem _ (by assumption)) (List.mem_cons_of_mem _ (by assumption)) (by assumption) ?_; intro t8 k8)))
local macro_rules | `(tactic| walk_at "call builtin:bytes.decode") => `(tactic| (k_here; k_dflt (refine call_dec (by assumption) (by assumption) ?_; intro t8 k8)))
local macro_rules | `(tactic| walk_at "call ref") => `(tactic| (k_here; (with_reducible show wpAny _ _ (call (Value.ref _) [Value.str _ _]) _ _ _); k_dflt (refine call_hex (bound_of (by assumption) List.mem_cons_self) (by assumption) (by assumption) ?_; intro t8 k8)))
local macro_rules | `(tactic| walk_at "getMethod type:bytes") => `(tactic| (k_here; k_dflt (refine' hex_getm ?kfbF ?kfbN ?kfbX ?kfbE ?_; (case kfbF => k_asm); (case kfbN => k_asm); (case kfbX => k_asm); (case kfbE => k_is); k_whole; intro x' h' F' N' l1)))
local macro_rules | `(tactic| walk_at "callWith ref") => `(tactic| (k_here; (with_reducible show wpAny _ _ (callWith _ (Value.ref _) _ (backTo _ (starEach (_ :: _) _)) []) _ _ _); k_dflt (refine' callWith_hex ?_; k_whole)))
local macro_rules | `(tactic| walk_at "And") => `(tactic| ((with_reducible show BoundAt _ _ _ _ ∧ _); k_dflt (refine ⟨bound_of (by k_asm) (by k_mem), ?_⟩); (try dsimp only [List.nil_append, List.cons_append])))
set_option maxRecDepth 100000 in
set_option maxHeartbeats 8000000 in
theorem lam_any {w : World} {p : Program} {loose : List Str} {mean : ExcName → Option Value} {mg mb : Str → Option Value} {b : Array UInt8} {t : Tok} {i : Nat} (hi : i + 3 ≤ b.size) (hxa : hexB (b.getD (i + 1) 0) = true) (hxd : hexB (b.getD (i + 2) 0) = true)
    {A : Around} {env : Env} {outer : List Env} {A₀ : Around} {base h₀ : Heap} {L : Addr} {m : Str → Option Value} {news : List (Addr × Obj)} {s : Shared} {Q E : Value → Shared → Prop} {x tu : Addr}
    (B : Below A₀ base outer h₀) (F : Fr h₀ L s.heap m) (X : (hd.heap_39 w.params).In h₀) (N : News h₀ L s.heap news) (T : Top p loose mean mg mb h₀) (hA : A.frames = some (env :: outer)) (hf : env.frame = some L) (hke : env.scope.kind = .function) (hroom : A.depth < recursionLimit)
    (hx : (x, matchObj b t tu) ∈ news) (htu : (tu, spanObj i) ∈ news)
    (hret : ∀ (t : Tok) (h' : Heap) (tk' : Nat), Fr h₀ L h' m → News h₀ L h' news → Q (.bytes #[two (b.getD (i + 1) 0) (b.getD (i + 2) 0)] t) { s with heap := h', toks := tk' }) :
      wpAny (model Challenge.rw_dn0015_01.row.prog w) A (call (.ref 50) [.ref x]) Q E s := by
  revert X
  w_top off
  k_fill
  intro X
  have hI0 : IntsAre [] [] := .nil
  refine wpAny_call ?_
  k_dflt (refine' ktl_code ?k1 ?k2 ?k3 ?k4 ?k5 ?kA ?kF ?kK ?k6 ?k7 ?k8 ?k9 ?kB ?_ ?c2 ?c3 ?c4 ?c5; (case kA => exact hA); (case kF => exact hf); (case kK => exact hke); (case k1 => k_asm); (case k2 => k_asm); (case k3 => k_asm); (case k4 => k_asm); (case k5 => k_asm); (case k6 => k_is); (case k7 => k_is); (case k8 => exact hroom); (case k9 => exact rfl); (case c5 => decide); (case kB => exact locs rfl); (case c2 => exact rfl); (case c3 => exact rfl); (case c4 => exact rfl); k_whole; intro g' L' h' FG' F' N' B' X' T'; (try dsimp only); (try k_fold))
  k_steps
  exact hret _ _ _ (by assumption) (cb_drop (by assumption) (fun p hp => List.mem_cons_of_mem _ hp))
end
end Mine

end PartLM
section PartQ2
namespace Mine
theorem T_get {l : List UInt8} {j : Nat} (h : j < l.length) : (l.toArray.map (·.toNat)).getD j 0 = (l[j]).toNat := by
  simp [Array.getD_eq_getD_getElem?, h]
theorem T_lt (b : Array UInt8) (j : Nat) : (b.map (·.toNat)).getD j 0 < 256 := by
  rw [Array.getD_eq_getD_getElem?]
  by_cases h : j < b.size
  · simp [h]; exact UInt8.toNat_lt _
  · simp [h]
theorem hexB_iff (c : UInt8) : fig c.toNat < 16 ↔ hexB c = true := by simp [hexB]
theorem mt_iff {l : List UInt8} {j : Nat} (h : j < l.length) : mt (l.toArray.map (·.toNat)) l.length j ↔ l[j] = 61 ∧ esc (l.drop (j + 1)) = true := by
  unfold mt
  rw [T_get h]
  have h61 : l[j].toNat = 61 ↔ l[j] = 61 := by
    constructor
    · intro e; exact UInt8.toNat_inj.mp e
    · intro e; rw [e]; rfl
  rw [h61]
  by_cases h3 : j + 3 ≤ l.length
  · rw [List.drop_eq_getElem_cons (show j + 1 < l.length by omega), List.drop_eq_getElem_cons (show j + 1 + 1 < l.length by omega), T_get (show j + 1 < l.length by omega), T_get (show j + 2 < l.length by omega), hexB_iff, hexB_iff]
    simp only [esc, Bool.and_eq_true, h3, true_and]
  · constructor
    · intro x; exact absurd x.1 h3
    · rintro ⟨_, e⟩
      obtain ⟨a, d, r, e, _⟩ := esc_out e
      have := congrArg List.length e
      simp at this
      omega
theorem qs_end {l : List UInt8} : ∀ (k d : Nat), d + k = l.length → (∀ j, d ≤ j → ¬ mt (l.toArray.map (·.toNat)) l.length j) → qs (l.drop d) = l.drop d := by
  intro k
  induction k with
  | zero => intro d hd _; rw [List.drop_of_length_le (by omega)]; rw [qs]
  | succ k ih =>
    intro d hd h
    have hlt : d < l.length := by omega
    rw [List.drop_eq_getElem_cons hlt, qs, if_neg (fun x => h d (Nat.le_refl _) ((mt_iff hlt).mpr x)), ih (d + 1) (by omega) (fun j hj => h j (by omega))]
theorem qs_hit {l : List UInt8} {i : Nat} (hi : mt (l.toArray.map (·.toNat)) l.length i) : ∀ (k d : Nat), d + k = i → (∀ j, d ≤ j → j < i → ¬ mt (l.toArray.map (·.toNat)) l.length j) →
    qs (l.drop d) = (l.take i).drop d ++ two (l.getD (i + 1) 0) (l.getD (i + 2) 0) :: qs (l.drop (i + 3)) := by
  intro k
  have h3 : i + 3 ≤ l.length := hi.1
  induction k with
  | zero =>
    intro d hd _
    have e : d = i := by omega
    subst e
    have hm := (mt_iff (show d < l.length by omega)).mp hi
    have e1 : l.drop d = l[d] :: l.drop (d + 1) := List.drop_eq_getElem_cons (by omega)
    have e2 : l.drop (d + 1) = l[d + 1] :: l[d + 2] :: l.drop (d + 3) := by
      rw [List.drop_eq_getElem_cons (show d + 1 < l.length by omega), List.drop_eq_getElem_cons (show d + 1 + 1 < l.length by omega)]
    rw [e1, qs, if_pos hm, e2]
    simp [two2, show d + 1 < l.length by omega, show d + 2 < l.length by omega]
  | succ k ih =>
    intro d hd h
    have hlt : d < l.length := by omega
    rw [List.drop_eq_getElem_cons hlt, qs, if_neg (fun x => h d (Nat.le_refl _) (by omega) ((mt_iff hlt).mpr x)), ih (d + 1) (by omega) (fun j hj hj' => h j (by omega) hj')]
    rw [List.drop_take, List.drop_take, List.drop_eq_getElem_cons hlt, show i - d = (i - (d + 1)) + 1 by omega, List.take_succ_cons, List.cons_append]
end Mine

end PartQ2
section PartSL
open PySem PySem.W PyProof.Rows PySem.Calls
set_option Elab.async false
namespace Mine
set_option maxRecDepth 100000
open PySem.Builtin PySem.Builtin.Bytes PySem.Builtin.Re
abbrev codeObj : Obj := { cls := .type "tuple", data := .seq #[.int 14 0, .int 8 0, .int 1 0, .int 3 0, .int 3 0, .int 1 0, .int 1 0, .int 61 0, .int 0 0, .int 16 0, .int 61 0, .int 17 0, .int 0 0, .int 24 0, .int 16 0, .int 2 0, .int 2 0, .int 13 0, .int 11 0, .int 9 0, .int 0 0, .int 67043328 0, .int 126 0, .int 126 0, .int 0 0, .int 0 0, .int 0 0, .int 0 0, .int 0 0, .int 1 0, .int 17 0, .int 1 0, .int 1 0] }
abbrev patObj : Obj := { cls := .type "re.Pattern", data := .fields #[.bytes #[61, 40, 91, 97, 45, 102, 65, 45, 70, 48, 45, 57, 93, 123, 50, 125, 41] 325, .int 0 361, .int 1 0, .none, .none, .ref 41, .int 1 0] }
abbrev tgt (b : Array UInt8) (t : Tok) : ReTarget := { pattern := .ref 42, string := .bytes b t, code := CD, text := b.map (·.toNat), kind := 1, groups := 1, pos := 0, lim := (b.map (·.toNat)).size }
section
variable {M : Model} {A : Around} {E : Value → Shared → Prop} {s : Shared}
theorem whole_any {b : Array UInt8} {t : Tok} {Q : ReTarget → Shared → Prop} (h42 : s.heap.get? 42 = some patObj) (h41 : s.heap.get? 41 = some codeObj) (h : Q (tgt b t) s) : wpAny M A (reWholeTarget (.ref 42) (.bytes b t)) Q E s := by
  unfold reWholeTarget
  refine wpAny_bind (wpAny_fieldsOf h42 rfl ?_)
  refine wpAny_bind (wpAny_of_eq text_bytes ?_)
  refine KFB.if_not rfl ?_
  refine KFB.if_not rfl ?_
  have en : reNoCollectionInside (.bytes b t) 1 = pure () := by
    unfold reNoCollectionInside
    rw [if_pos (by rfl), KBy.isInstance_eq]
    rfl
  refine wpAny_bind (wpAny_of_eq en ?_)
  refine wpAny_bind (m := reRawItems (.ref 41)) ?_
  unfold reRawItems
  refine wpAny_bind (wpAny_seqItems h41 rfl (wpAny_pure (wpAny_pure ?_)))
  have ec : (Array.map reRawOf ((some #[Value.int 14 0, .int 8 0, .int 1 0, .int 3 0, .int 3 0, .int 1 0, .int 1 0, .int 61 0, .int 0 0, .int 16 0, .int 61 0, .int 17 0, .int 0 0, .int 24 0, .int 16 0, .int 2 0, .int 2 0, .int 13 0, .int 11 0, .int 9 0, .int 0 0, .int 67043328 0, .int 126 0, .int 126 0, .int 0 0, .int 0 0, .int 0 0, .int 0 0, .int 0 0, .int 1 0, .int 17 0, .int 1 0, .int 1 0]).getD #[])).map (·.toNat) = CD := by
    simp [reRawOf]
  rw [ec]
  exact h
theorem new_match {b : Array UInt8} {t : Tok} {i : Nat} {m : Sre.M} {h₀ : Heap} {L : Addr} {mm : Str → Option Value} {news : List (Addr × Obj)} {Q : Value → Shared → Prop} (F : Fr h₀ L s.heap mm) (N : News h₀ L s.heap news)
    (h1 : m.start = i) (h2 : m.handed = i + 3) (h3 : m.lastmark = 1) (h4 : m.lastindex = 1) (h5 : m.marks = #[some (i + 1), some (i + 3)])
    (h : ∀ tu x h', Fr h₀ L h' mm → News h₀ L h' ((x, matchObj b t tu) :: (tu, spanObj i) :: news) → Q (.ref x) { s with heap := h' }) : wpAny M A (reNewMatch (.ref 42) (.bytes b t) 1 0 (b.map (·.toNat)).size m) Q E s := by
  unfold reNewMatch
  rw [h1, h2, h3, h4, h5, Array.size_map]
  show wpAny M A (if ((decide (((1 : Nat) : Int) ≤ 1) && decide (i + 3 < i + 1)) || false) = true then _ else
    (newTuple [.int (i : Int) 0, .int ((i + 3 : Nat) : Int) 0, .int ((i + 1 : Nat) : Int) 0, .int ((i + 3 : Nat) : Int) 0] >>= fun tup => newFields "re.Match" [.bytes b t, .ref 42, .int 0 0, .int (b.size : Int) 0, .int 1 0, tup])) Q E s
  rw [decide_eq_false (by omega : ¬ i + 3 < i + 1)]
  refine KFB.if_not rfl ?_
  refine wpAny_bind (m := newTuple _) ?_
  refine newTuple_N F N (fun h' F' N' => ?_) (by rw [sizeLine_eq]; show 4 ≤ _; decide)
  refine wpAny_newObj_type ?_
  exact h _ _ _ (F'.push _) (N'.push F' _)
theorem push_any {vs : List Value} {ep : Nat} {v : Value} {pc : Addr} {h₀ : Heap} {L : Addr} {mm : Str → Option Value} {news : List (Addr × Obj)} {Q : Unit → Shared → Prop} (F : Fr h₀ L s.heap mm) (N : News h₀ L s.heap ((pc, W.listOf vs.toArray ep) :: news))
    (hne : ∀ q ∈ news, q.1 ≠ pc) (hz : vs.length ≤ 1000000) (h : ∀ h', Fr h₀ L h' mm → News h₀ L h' ((pc, W.listOf (vs ++ [v]).toArray (ep + 1)) :: news) → Q () { s with heap := h' }) : wpAny M A (updateSeq pc (·.push v)) Q E s := by
  have z := N _ List.mem_cons_self
  refine wpAny_updateSeq z.1 rfl (h _ (F.change (Heap.SameBut.update ..) z.2.1 z.2.2) (kl_turn (pre := []) _ N (fun _ hp => nomatch hp) hne ?_ ?_)) (by rw [sizeLine_eq, List.size_toArray]; omega) (by rw [sizeLine_eq]; simp; omega)
  · simp
  · simp
end
end Mine

end PartSL
section PartSM
open PySem PySem.W PyProof.Rows PySem.Calls
set_option Elab.async false
namespace Mine
set_option maxRecDepth 100000
open PySem.Builtin PySem.Builtin.Bytes PySem.Builtin.Re
abbrev loopArgs (b : Array UInt8) (t : Tok) (n : Int) (d : Nat) (pc : Addr) : Args := ⟨[.ref 42, .bytes b t, .ref 50, .int 1 0, .int 0 0, .int n 0, .int (d : Int) 0, .int (d : Int) 0, .bool false, .ref pc, .bool false], []⟩
theorem cat_app (bs cs : List (Array UInt8)) : catB (bs ++ cs) = catB bs ++ catB cs := by
  apply Array.toList_inj.mp; simp [catB]
theorem cat_one (b : Array UInt8) : catB [b] = b := by simp [catB]
theorem slice_any {M : Model} {A : Around} {E : Value → Shared → Prop} {s : Shared} {b : Array UInt8} {i j : Nat} {Q : Value → Shared → Prop} (hb : b.size ≤ 1000000) (h : Q (.bytes (b.extract i j) s.toks) { s with toks := s.toks + 1 }) :
    wpAny M A (reSlice (b.map (·.toNat)) 1 i j) Q E s := by
  show wpAny M A (mkBytes (((b.map (·.toNat)).extract i j).map (·.toUInt8))) Q E s
  have e : ((b.map (·.toNat)).extract i j).map (·.toUInt8) = b.extract i j := by
    rw [← Array.map_extract]
    simp [Function.comp_def]
  rw [e]
  exact wpAny_mkBytes h (by rw [sizeLine_eq]; simp; omega)
abbrev tailTree (b : Array UInt8) (t : Tok) (n : Int) (mm : Sre.M) (pc : Addr) : Sem PySem.Fin := do
  let found ← reNewMatch (.ref 42) (.bytes b t) 1 0 (b.map (·.toNat)).size mm
  let item ← holding [found] (call (.ref 50) [found])
  if (item != Value.none) = true then do
    let _ ← updateSeq pc fun x => x.push item
    again (.builtin "re.Pattern.sub.loop" ⟨[.ref 42, .bytes b t, .ref 50, rawInt 1, rawInt 0, rawInt (n + 1), rawInt (mm.handed : Int), rawInt (mm.handed : Int), .bool (mm.handed == mm.start), .ref pc, .bool false], []⟩)
  else again (.builtin "re.Pattern.sub.loop" ⟨[.ref 42, .bytes b t, .ref 50, rawInt 1, rawInt 0, rawInt (n + 1), rawInt (mm.handed : Int), rawInt (mm.handed : Int), .bool (mm.handed == mm.start), .ref pc, .bool false], []⟩)
set_option maxHeartbeats 4000000 in
theorem tail_any {w : World} {p : Program} {loose : List Str} {mean : ExcName → Option Value} {mg mb : Str → Option Value} {b : Array UInt8} {t : Tok} {A : Around} {env : Env} {outer : List Env} {A₀ : Around} {base h₀ : Heap} {L : Addr} {m : Str → Option Value} {news : List (Addr × Obj)} {s : Shared} {P : PySem.Fin → Shared → Prop} {E : Value → Shared → Prop} {pc : Addr}
    {vs : List Value} {ep : Nat} {i : Nat} {n : Int} {mm : Sre.M}
    (B : Below A₀ base outer h₀) (F : Fr h₀ L s.heap m) (X : (hd.heap_39 w.params).In h₀) (N : News h₀ L s.heap ((pc, W.listOf vs.toArray ep) :: news)) (T : Top p loose mean mg mb h₀) (hA : A.frames = some (env :: outer)) (hf : env.frame = some L) (hke : env.scope.kind = .function) (hroom : A.depth < recursionLimit)
    (hne : ∀ q ∈ news, q.1 ≠ pc) (hi : i + 3 ≤ b.size) (hxa : hexB (b.getD (i + 1) 0) = true) (hxd : hexB (b.getD (i + 2) 0) = true) (hz : vs.length ≤ 1000000)
    (h1 : mm.start = i) (h2 : mm.handed = i + 3) (h3 : mm.lastmark = 1) (h4 : mm.lastindex = 1) (h5 : mm.marks = #[some (i + 1), some (i + 3)])
    (h : ∀ tok h' tk', Fr h₀ L h' m → News h₀ L h' ((pc, W.listOf (vs ++ [Value.bytes #[two (b.getD (i + 1) 0) (b.getD (i + 2) 0)] tok]).toArray (ep + 1)) :: news) → P (.again (.builtin "re.Pattern.sub.loop" (loopArgs b t (n + 1) (i + 3) pc))) { s with heap := h', toks := tk' }) :
    wpAny (model Challenge.rw_dn0015_01.row.prog w) A (tailTree b t n mm pc) P E s := by
  refine wpAny_bind (new_match F N h1 h2 h3 h4 h5 fun tu x h' F' N' => ?_)
  refine wpAny_bind (wpAny_holding ?_)
  refine lam_any (tu := tu) hi hxa hxd B F' X N' T hA hf hke hroom List.mem_cons_self (List.mem_cons_of_mem _ List.mem_cons_self) fun tok h'' tk'' F'' N'' => ?_
  refine KFB.if_so (by rfl) ?_
  refine wpAny_bind (push_any F'' (fun q hq => N'' q (List.mem_cons_of_mem _ (List.mem_cons_of_mem _ hq))) hne hz fun h3 F3 N3 => ?_)
  have eb : (mm.handed == mm.start) = false := by rw [h1, h2]; simp
  rw [eb, h2]
  exact wpAny_pure (h tok h3 tk'' F3 N3)
abbrev endTree (b : Array UInt8) (pc : Addr) : Sem PySem.Fin := do
  let joiner ← reSlice (b.map (·.toNat)) 1 0 0
  let its ← seqItems? (.ref pc)
  if (its.getD #[]).isEmpty = true then do
    let text ← pure joiner
    ret text
  else do
    let text ← call (.builtin "bytes.join") [joiner, .ref pc]
    ret text
theorem end_any {prog : Program} {w : World} {A : Around} {h₀ : Heap} {L : Addr} {m : Str → Option Value} {news : List (Addr × Obj)} {s : Shared} {P : PySem.Fin → Shared → Prop} {E : Value → Shared → Prop} {pc : Addr} {b : Array UInt8} {vs : List Value} {bs : List (Array UInt8)} {ep : Nat}
    (hb : b.size ≤ 1000000) (F : Fr h₀ L s.heap m) (N : News h₀ L s.heap ((pc, W.listOf vs.toArray ep) :: news)) (hB : BAre vs bs) (hz : (catB bs).size ≤ 16777216)
    (h : ∀ tok tk', P (.done (.ret (.bytes (catB bs) tok))) { s with toks := tk' }) : wpAny (model prog w) A (endTree b pc) P E s := by
  refine wpAny_bind (slice_any hb ?_)
  have hp := (N _ List.mem_cons_self).1
  refine wpAny_bind (wpAny_seqItems hp rfl ?_)
  have e0 : b.extract 0 0 = #[] := by simp
  by_cases hv : vs = []
  · subst hv
    cases hB
    refine KFB.if_so (by rfl) ?_
    rw [e0]
    exact wpAny_bind (wpAny_pure (wpAny_pure (h _ _)))
  · refine KFB.if_not (by simpa using hv) ?_
    rw [e0]
    refine wpAny_bind (join_any hB hv hz hp fun t' k => ?_)
    exact wpAny_pure (h _ _)
set_option maxHeartbeats 4000000 in
theorem loop_any {w : World} {p : Program} {loose : List Str} {mean : ExcName → Option Value} {mg mb : Str → Option Value} {b : Array UInt8} {t : Tok} (hb : b.size ≤ 1000000)
    {A : Around} {env : Env} {outer : List Env} {A₀ : Around} {base h₀ : Heap} {L : Addr} {m : Str → Option Value} {news : List (Addr × Obj)} {s₀ : Shared} {R : Result → Shared → Prop} {pc : Addr} {V : Array UInt8}
    (B : Below A₀ base outer h₀) (X : (hd.heap_39 w.params).In h₀) (T : Top p loose mean mg mb h₀) (hA : A.frames = some (env :: outer)) (hf : env.frame = some L) (hke : env.scope.kind = .function) (hroom : A.depth < recursionLimit)
    (hne : ∀ q ∈ news, q.1 ≠ pc)
    (hR : ∀ tok h' tk', Fr h₀ L h' m → News h₀ L h' news → R (.ok (.ret (.bytes V tok))) { s₀ with heap := h', toks := tk' }) :
    ∀ (k d : Nat) (n : Int) (vs : List Value) (bs : List (Array UInt8)) (ep : Nat) (h : Heap) (tk : Nat), b.size - d = k → d ≤ b.size → BAre vs bs → vs.length ≤ d → (catB bs).size ≤ d → catB bs ++ (qs (b.toList.drop d)).toArray = V →
      Fr h₀ L h m → News h₀ L h ((pc, W.listOf vs.toArray ep) :: news) →
      codeAny (model Challenge.rw_dn0015_01.row.prog w) A (.builtin "re.Pattern.sub.loop" (loopArgs b t n d pc)) R { s₀ with heap := h, toks := tk } := by
  intro k
  induction k using Nat.strongRecOn with
  | ind k ih =>
    intro d n vs bs ep h tk hk hd hB hvl hcl hV F N
    have h42 : h.get? 42 = some patObj := F.keep _ _ (X 42 _ rfl)
    have h41 : h.get? 41 = some codeObj := F.keep _ _ (X 41 _ rfl)
    have hlist : b.toList.toArray = b := by simp
    have hlen : b.toList.length = b.size := Array.length_toList
    refine codeAny_builtin entry_loop ?_
    rw [Around.under_plainId plain_loop _]
    unfold «re.Pattern.sub.loop»
    refine wpAny_bind (m := reWholeTarget (.ref 42) (.bytes b t)) (whole_any h42 h41 ?_)
    refine KFB.if_not rfl ?_
    refine wpAny_bind ?_
    refine KFB.if_not rfl ?_
    refine next_any rfl rfl (T_lt b) (by show d ≤ (b.map (·.toNat)).size; rw [Array.size_map]; exact hd) (by show (b.map (·.toNat)).size ≤ _; rw [Array.size_map]; exact hb) ?_
    intro mm hT
    have hT' : Told (b.toList.toArray.map (·.toNat)) b.toList.length d mm := by
      have e1 : (tgt b t).text = b.toList.toArray.map (·.toNat) := by show b.map (·.toNat) = _; rw [hlist]
      have e2 : (tgt b t).lim = b.toList.length := by show (b.map (·.toNat)).size = _; rw [Array.size_map, hlen]
      rw [e1, e2] at hT; exact hT
    rcases hT' with ⟨i, hi, hm, hno, o1, o2, o3, o4, o5, o6⟩ | ⟨hno, o1⟩
    · refine ⟨fun _ => ?_, fun e => by rw [o1] at e; cases e⟩
      have hi3 : i + 3 ≤ b.size := by rw [← hlen]; exact hm.1
      have hq := qs_hit hm (i - d) d (by omega) hno
      have hxa : hexB (b.getD (i + 1) 0) = true := by
        have := hm.2.2.1; rw [hlist] at this
        rw [← hexB_iff]
        simpa [Array.getD_eq_getD_getElem?, show i + 1 < b.size by omega] using this
      have hxd : hexB (b.getD (i + 2) 0) = true := by
        have := hm.2.2.2; rw [hlist] at this
        rw [← hexB_iff]
        simpa [Array.getD_eq_getD_getElem?, show i + 2 < b.size by omega] using this
      by_cases hdi : d < i
      · show wpAny _ _ (if ((d : Int)).toNat < mm.start then (reSlice (b.map (·.toNat)) 1 ((d : Int)).toNat mm.start >>= fun v => updateSeq pc (fun x => x.push v) >>= fun _ => tailTree b t n mm pc) else tailTree b t n mm pc) _ _ _
        rw [if_pos (by rw [o2]; simpa using hdi)]
        refine wpAny_bind (slice_any hb ?_)
        refine wpAny_bind (push_any F N hne (by omega) fun h' F' N' => ?_)
        refine tail_any B F' X N' T hA hf hke hroom hne hi3 hxa hxd (by simp; omega) o2 o3 o4 o5 o6 fun tok h'' tk'' F'' N'' => ?_
        refine ⟨plainId_quiet plain_loop _, ?_⟩
        rw [Int.toNat_natCast, o2] at N''
        refine ih (b.size - (i + 3)) (by omega) (i + 3) (n + 1) _ (bs ++ [b.extract d i] ++ [#[two (b.getD (i + 1) 0) (b.getD (i + 2) 0)]]) _ h'' tk'' rfl hi3 ((hB.append (.cons _ _ .nil)).append (.cons _ _ .nil)) (by simp; omega) (by rw [cat_app, cat_app, cat_one, cat_one]; simp; omega) ?_ F'' N''
        rw [cat_app, cat_app, cat_one, cat_one, ← hV, hq]
        apply Array.toList_inj.mp
        simp [List.drop_take]
      · have hde : d = i := by omega
        show wpAny _ _ (if ((d : Int)).toNat < mm.start then (reSlice (b.map (·.toNat)) 1 ((d : Int)).toNat mm.start >>= fun v => updateSeq pc (fun x => x.push v) >>= fun _ => tailTree b t n mm pc) else tailTree b t n mm pc) _ _ _
        rw [if_neg (by rw [o2]; simpa using hdi)]
        refine tail_any B F X N T hA hf hke hroom hne hi3 hxa hxd (by omega) o2 o3 o4 o5 o6 fun tok h'' tk'' F'' N'' => ?_
        refine ⟨plainId_quiet plain_loop _, ?_⟩
        refine ih (b.size - (i + 3)) (by omega) (i + 3) (n + 1) _ (bs ++ [#[two (b.getD (i + 1) 0) (b.getD (i + 2) 0)]]) _ h'' tk'' rfl hi3 (hB.append (.cons _ _ .nil)) (by simp; omega) (by rw [cat_app, cat_one]; simp; omega) ?_ F'' N''
        rw [cat_app, cat_one, ← hV, hq]
        apply Array.toList_inj.mp
        simp [hde]
    · refine ⟨fun e => (by rw [o1] at e; cases e), fun _ => ?_⟩
      have hq := qs_end (b.size - d) d (by omega) hno
      rw [hq] at hV
      by_cases hdi : d < b.size
      · show wpAny _ _ (if ((d : Int)).toNat < (b.map (·.toNat)).size then (reSlice (b.map (·.toNat)) 1 ((d : Int)).toNat (b.map (·.toNat)).size >>= fun v => updateSeq pc (fun x => x.push v) >>= fun _ => endTree b pc) else endTree b pc) _ _ _
        rw [Array.size_map, if_pos (by simpa using hdi)]
        refine wpAny_bind (slice_any hb ?_)
        refine wpAny_bind (push_any F N hne (by omega) fun h' F' N' => ?_)
        have ee : catB (bs ++ [b.extract ((d : Int)).toNat b.size]) = V := by
          rw [cat_app, cat_one, ← hV, Int.toNat_natCast]
          apply Array.toList_inj.mp
          simp
          exact List.take_of_length_le (by simp)
        refine end_any hb F' N' (hB.append (.cons _ _ .nil)) (by rw [cat_app, cat_one]; simp; omega) fun tok tk' => ?_
        rw [ee]
        exact hR _ _ _ F' (fun q hq => N' q (List.mem_cons_of_mem _ hq))
      · show wpAny _ _ (if ((d : Int)).toNat < (b.map (·.toNat)).size then (reSlice (b.map (·.toNat)) 1 ((d : Int)).toNat (b.map (·.toNat)).size >>= fun v => updateSeq pc (fun x => x.push v) >>= fun _ => endTree b pc) else endTree b pc) _ _ _
        rw [Array.size_map, if_neg (by simpa using hdi)]
        have ee : catB bs = V := by
          rw [← hV, List.drop_of_length_le (by omega)]; simp
        refine end_any hb F N hB (by omega) fun tok tk' => ?_
        rw [ee]
        exact hR _ _ _ F (fun q hq => N q (List.mem_cons_of_mem _ hq))
end Mine

end PartSM
section PartPT
open PySem PySem.W PyProof.Rows PySem.Calls
set_option Elab.async false
namespace Mine
set_option maxRecDepth 100000
open PySem.Builtin PySem.Builtin.Bytes PySem.Builtin.Re
theorem sig_sub : Manifest.signature? "re.Pattern.sub" = some ⟨.keywords, "Pattern.sub", "sub", .self, [⟨"repl", .posOrKw, true⟩, ⟨"string", .posOrKw, true⟩, ⟨"count", .posOrKw, false⟩]⟩ := by kernel_rfl
theorem kind_sub : builtinKind "re.Pattern.sub" = some .method := by kernel_rfl
theorem chk_sub {x y z : Value} : Bind.checkArgs "re.Pattern.sub" ⟨.keywords, "Pattern.sub", "sub", .self, [⟨"repl", .posOrKw, true⟩, ⟨"string", .posOrKw, true⟩, ⟨"count", .posOrKw, false⟩]⟩ ⟨[x, y, z], []⟩ = pure () := by kernel_rfl
theorem sub_mod : isSubtype (.type "re.Pattern") (.type "module") = pure false := by rw [isSubtype_type]; kernel_rfl
theorem quiet_sub {as : Args} : (Code.builtin "re.Pattern.sub" as).quiet = true := Code.quiet_builtin _ (by decide +kernel)
theorem plain_sub : plainId "re.Pattern.sub" = true := by decide +kernel
theorem look_fn_call : ∃ v, typeLookup (.type "function") "__call__" = pure (some v) := ⟨.builtin "function.__call__", by rw [typeLookup_type, builtinLookup_eq_fast]; kernel_rfl⟩
theorem named_sub {b : Array UInt8} {t : Tok} : reNamed "re.Pattern.sub" "sub" ["repl", "string", "count"] 2 [.ref 50, .bytes b t] [] = pure [some (.ref 50), some (.bytes b t), none] := by kernel_rfl
theorem not_ba {b : Array UInt8} {t : Tok} : isInstance (.bytes b t) (.type "bytearray") = pure false := by
  have e : isInstance (.bytes b t) (.type "bytearray") = isSubtype (.type "bytes") (.type "bytearray") := rfl
  rw [e, isSubtype_type]; kernel_rfl
theorem check_sub {M : Model} {A : Around} {E : Value → Shared → Prop} {s : Shared} {Q : Unit → Shared → Prop} {y z : Value} (h42 : s.heap.get? 42 = some patObj) (h : Q () s) : wpAny M A (checkBoundCall "re.Pattern.sub" ⟨[.ref 42, y, z], []⟩) Q E s := by
  have hT : s.TypeIs (.ref 42) "re.Pattern" := ⟨_, h42, rfl⟩
  unfold checkBoundCall
  rw [sig_sub, kind_sub]
  dsimp only
  refine KFB.if_not (by rfl) ?_
  refine wpAny_bind (wpAny_isInstance hT sub_mod ?_)
  refine KFB.if_not (by decide +kernel) ?_
  refine wpAny_bind (m := isType (.ref 42)) (wpAny_bind (wpAny_loadPart h42 (wpAny_pure ?_)))
  refine KFB.if_not (by rfl) ?_
  refine wpAny_bind (wpAny_typeOf hT ?_)
  have e : toString (Bind.lastOf "re.Pattern") ++ toString "." ++ toString (Bind.lastOf "re.Pattern.sub") = "Pattern.sub" := by decide +kernel
  dsimp only
  rw [e]
  exact wpAny_of_eq chk_sub h
theorem not_held {M : Model} {A : Around} {E : Value → Shared → Prop} {s : Shared} {Q : Unit → Shared → Prop} {id : String} {b : Array UInt8} {t : Tok} (h : Q () s) : wpAny M A (reNotHeld id (.bytes b t)) Q E s := by
  unfold reNotHeld
  refine wpAny_bind (wpAny_of_eq not_ba ?_)
  exact wpAny_pure h
set_option maxHeartbeats 4000000 in
theorem sub_any {w : World} {p : Program} {loose : List Str} {mean : ExcName → Option Value} {mg mb : Str → Option Value} {b : Array UInt8} {t : Tok} (hb : b.size ≤ 1000000)
    {A : Around} {env : Env} {outer : List Env} {A₀ : Around} {base h₀ : Heap} {L : Addr} {m : Str → Option Value} {news : List (Addr × Obj)} {s : Shared} {R : Result → Shared → Prop}
    (B : Below A₀ base outer h₀) (F : Fr h₀ L s.heap m) (X : (hd.heap_39 w.params).In h₀) (N : News h₀ L s.heap news) (T : Top p loose mean mg mb h₀) (hA : A.frames = some (env :: outer)) (hf : env.frame = some L) (hke : env.scope.kind = .function) (hroom : A.depth < recursionLimit)
    (hR : ∀ tok h' tk', Fr h₀ L h' m → News h₀ L h' news → R (.ok (.ret (.bytes (qs b.toList).toArray tok))) { s with heap := h', toks := tk' }) :
    codeAny (model Challenge.rw_dn0015_01.row.prog w) A (.call (.ref 43) ⟨[.ref 50, .bytes b t], []⟩) R s := by
  have g43 := F.keep _ _ (X 43 _ rfl)
  have g42 : s.heap.get? 42 = some patObj := F.keep _ _ (X 42 _ rfl)
  have g41 : s.heap.get? 41 = some codeObj := F.keep _ _ (X 41 _ rfl)
  have g50 := F.keep _ _ (X 50 _ rfl)
  refine codeAny_of_tree ?_
  show wpAny _ A.in1 (callAny (.ref 43) ⟨[.ref 50, .bytes b t], []⟩) _ _ s
  simp only [callAny]
  refine wpAny_bind (wpAny_load g43 ?_)
  simp only [show (Value.type "builtin_function_or_method" == Value.type "method" || Value.type "builtin_function_or_method" == Value.type "builtin_function_or_method" || Value.type "builtin_function_or_method" == Value.type "method-wrapper") = true by decide, if_true]
  refine KFB.if_so (by decide) ?_
  refine wpAny_bind (check_sub g42 ?_)
  refine wpAny_bind (wpAny_pure (wpAny_pure ?_))
  refine ⟨quiet_sub, codeAny_builtin entry_sub ?_⟩
  rw [Around.under_plainId plain_sub _]
  show wpAny _ _ (reSubstitute "re.Pattern.sub" "sub" false _) _ _ s
  unfold reSubstitute
  refine wpAny_bind (m := reNamed "re.Pattern.sub" "sub" ["repl", "string", "count"] 2 [.ref 50, .bytes b t] []) (wpAny_of_eq named_sub ?_)
  dsimp only
  obtain ⟨fc, hfc⟩ := look_fn_call
  refine wpAny_bind (wpAny_pure ?_)
  refine wpAny_bind (wpAny_specialOf (T := "function") ⟨_, g50, rfl⟩ hfc ?_)
  refine KFB.if_so rfl (wpAny_bind (wpAny_pure (KFB.if_so rfl (wpAny_bind (wpAny_pure ?_)))))
  refine wpAny_bind (wpAny_holding (whole_any (b := b) (t := t) g42 g41 ?_))
  refine KFB.if_so rfl ?_
  refine wpAny_bind (not_held ?_)
  refine wpAny_bind (newList_N F N (fun h' F' N' => ?_) (by rw [sizeLine_eq]; show 0 ≤ _; omega))
  refine wpAny_pure ⟨plainId_quiet plain_loop _, ?_⟩
  refine loop_any (V := (qs b.toList).toArray) (s₀ := s) hb B X T hA hf hke hroom (fun q hq => Nat.ne_of_lt (Heap.lt_size (N q hq).1)) hR (b.size - 0) 0 0 [] [] 0 h' s.toks rfl (Nat.zero_le _) .nil (Nat.le_refl _) (by simp [catB]) (by simp [catB]) F' N'
end Mine

end PartPT
section PartPU
open PySem PySem.W PyProof.Rows PySem.Calls
set_option Elab.async false
namespace Mine
set_option maxRecDepth 100000
open PySem.Builtin
theorem slotG_partial : SlotG "functools.partial" "__call__" "functools.partial.__call__" :=
  .of (owner := "functools.partial") (n := "__call__") slot_partial (by decide +kernel) (by decide +kernel) (by decide +kernel)
    (by first | exact .inl (by decide +kernel) | exact .inr (by decide +kernel)) (by rw [isSubtype_type]; kernel_rfl)
theorem args_partial (a b : Value) : argsOk "functools.partial.__call__" ⟨[a, b], []⟩ := by unfold argsOk; kernel_rfl
theorem quiet_partial {as : Args} : (Code.builtin "functools.partial.__call__" as).quiet = true := Code.quiet_builtin _ (by decide +kernel)
theorem under_partial {A : Around} {as : Args} : (A.under (.builtin "functools.partial.__call__" as)).frames = A.frames ∧ (A.under (.builtin "functools.partial.__call__" as)).depth = A.depth + 1 ∧ (A.under (.builtin "functools.partial.__call__" as)).units = A.units + 1 := by
  refine ⟨?_, ?_, ?_⟩
  · show pushEnvs (Code.envs (.builtin "functools.partial.__call__" as)) A.frames = A.frames
    rfl
  · show A.depth + (Code.builtin "functools.partial.__call__" as).weight = A.depth + 1
    rfl
  · show A.units + (Code.builtin "functools.partial.__call__" as).cUnits = A.units + 1
    rfl
set_option maxHeartbeats 4000000 in
theorem partial_any {w : World} {p : Program} {loose : List Str} {mean : ExcName → Option Value} {mg mb : Str → Option Value} {b : Array UInt8} {t : Tok} (hb : b.size ≤ 1000000)
    {A : Around} {env : Env} {outer : List Env} {A₀ : Around} {base h₀ : Heap} {L : Addr} {m : Str → Option Value} {news : List (Addr × Obj)} {s : Shared} {Q E : Value → Shared → Prop}
    (B : Below A₀ base outer h₀) (F : Fr h₀ L s.heap m) (X : (hd.heap_39 w.params).In h₀) (N : News h₀ L s.heap news) (T : Top p loose mean mg mb h₀) (hA : A.frames = some (env :: outer)) (hf : env.frame = some L) (hke : env.scope.kind = .function) (hroom : A.depth + 1 < recursionLimit) (hu : A.units + 4 < cLine)
    (h : ∀ tok h' tk', Fr h₀ L h' m → News h₀ L h' news → Q (.bytes (qs b.toList).toArray tok) { s with heap := h', toks := tk' }) :
    wpAny (model Challenge.rw_dn0015_01.row.prog w) A (call (.ref 53) [.bytes b t]) Q E s := by
  have g53 := F.keep _ _ (X 53 _ rfl)
  have g52 := F.keep _ _ (X 52 _ rfl)
  have g51 := F.keep _ _ (X 51 _ rfl)
  have hT : s.TypeIs (.ref 53) "functools.partial" := ⟨_, g53, rfl⟩
  refine wpAny_call (codeAny_of_tree ?_)
  show wpAny _ A.in1 (callAny (.ref 53) ⟨[.bytes b t], []⟩) _ _ s
  simp only [callAny]
  refine wpAny_bind (wpAny_load g53 ?_)
  refine KFB.if_not (by decide) ?_
  unfold callAny.viaDunder
  refine wpAny_bind (wpAny_specialOf hT slotG_partial.lookup ?_)
  dsimp only
  rw [slotG_partial.bind]
  refine wpAny_bind (wpAny_pure ?_)
  refine wpAny_bind (m := callAny.plainCallee _) (wpAny_pure ?_)
  refine KFB.if_not (by decide) ?_
  refine wpAny_bind (wpAny_cRoom (by show A.units + 1 < cLine; omega) ?_)
  refine wpAny_bind (wpAny_runValue (codeAny_call_builtin_at quiet_partial entry_partial (slotG_partial.check _ _ _ _ _ _ _ _ hT (args_partial _ _) ?_)))
  obtain ⟨u1, u2, u3⟩ := under_partial (A := A.in1) (as := ⟨[.ref 53, .bytes b t], []⟩)
  show wpAny _ (A.in1.under (.builtin "functools.partial.__call__" ⟨[.ref 53, .bytes b t], []⟩)) (Builtin.«functools.partial.__call__» ⟨[.ref 53, .bytes b t], []⟩) _ _ s
  unfold Builtin.«functools.partial.__call__»
  refine wpAny_bind (wpAny_cRoom (by rw [u3]; show A.units + 1 + 1 < cLine; omega) ?_)
  refine wpAny_bind (m := field (.ref 53) 2) (wpAny_field g53 rfl rfl ?_)
  refine wpAny_bind (m := (notTheModulesDict "functools.partial:keywords" 51 >>= fun _ => dictEntries 51)) (wpAny_bind (wpAny_of_eq (a := ()) rfl (wpAny_dictEntries g51 rfl ?_)))
  refine wpAny_bind (m := forIn (#[] : Array DictEntry) [] _) (wpAny_pure ?_)
  refine wpAny_bind (m := field (.ref 53) 1) (wpAny_field g53 rfl rfl ?_)
  refine wpAny_bind (m := seqItems? (.ref 52)) (wpAny_seqItems g52 rfl ?_)
  refine wpAny_bind (m := field (.ref 53) 0) (wpAny_field g53 rfl rfl ?_)
  refine wpAny_bind (wpAny_holding ?_)
  show wpAny _ _ (call (.ref 43) [.ref 50, .bytes b t] []) _ _ s
  refine wpAny_call (sub_any hb B F X N T (by rw [u1]; exact hA) hf hke (by rw [u2]; exact hroom) fun tok h' tk' F' N' => ?_)
  exact wpAny_pure (wpAny_pure (h tok h' tk' F' N'))
end Mine

end PartPU
section PartDQ
open PySem PySem.W PyProof.Rows PySem.Calls
set_option Elab.async false
namespace Mine
def PartAt (h : Heap) : Prop := h.get? 53 = some { cls := .type "functools.partial", data := .fields #[.ref 43, .ref 52, .ref 51] }
theorem part_of {w : World} {h₀ h : Heap} {L : Addr} {m : Str → Option Value} (F : Fr h₀ L h m) (X : (hd.heap_39 w.params).In h₀) : PartAt h := F.keep _ _ (X 53 _ rfl)
theorem callWith_part {M : Model} {A : Around} {E : Value → Shared → Prop} {s : Shared} {pos : Pos} {first : List Value} {env : Env} {e : Expr} {rest : List Expr} {Q : Value → Shared → Prop}
    (h : wpAny M A (spliced (backTo pos (starEach (e :: rest) env))) (fun vs s₁ => PartAt s₁.heap ∧ wpAny M A (call (.ref 53) (first ++ vs)) Q E s₁) E s)
    (he : starEach (e :: rest) env = (false, eval e env) :: starEach rest env := by rfl) (hplain : (backTo pos (starEach rest env)).any (·.1) = false := by rfl) :
    wpAny M A (callWith pos (.ref 53) first (backTo pos (starEach (e :: rest) env)) []) Q E s := by
  rw [he] at h ⊢
  have hp : (backTo pos ((false, eval e env) :: starEach rest env)).any (·.1) = false := by show (false || (backTo pos (starEach rest env)).any (·.1)) = false; rw [hplain]; rfl
  unfold callWith
  refine wpAny_bind (wpAny_holding (wpAny_mono (evalArgs_plain (Q := fun x s₁ => PartAt s₁.heap ∧ wpAny M A (call (.ref 53) (first ++ x.pos) x.kw) Q E s₁) h) (fun x s₁ h₁ => wpAny_bind (wpAny_standAt ?_)) fun _ _ x => x))
  obtain ⟨ho, hcall⟩ := h₁
  simp only [hp, List.any_nil, Bool.or_false]
  refine wpAny_bind (m := keeperOf (.ref 53)) ?_
  unfold keeperOf
  refine wpAny_bind (wpAny_load ho ?_)
  simp only [show (Value.type "functools.partial" != Value.type "method") = true by decide, show (Value.type "functools.partial" == Value.type "builtin_function_or_method" || Value.type "functools.partial" == Value.type "method-wrapper") = false by decide, if_true, Bool.false_eq_true, if_false]
  refine wpAny_pure ?_
  refine wpAny_bind (wpAny_operateT (wpAny_mono hcall (fun r s₂ hr => wpAny_bind (wpAny_holding (wpAny_point (wpAny_pure hr)))) fun _ _ x => x))
theorem frames_deeper {A : Around} {e : Env} {l : List Env} (h : A.frames = some l) : (A.deeper e).frames = some (e :: l) := by
  show Option.map _ A.frames = _
  rw [h]; rfl
section
local macro_rules | `(tactic| walk_at "callWith ref") => `(tactic| (k_here; (with_reducible show wpAny _ _ (callWith _ (Value.ref 53) _ (backTo _ (starEach (_ :: _) _)) []) _ _ _); k_dflt (refine' callWith_part ?_; k_whole)))
local macro_rules | `(tactic| walk_at "And") => `(tactic| ((with_reducible show PartAt _ ∧ _); k_dflt (refine ⟨part_of (by k_asm) (by k_asm), ?_⟩); (try dsimp only [List.nil_append, List.cons_append])))
local macro_rules | `(tactic| walk_at "getMethod bytes") => `(tactic| (k_here; (with_reducible show wpAny _ _ (getMethod (Value.bytes _ _) (PySem.Str.ofString "replace") _) _ _ _); refine replace_method ?_))
local macro_rules | `(tactic| walk_at "call builtin:bytes.replace") => `(tactic| (k_here; k_dflt (refine replace_any (by omega) ?_; intro t8 k8)))
local macro_rules | `(tactic| walk_at "call ref") => `(tactic| (k_here; (with_reducible show wpAny _ _ (call (Value.ref 53) [Value.bytes _ _]) _ _ _); k_dflt (refine' partial_any ?kz ?k1 ?k2 ?k3 ?k4 ?k5 ?kA ?kF ?kK ?kr ?ku ?_; (case kA => exact frames_deeper (by assumption)); (case kF => exact rfl); (case kK => exact rfl); (case k1 => k_asm); (case k2 => k_asm); (case k3 => k_asm); (case k4 => k_asm); (case k5 => k_asm); (case kz => simp; omega); (case kr => assumption); (case ku => assumption); intro tok8 h' tk8 F' N')))
set_option maxRecDepth 100000 in
set_option maxHeartbeats 8000000 in
theorem decode_any {w : World} {p : Program} {loose : List Str} {mean : ExcName → Option Value} {mg mb : Str → Option Value} {b : Array UInt8} {t : Tok} (hb : b.size ≤ 100000)
    {A : Around} {env : Env} {outer : List Env} {A₀ : Around} {base h₀ : Heap} {L : Addr} {m : Str → Option Value} {news : List (Addr × Obj)} {s : Shared} {Q E : Value → Shared → Prop}
    (B : Below A₀ base outer h₀) (F : Fr h₀ L s.heap m) (X : (hd.heap_39 w.params).In h₀) (N : News h₀ L s.heap news) (T : Top p loose mean mg mb h₀) (hA : A.frames = some (env :: outer)) (hf : env.frame = some L) (hke : env.scope.kind = .function) (hroom : A.depth + 1 + 1 < recursionLimit) (hu : A.units + 3 + 4 < cLine)
    (hret : ∀ tup l tok h' tk', Fr h₀ L h' m → News h₀ L h' ((tup, ({ cls := .type "tuple", data := .seq #[.bytes (rd b.toList).toArray tok, .ref l] } : Obj)) :: (l, W.listOf #[] 0) :: news) → (∀ q ∈ news, q.1 < l) → l < tup → Q (.ref tup) { s with heap := h', toks := tk' }) :
      wpAny (model Challenge.rw_dn0015_01.row.prog w) A (call (.ref 60) [.bytes b t]) Q E s := by
  rw [← qs_rd _ b.toList (Nat.le_refl _)] at hret
  revert X
  w_top off
  k_fill
  intro X
  have hI0 : IntsAre [] [] := .nil
  have hroom0 : A.depth < recursionLimit := by omega
  refine wpAny_call ?_
  k_dflt (refine' code_def ?k1 ?k2 ?k3 ?k4 ?k5 ?kA ?kF ?kK ?k6 ?k7 ?k8 ?k9 ?kB ?_ ?c2 ?c3 ?c4 ?c5; (case kA => exact hA); (case kF => exact hf); (case kK => exact hke); (case k1 => k_asm); (case k2 => k_asm); (case k3 => k_asm); (case k4 => k_asm); (case k5 => k_asm); (case k6 => k_is); (case k7 => k_is); (case k8 => exact hroom0); (case k9 => exact BindsTo.of_eq rfl); (case c5 => decide); (case kB => exact locs rfl); (case c2 => exact rfl); (case c3 => exact rfl); (case c4 => exact rfl); k_whole; intro g' L' h' FG' F' N' B' X' T'; (try dsimp only); (try k_fold))
  k_steps
  exact hret _ _ _ _ _ (by assumption) (by assumption) (by assumption) (And.left (by assumption))
end
end Mine

end PartDQ
section PartLB
open PySem PySem.W PyProof.Rows PySem.Calls
set_option Elab.async false
namespace Mine
open LCg
section
variable {prog : Program} {w : World} {A : Around} {E : Value → Shared → Prop} {s : Shared} {h₀ : Heap} {L : Addr} {m : Str → Option Value} {env : Env}
theorem comp_bytes {elt iter : Expr} {x y : Str} {px py : Pos} {scope : Scope} {cl : List (Str × Addr)} {pos spos : Pos} {Q : Flow → Shared → Prop} (_F₀ : Fr h₀ L s.heap m) (hLe : env.locals = L)
    (hsw : swapsWith (.ListComp elt [⟨.Name x px, iter, [], 0⟩] scope pos) (some (.Name y py)) spos.line env = pure true)
    (hclos : closureFor scope env = pure cl) (hcell : ∀ z ∈ scope.names, z.2 ≠ .cell) (hkind : scope.kind = .function)
    (hnames : ∀ z ∈ scope.names, z.2 = .local → scope.names.lookup z.1 = some .local) (hx : scope.names.lookup x = some .local)
    (hy : env.kindOf y = some .local) (hp : (env.scope.kind == .class || (env.scope.kind == .module && env.locals != env.globals)) = false)
    (h : wpAny (model prog w) A (eval iter env) (fun xv s₁ => ∃ (b : Array UInt8) (t : Tok) (news : List (Addr × Obj)), xv = .bytes b t ∧ A.handled = none ∧ Fr h₀ L s₁.heap m ∧ News h₀ L s₁.heap news ∧ b.size ≤ sizeLine ∧
      ∀ s₂ : Shared, (∃ h, s₂ = { s₁ with heap := h }) → CompRest prog w A h₀ L m env elt x scope cl s₂ (fun _ => True) (fun i v => ∃ c u, b[i]? = some c ∧ v = .int (c.toNat : Int) u) (FinA h₀ L m s₂ y Q) b.size 0 [] news) E s)
    (hs : ∀ x, foldedSetIterable iter env x = pure x := by intro _; rfl) :
    wpAny (model prog w) A (exec (.Assign [.Name y py] (.ListComp elt [⟨.Name x px, iter, [], 0⟩] scope pos) spos) env) Q E s := by
  subst hLe
  rw [exec_Assign_Name_used _ _ _ _ hsw]
  refine wpAny_bind (wpAny_standAt (wpAny_bind ?_))
  show wpAny _ A (do let _ ← comprehension (.ListComp elt [⟨.Name x px, iter, [], 0⟩] scope pos) scope env _ (newList []) false (eval iter env) (some (assign (.Name y py) env))) _ _ s
  refine wpAny_bind (wpAny_mono (wpAny_comprehension_free (use := some (assign (.Name y py) env)) (Q := fun _ s' => Q .next s') rfl hs hclos hkind hnames
    (wpAny_mono h (fun xv s₁ h₁ => ?_) fun _ _ e => e)) (fun _ s' hq => wpAny_pure (wpAny_pure hq)) fun _ _ e => e)
  obtain ⟨b, t, news, rfl, hh, F, N, hsz, R⟩ := h₁
  refine KBw.pyIter_bytes ?_
  have up : ∀ b' o, s₁.heap.get? b' = some o → (s₁.heap.push { cls := .type "bytes_iterator", data := .fields #[.bytes b t, .int 0 0] }).get? b' = some o := fun b o e => Heap.get?_push_of_some _ e
  refine block_U (KBw.walks hh s₁.heap.objs.size b t) hsz (fun i h st => by obtain ⟨o, e, _⟩ := st; exact ⟨o, e⟩)
    (fun i h h' o nw st e e' _ _ _ => by obtain ⟨o', q, r⟩ := st; rw [e] at q; cases q; exact ⟨o, e', r⟩)
    hcell hkind hx ⟨_, Heap.get?_push_size _ rfl, rfl, rfl⟩ (fun b' hb' => ?_)
    (F.keeps up) (N.grown up) (Nat.ne_of_lt F.ns.lt) (next_is_new F) (fun p hp => Nat.ne_of_lt (Heap.lt_size (N p hp).1)) trivial (R _ ⟨_, rfl⟩) ?_
  · rw [List.mem_singleton.mp hb']
    show s₁.heap.objs.size < (s₁.heap.push _).objs.size
    rw [Heap.size_push]; exact Nat.lt_succ_self _
  · intro D C h' tk m' ys news' F' N' o1 hn hC₀ hD₀ hCL hDL hCD offC fin
    show wpAny _ A (assign (.Name y py) env (.ref D)) _ _ _
    refine wpAny_assign_Name (wpAny_storeName_local hy F'.ns (fun h₂ hn₂ hs₂ => ?_) hp)
    have hL₀ : h₀.get? env.locals = none := Heap.get?_none_of_le F'.above
    have F₂ : Fr h₀ env.locals h₂ (fun z => if z = y then some (.ref D) else m z) := ⟨hn₂, fun b o e => hs₂.extBut b o (fun q => by rw [q, hL₀] at e; cases e) (F'.keep b o e), F'.above⟩
    refine ⟨m', hn.sameBut hs₂ hCL, fun h'' hs'' => fin D h'' _ (F₂.change hs'' hCL hC₀) (fun p hp => ?_) o1⟩
    have z : h₂.get? p.1 = some p.2 := hs₂.extBut _ _ (N' p hp).2.1 (N' p hp).1
    refine ⟨hs''.extBut _ _ ?_ z, (N' p hp).2⟩
    rcases List.mem_cons.mp hp with rfl | hp
    · exact Ne.symm hCD
    · exact offC p hp
end
end Mine

end PartLB
section PartFG
open PySem PySem.W PyProof.Rows PySem.Calls
set_option Elab.async false
namespace Mine
set_option maxRecDepth 100000 in
set_option maxHeartbeats 8000000 in
theorem figure_any {w : World} {p : Program} {loose : List Str} {mean : ExcName → Option Value} {mg mb : Str → Option Value} {c : Nat} {u : Tok} (hc : c < 256)
    {A : Around} {env : Env} {outer : List Env} {A₀ : Around} {base h₀ : Heap} {L : Addr} {m : Str → Option Value} {news : List (Addr × Obj)} {s : Shared} {Q E : Value → Shared → Prop}
    (B : Below A₀ base outer h₀) (F : Fr h₀ L s.heap m) (X : (hd.heap_39 w.params).In h₀) (N : News h₀ L s.heap news) (T : Top p loose mean mg mb h₀) (hA : A.frames = some (env :: outer)) (hf : env.frame = some L) (hke : env.scope.kind = .function) (hroom : A.depth < recursionLimit)
    (hret : ∀ tok h' tk', Fr h₀ L h' m → News h₀ L h' news → Q (.int (fig c : Int) tok) { s with heap := h', toks := tk' }) :
      wpAny (model Challenge.rw_dn0015_01.row.prog w) A (call (.ref 74) [.int (c : Int) u]) Q E s := by
  revert X
  w_top off
  k_fill
  intro X
  have hI0 : IntsAre [] [] := .nil
  refine wpAny_call ?_
  k_dflt (refine' code_def ?k1 ?k2 ?k3 ?k4 ?k5 ?kA ?kF ?kK ?k6 ?k7 ?k8 ?k9 ?kB ?_ ?c2 ?c3 ?c4 ?c5; (case kA => exact hA); (case kF => exact hf); (case kK => exact hke); (case k1 => k_asm); (case k2 => k_asm); (case k3 => k_asm); (case k4 => k_asm); (case k5 => k_asm); (case k6 => k_is); (case k7 => k_is); (case k8 => exact hroom); (case k9 => exact BindsTo.of_eq rfl); (case c5 => decide); (case kB => exact locs rfl); (case c2 => exact rfl); (case c3 => exact rfl); (case c4 => exact rfl); k_whole; intro g' L' h' FG' F' N' B' X' T'; (try dsimp only); (try k_fold))
  k_steps
  all_goals (refine cb_retI hret ?_ (by assumption) (by assumption); unfold fig; (repeat' split) <;> omega)
end Mine

end PartFG
section PartEL
open PySem PySem.W PyProof.Rows PySem.Calls
set_option Elab.async false
namespace Mine
abbrev cscope : Scope := { kind := .function, names := [(Str.ofString ".0", .local), (Str.ofString "octet", .local), (Str.ofString "_law_figure", .globalImplicit)], isGenerator := false, isCoroutine := false }
set_option maxRecDepth 100000 in
theorem elt_any {w : World} {p : Program} {loose : List Str} {mean : ExcName → Option Value} {mg mb : Str → Option Value} {pf pa pc : Pos} {c : Nat} {t : Tok} (hc : c < 256)
    {A : Around} {env : Env} {outer : List Env} {A₀ : Around} {base h₀ : Heap} {L : Addr} {m m₂ : Str → Option Value} {news : List (Addr × Obj)} {s : Shared} {Q E : Value → Shared → Prop} {C : Addr} {oC : Obj}
    (B : Below A₀ base outer h₀) (F : Fr h₀ L s.heap m) (X : (hd.heap_39 w.params).In h₀) (N : News h₀ L s.heap news) (T : Top p loose mean mg mb h₀) (hA : A.frames = some (env :: outer)) (hf : env.frame = some L) (hke : env.scope.kind = .function) (hg : env.globals = mainGlobals) (hroom : A.depth < recursionLimit)
    (hC : LCg.NsObj oC m₂) (hx : m₂ (Str.ofString "octet") = some (.int (c : Int) t)) (hm : (C, oC) ∈ news)
    (hret : ∀ tok h' tk', Fr h₀ L h' m → News h₀ L h' news → Q (.int (fig c : Int) tok) { s with heap := h', toks := tk' }) :
    wpAny (model Challenge.rw_dn0015_01.row.prog w) A (eval ((Expr.Name (Str.ofString "_law_figure") pf).Call [Expr.Name (Str.ofString "octet") pa] [] pc) (compEnvC cscope [] C env)) Q E s := by
  refine Call_ ?_
  refine nameG_K (K := hd.heap_39 w.params) F X (topRead_of T) (v := .ref 74) (by rfl) ?_ hg rfl rfl rfl
  refine callWith_K (K := hd.heap_39 w.params) X (by rfl) ?_
  refine spliced_more ?_
  refine wpAny_Name (wpAny_loadName_local rfl rfl (hC.ns (N.get hm)) hx ?_) rfl
  refine spliced_none ?_
  refine ⟨X.keeps F.keep, ?_⟩
  exact figure_any hc B F X N T hA hf hke hroom hret
end Mine

end PartEL
section PartWS
open PySem PySem.W PyProof.Rows PySem.Calls
set_option Elab.async false
namespace Mine
def SrcB (prog : Program) (w : World) (A : Around) (h₀ : Heap) (L : Addr) (m : Str → Option Value) (env : Env) (elt : Expr) (x : Str) (scope : Scope) (cl : List (Str × Addr)) (y : Str) (Q : Flow → Shared → Prop) (xv : Value) (s₁ : Shared) : Prop :=
  ∃ (b : Array UInt8) (t : Tok) (news : List (Addr × Obj)), xv = .bytes b t ∧ A.handled = none ∧ Fr h₀ L s₁.heap m ∧ News h₀ L s₁.heap news ∧ b.size ≤ sizeLine ∧
      ∀ s₂ : Shared, (∃ h, s₂ = { s₁ with heap := h }) → LCg.CompRest prog w A h₀ L m env elt x scope cl s₂ (fun _ => True) (fun i v => ∃ c u, b[i]? = some c ∧ v = .int (c.toNat : Int) u) (LCg.FinA h₀ L m s₂ y Q) b.size 0 [] news
abbrev figI (k : Int) : Int := (fig k.toNat : Int)
set_option maxRecDepth 100000 in
theorem worth_src {w : World} {p : Program} {loose : List Str} {mean : ExcName → Option Value} {mg mb : Str → Option Value} {pf pa pc : Pos} {b : Array UInt8} {t : Tok} (hb : b.size ≤ 100000)
    {A : Around} {env : Env} {outer : List Env} {A₀ : Around} {base h₀ : Heap} {L : Addr} {m : Str → Option Value} {news : List (Addr × Obj)} {s : Shared} {Q : Flow → Shared → Prop} {y : Str}
    (B : Below A₀ base outer h₀) (F : Fr h₀ L s.heap m) (X : (hd.heap_39 w.params).In h₀) (N : News h₀ L s.heap news) (T : Top p loose mean mg mb h₀) (hA : A.frames = some (env :: outer)) (hf : env.frame = some L) (hke : env.scope.kind = .function) (hg : env.globals = mainGlobals) (hroom : A.depth < recursionLimit) (hh : A.handled = none)
    (h : ∀ ys, IntsAre ys (b.toList.map fun c => (fig c.toNat : Int)) → ∀ D h' tk', Fr h₀ L h' (fun z => if z = y then some (.ref D) else m z) → News h₀ L h' ((D, LCg.lst ys) :: news) → LCg.Off1 D news → Q .next { s with heap := h', toks := tk' }) :
    SrcB Challenge.rw_dn0015_01.row.prog w A h₀ L m env ((Expr.Name (Str.ofString "_law_figure") pf).Call [Expr.Name (Str.ofString "octet") pa] [] pc) (Str.ofString "octet") cscope [] y Q (.bytes b t) s := by
  refine ⟨b, t, news, rfl, hh, F, N, by rw [sizeLine_eq]; omega, fun s₂ hs₂ => ?_⟩
  obtain ⟨g, rfl⟩ := hs₂
  refine kcf_rest (ks := b.toList.map fun c => (c.toNat : Int)) figI (by simp) ?_ ?_ ?_
  · rintro i v hi ⟨c, u, hc, rfl⟩
    exact ⟨_, u, by simp [hc], rfl⟩
  · intro k t I oI C oC D m₂ ys h' tk E' hk hC hx F' N' off ne _
    obtain ⟨c, _, rfl⟩ := List.mem_map.mp hk
    refine elt_any (UInt8.toNat_lt c) B F' X N' T hA hf hke hg hroom hC hx (by simp) fun tok h'' tk'' F'' N'' => ?_
    exact LCg.CompEnd.intro F'' N'' news (fun _ hp => hp) off trivial ⟨rfl, tok, by simp [figI]⟩
  · intro ys hys D h' tk F' N' o1
    refine h ys ?_ D h' tk F' N' o1
    simpa [figI, Function.comp_def] using hys
end Mine

end PartWS
section PartLD
open PySem PySem.W PyProof.Rows PySem.Calls
set_option Elab.async false
namespace Mine
/-- what is laid when the octets from place j on have been read, last first -/
def laidAt (b : Array UInt8) (j : Nat) : List Int := ((rd (b.toList.drop j)).map fun c => (c.toNat : Int)).reverse
theorem ks_get {b : Array UInt8} {ks : List Int} (hks : KBw.bInts b = ks) {j : Nat} (hj : j < b.size) : ks.getD j 0 = ((b.toList[j]'(by simpa using hj)).toNat : Int) := by
  subst hks
  simp [KBw.bInts, hj]
theorem laid_us {b : Array UInt8} {j : Nat} (hj : j < b.size) (h : ¬ (b.toList[j]'(by simpa using hj) = 61 ∧ esc (b.toList.drop (j + 1)) = true)) : laidAt b j = laidAt b (j + 1) ++ [((us (b.toList[j]'(by simpa using hj))).toNat : Int)] := by
  unfold laidAt
  rw [List.drop_eq_getElem_cons (show j < b.toList.length by simpa using hj), rd, if_neg h]
  simp
theorem laid_esc {b : Array UInt8} {j : Nat} (hj : j + 2 < b.size) (h61 : b.toList[j]'(by simp; omega) = 61) (ha : hexB (b.toList[j + 1]'(by simp; omega)) = true) (hd : hexB (b.toList[j + 2]'(by simpa using hj)) = true) :
    laidAt b j = (laidAt b (j + 1)).dropLast.dropLast ++ [((two (b.toList[j + 1]'(by simp; omega)) (b.toList[j + 2]'(by simpa using hj))).toNat : Int)] ∧ 2 ≤ (laidAt b (j + 1)).length := by
  have e1 : b.toList.drop (j + 1) = b.toList[j + 1]'(by simp; omega) :: b.toList[j + 2]'(by simpa using hj) :: b.toList.drop (j + 3) := by
    rw [List.drop_eq_getElem_cons (show j + 1 < b.toList.length by simp; omega), List.drop_eq_getElem_cons (show j + 1 + 1 < b.toList.length by simp; omega)]
  have e2 : laidAt b (j + 1) = ((rd (b.toList.drop (j + 3))).map fun c => (c.toNat : Int)).reverse ++ [((b.toList[j + 2]'(by simpa using hj)).toNat : Int)] ++ [((b.toList[j + 1]'(by simp; omega)).toNat : Int)] := by
    unfold laidAt
    rw [e1, rd_hex ha hd]
    simp
  have e3 : laidAt b j = ((rd (b.toList.drop (j + 3))).map fun c => (c.toNat : Int)).reverse ++ [((two (b.toList[j + 1]'(by simp; omega)) (b.toList[j + 2]'(by simpa using hj))).toNat : Int)] := by
    unfold laidAt
    rw [List.drop_eq_getElem_cons (show j < b.toList.length by simp; omega), rd, if_pos ⟨h61, by rw [e1]; simp only [esc, ha, hd]; rfl⟩, e1, rd_hex ha hd]
    simp [two2]
  refine ⟨?_, ?_⟩
  · rw [e3, e2, List.dropLast_concat, List.dropLast_concat]
  · rw [e2]; simp
theorem toNat_61 {c : UInt8} : (c.toNat : Int) = 61 ↔ c = 61 := by
  constructor
  · intro h; exact UInt8.toNat_inj.mp (by have : c.toNat = 61 := by omega
                                          exact this)
  · intro h; subst h; rfl
theorem toNat_95 {c : UInt8} : (c.toNat : Int) = 95 ↔ c = 95 := by
  constructor
  · intro h; exact UInt8.toNat_inj.mp (by have : c.toNat = 95 := by omega
                                          exact this)
  · intro h; subst h; rfl
section
variable {b : Array UInt8} {ks laid pre : List Int} {k : Int}
abbrev Word (b : Array UInt8) (ks pre laid : List Int) : Prop := laid = laidAt b (ks.length - pre.length) ∧ laid.length ≤ pre.length
theorem word_0 (hks : KBw.bInts b = ks) : Word b ks [] [] := by
  subst hks
  refine ⟨?_, Nat.le_refl _⟩
  unfold laidAt
  rw [List.drop_of_length_le (by rw [KBw.ints_length]; simp)]
  rfl
theorem word_us (hks : KBw.bInts b = ks) (hl : laid = laidAt b (ks.length - pre.length)) (hr : laid.length ≤ pre.length) (hk : k = (ks.length : Int) - 1 - pre.length) (hlt : pre.length < ((ks.length : Int) - 1 - -1).toNat)
    (hno : ∀ (h : k.toNat < b.size), ¬ (b.toList[k.toNat]'(by simpa using h) = 61 ∧ esc (b.toList.drop (k.toNat + 1)) = true)) {v : Int} (hv : ∀ (h : k.toNat < b.size), v = ((us (b.toList[k.toNat]'(by simpa using h))).toNat : Int)) :
    Word b ks (pre ++ [k]) (laid ++ [v]) := by
  have hs := KBw.ints_length b
  rw [hks] at hs
  have hj : k.toNat < b.size := by omega
  refine ⟨?_, by simp; omega⟩
  rw [show ks.length - (pre ++ [k]).length = k.toNat by simp; omega, laid_us hj (hno hj), hv hj, hl, show ks.length - pre.length = k.toNat + 1 by omega]
theorem no_esc_ne (hks : KBw.bInts b = ks) (h : ks.getD k.toNat 0 ≠ 61) : ∀ (h : k.toNat < b.size), ¬ (b.toList[k.toNat]'(by simpa using h) = 61 ∧ esc (b.toList.drop (k.toNat + 1)) = true) := by
  intro hj x
  rw [ks_get hks hj] at h
  exact h (toNat_61.mpr x.1)
theorem no_esc_short (hks : KBw.bInts b = ks) (h0 : 0 ≤ k) (h : (ks.length : Int) ≤ k + 2) : ∀ (h : k.toNat < b.size), ¬ (b.toList[k.toNat]'(by simpa using h) = 61 ∧ esc (b.toList.drop (k.toNat + 1)) = true) := by
  intro hj x
  have hs := KBw.ints_length b
  rw [hks] at hs
  obtain ⟨a, d, r, e, _⟩ := esc_out x.2
  have := congrArg List.length e
  simp at this
  omega
theorem no_esc_max (hks : KBw.bInts b = ks) (h0 : 0 ≤ k) (h : k + 2 < (ks.length : Int)) {M : Int} (hM : M = figI (ks.getD (k + 1).toNat 0) ∨ M = figI (ks.getD (k + 2).toNat 0)) (h16 : ¬ M < 16) : ∀ (h : k.toNat < b.size), ¬ (b.toList[k.toNat]'(by simpa using h) = 61 ∧ esc (b.toList.drop (k.toNat + 1)) = true) := by
  intro hj x
  have hs := KBw.ints_length b
  rw [hks] at hs
  have e1 : b.toList.drop (k.toNat + 1) = b.toList[k.toNat + 1]'(by simp; omega) :: b.toList[k.toNat + 2]'(by simp; omega) :: b.toList.drop (k.toNat + 3) := by
    rw [List.drop_eq_getElem_cons (show k.toNat + 1 < b.toList.length by simp; omega), List.drop_eq_getElem_cons (show k.toNat + 1 + 1 < b.toList.length by simp; omega)]
  have x2 := x.2
  rw [e1] at x2
  simp only [esc, Bool.and_eq_true, hexB, decide_eq_true_eq] at x2
  rw [show (k + 1).toNat = k.toNat + 1 by omega, show (k + 2).toNat = k.toNat + 2 by omega, ks_get hks (by omega), ks_get hks (by omega)] at hM
  simp only [figI, Int.toNat_natCast] at hM
  omega
theorem us_32 (hks : KBw.bInts b = ks) (h : ks.getD k.toNat 0 = 95) : ∀ (h : k.toNat < b.size), (32 : Int) = ((us (b.toList[k.toNat]'(by simpa using h))).toNat : Int) := by
  intro hj
  rw [ks_get hks hj, toNat_95] at h
  rw [h]; rfl
theorem us_self (hks : KBw.bInts b = ks) (h : ks.getD k.toNat 0 ≠ 95) : ∀ (h : k.toNat < b.size), ks.getD k.toNat 0 = ((us (b.toList[k.toNat]'(by simpa using h))).toNat : Int) := by
  intro hj
  rw [ks_get hks hj] at h ⊢
  have h' : b.toList[k.toNat]'(by simpa using hj) ≠ 95 := fun e => h (toNat_95.mpr e)
  unfold us
  rw [if_neg h']
theorem figI_two {a d : UInt8} (ha : hexB a = true) (hd : hexB d = true) : figI (a.toNat : Int) * 16 + figI (d.toNat : Int) = ((two a d).toNat : Int) := by
  simp only [figI, Int.toNat_natCast, two]
  simp only [hexB, decide_eq_true_eq] at ha hd
  have : (fig a.toNat * 16 + fig d.toNat).toUInt8.toNat = fig a.toNat * 16 + fig d.toNat := by
    show (fig a.toNat * 16 + fig d.toNat) % 256 = _
    omega
  rw [this]
  omega
theorem esc_facts (hks : KBw.bInts b = ks) (h0 : 0 ≤ k) (h : k + 2 < (ks.length : Int)) (h61 : ks.getD k.toNat 0 = 61) (ha : figI (ks.getD (k + 1).toNat 0) < 16) (hd : figI (ks.getD (k + 2).toNat 0) < 16) :
    laidAt b k.toNat = (laidAt b (k.toNat + 1)).dropLast.dropLast ++ [figI (ks.getD (k + 1).toNat 0) * 16 + figI (ks.getD (k + 2).toNat 0)] ∧ 2 ≤ (laidAt b (k.toNat + 1)).length := by
  have hs := KBw.ints_length b
  rw [hks] at hs
  rw [show (k + 1).toNat = k.toNat + 1 by omega, ks_get hks (by omega)] at ha
  rw [show (k + 2).toNat = k.toNat + 2 by omega, ks_get hks (by omega)] at hd
  rw [ks_get hks (by omega), toNat_61] at h61
  have ha' : hexB (b.toList[k.toNat + 1]'(by simp; omega)) = true := by simp only [figI, Int.toNat_natCast] at ha; simp only [hexB, decide_eq_true_eq]; omega
  have hd' : hexB (b.toList[k.toNat + 2]'(by simp; omega)) = true := by simp only [figI, Int.toNat_natCast] at hd; simp only [hexB, decide_eq_true_eq]; omega
  obtain ⟨e, l2⟩ := laid_esc (b := b) (j := k.toNat) (by omega) h61 ha' hd'
  refine ⟨?_, l2⟩
  rw [e, show (k + 1).toNat = k.toNat + 1 by omega, show (k + 2).toNat = k.toNat + 2 by omega, ks_get hks (by omega), ks_get hks (by omega), figI_two ha' hd']
theorem word_esc (hks : KBw.bInts b = ks) (hl : laid = laidAt b (ks.length - pre.length)) (hr : laid.length ≤ pre.length) (hk : k = (ks.length : Int) - 1 - pre.length) (hlt : pre.length < ((ks.length : Int) - 1 - -1).toNat)
    (h : k + 2 < (ks.length : Int)) (h61 : ks.getD k.toNat 0 = 61) {M : Int} (ha : figI (ks.getD (k + 1).toNat 0) ≤ M) (hd : figI (ks.getD (k + 2).toNat 0) ≤ M) (hM : M < 16) :
    Word b ks (pre ++ [k]) (laid.dropLast.dropLast ++ [figI (ks.getD (k + 1).toNat 0) * 16 + figI (ks.getD (k + 2).toNat 0)]) := by
  have hs := KBw.ints_length b
  rw [hks] at hs
  obtain ⟨e, l2⟩ := esc_facts hks (by omega) h h61 (by omega) (by omega)
  refine ⟨?_, by simp; omega⟩
  rw [show ks.length - (pre ++ [k]).length = k.toNat by simp; omega, e, hl, show ks.length - pre.length = k.toNat + 1 by omega]
theorem esc_long (hl : laid = laidAt b (ks.length - pre.length)) (hks : KBw.bInts b = ks) (hk : k = (ks.length : Int) - 1 - pre.length) (hlt : pre.length < ((ks.length : Int) - 1 - -1).toNat)
    (h : k + 2 < (ks.length : Int)) (h61 : ks.getD k.toNat 0 = 61) {M : Int} (ha : figI (ks.getD (k + 1).toNat 0) ≤ M) (hd : figI (ks.getD (k + 2).toNat 0) ≤ M) (hM : M < 16) : 2 ≤ laid.length := by
  have hs := KBw.ints_length b
  rw [hks] at hs
  obtain ⟨_, l2⟩ := esc_facts hks (by omega) h h61 (by omega) (by omega)
  rw [hl, show ks.length - pre.length = k.toNat + 1 by omega]
  exact l2
end
theorem max2_any {prog : Program} {w : World} {A : Around} {E : Value → Shared → Prop} {s : Shared} {h₀ : Heap} {L D : Addr} {m : Str → Option Value} {news : List (Addr × Obj)} {Q : Value → Shared → Prop} {a d : Int} {t1 t2 : Tok} (F : Fr h₀ L s.heap m) (N : News h₀ L s.heap news) (hm : (D, LCg.lst [.int a t1, .int d t2]) ∈ news) (hh : A.handled = none)
    (h : ∀ h' M (t : Tok) tk, Fr h₀ L h' m → News h₀ L h' news → (M = a ∨ M = d) → a ≤ M → d ≤ M → Q (.int M t) { s with heap := h', toks := tk }) : wpAny (model prog w) A (call (.builtin "max") [.ref D]) Q E s := by
  refine kso_max F N (vs := [.int a t1, .int d t2]) (ns := [a, d]) ⟨_, N.get hm, rfl, _, rfl⟩ (.cons _ _ (.cons _ _ .nil)) (Nat.succ_pos _) hh fun h' M t tk F' N' hM hall => ?_
  exact h h' M t tk F' N' (by simpa using hM) (hall a (by simp)) (hall d (by simp))
end Mine

end PartLD
section PartLR
open PySem PySem.W PyProof.Rows PySem.Calls
set_option Elab.async false
namespace Mine
theorem comp_srcB {prog : Program} {w : World} {A : Around} {E : Value → Shared → Prop} {s : Shared} {h₀ : Heap} {L : Addr} {m : Str → Option Value} {env : Env} {elt iter : Expr} {x y : Str} {px py : Pos} {scope : Scope} {cl : List (Str × Addr)} {pos spos : Pos} {Q : Flow → Shared → Prop} (F₀ : Fr h₀ L s.heap m) (hLe : env.locals = L)
    (hsw : swapsWith (.ListComp elt [⟨.Name x px, iter, [], 0⟩] scope pos) (some (.Name y py)) spos.line env = pure true)
    (hclos : closureFor scope env = pure cl) (hcell : ∀ z ∈ scope.names, z.2 ≠ .cell) (hkind : scope.kind = .function)
    (hnames : ∀ z ∈ scope.names, z.2 = .local → scope.names.lookup z.1 = some .local) (hx : scope.names.lookup x = some .local)
    (hy : env.kindOf y = some .local) (hp : (env.scope.kind == .class || (env.scope.kind == .module && env.locals != env.globals)) = false)
    (h : wpAny (model prog w) A (eval iter env) (SrcB prog w A h₀ L m env elt x scope cl y Q) E s)
    (hs : ∀ x, foldedSetIterable iter env x = pure x := by intro _; rfl) :
    wpAny (model prog w) A (exec (.Assign [.Name y py] (.ListComp elt [⟨.Name x px, iter, [], 0⟩] scope pos) spos) env) Q E s :=
  comp_bytes F₀ hLe hsw hclos hcell hkind hnames hx hy hp h hs
theorem worth_cases {ks : List Int} {k : Int} {ys : List Value} {b' : Array UInt8} (hb : KBw.bInts b' = (ks.drop (clipAt ks.length (k + 1))).take (clipAt ks.length (k + 3) - clipAt ks.length (k + 1))) (h0 : 0 ≤ k) (h1 : k < (ks.length : Int))
    (h : IntsAre ys (b'.toList.map fun c => (fig c.toNat : Int))) :
    ((ks.length : Int) ≤ k + 1 ∧ ys = []) ∨ ((ks.length : Int) = k + 2 ∧ ∃ t1, ys = [.int (figI (ks.getD (k + 1).toNat 0)) t1]) ∨ (k + 2 < (ks.length : Int) ∧ ∃ t1 t2, ys = [.int (figI (ks.getD (k + 1).toNat 0)) t1, .int (figI (ks.getD (k + 2).toNat 0)) t2]) := by
  obtain ⟨j, rfl⟩ : ∃ j : Nat, k = (j : Int) := ⟨k.toNat, by omega⟩
  have e : (b'.toList.map fun c => (fig c.toNat : Int)) = (KBw.bInts b').map figI := by simp [KBw.bInts, figI, Function.comp_def]
  rw [e, hb, show (j : Int) + 1 = ((j + 1 : Nat) : Int) by omega, show (j : Int) + 3 = ((j + 3 : Nat) : Int) by omega, clipAt_nat, clipAt_nat] at h
  by_cases c1 : ks.length ≤ j + 1
  · left
    rw [List.drop_of_length_le (by omega)] at h
    simp at h
    cases h
    exact ⟨by omega, rfl⟩
  by_cases c2 : ks.length = j + 2
  · right; left
    rw [show min (j + 1) ks.length = j + 1 by omega, show min (j + 3) ks.length - (j + 1) = 1 by omega, List.drop_eq_getElem_cons (by omega)] at h
    rw [List.take_succ_cons, List.take_zero] at h
    cases h with
    | cons _ t r =>
      cases r
      refine ⟨by omega, t, ?_⟩
      rw [show ((j : Int) + 1).toNat = j + 1 by omega]
      simp [show j + 1 < ks.length by omega]
  · right; right
    rw [show min (j + 1) ks.length = j + 1 by omega, show min (j + 3) ks.length - (j + 1) = 2 by omega, List.drop_eq_getElem_cons (by omega), List.drop_eq_getElem_cons (by omega)] at h
    rw [List.take_succ_cons, List.take_succ_cons, List.take_zero] at h
    cases h with
    | cons _ t r =>
      cases r with
      | cons _ t2 r =>
        cases r
        refine ⟨by omega, t, t2, ?_⟩
        rw [show ((j : Int) + 1).toNat = j + 1 by omega, show ((j : Int) + 2).toNat = j + 1 + 1 by omega]
        simp [show j + 1 < ks.length by omega, show j + 1 + 1 < ks.length by omega]
theorem picked_small {b : Array UInt8} {ks : List Int} {lo hi : Option Int} (hks : KBw.bInts b = ks) (hl : ks.length ≤ 1000) : (KBy.picked b lo hi).size ≤ 100000 := by
  have h1 := KBc.size_picked_le b lo hi
  have h2 := KBw.ints_length b
  rw [hks] at h2
  omega
theorem laid_out {b : Array UInt8} {ks laid : List Int} {n : Nat} (hks : KBw.bInts b = ks) (h : laid = laidAt b (ks.length - n)) (hn : n = ks.length) :
    (∀ v ∈ laid.reverse, 0 ≤ v ∧ v < 256) ∧ (laid.reverse.map fun n => n.toNat.toUInt8) = rd b.toList := by
  subst hn
  rw [Nat.sub_self] at h
  subst h
  unfold laidAt
  rw [List.reverse_reverse, List.drop_zero]
  constructor
  · intro v hv
    obtain ⟨c, _, rfl⟩ := List.mem_map.mp hv
    have := UInt8.toNat_lt c
    omega
  · simp [Function.comp_def]
theorem bytes_laid {prog : Program} {w : World} {A : Around} {E : Value → Shared → Prop} {s : Shared} {h₀ : Heap} {L : Addr} {m : Str → Option Value} {news : List (Addr × Obj)} {b : Array UInt8} {ks laid : List Int} {n : Nat} {l : Addr} {vs : List Value} {Q : Value → Shared → Prop}
    (F : Fr h₀ L s.heap m) (N : News h₀ L s.heap news) (hl : s.heap.IsList l vs.toArray) (hi : IntsAre vs laid.reverse) (hks : KBw.bInts b = ks) (e : laid = laidAt b (ks.length - n)) (hn : n = ks.length) (hz : vs.length ≤ sizeLine) (hh : A.handled = none)
    (h : ∀ h' t k, Fr h₀ L h' m → News h₀ L h' news → Q (.bytes (rd b.toList).toArray t) { s with heap := h', toks := k }) : wpAny (model prog w) A (call (.type "bytes") [.ref l]) Q E s := by
  obtain ⟨h1, h2⟩ := laid_out hks e hn
  refine bytes_K F N hl hi h1 hz hh fun h' t k F' N' _ => ?_
  rw [h2]
  exact h h' t k F' N'
section
local macro_rules | `(tactic| walk_at "subscriptTail Name Slice ref ref") => `(tactic| (k_here; (with_reducible show wpAny _ _ (subscriptTail _ (PySem.Expr.Slice none none (some _) _) (Value.ref _) (Value.ref _)) _ _ _); k_dflt (refine' krv_ints ?F ?N ?l ?k ?i ?_ ?s ?t ?z; (case F => k_asm); (case N => k_asm); (case l => kmk_list); (case k => exact IsPart.int _ _); (case i => assumption); (case s => with_unfolding_all rfl); (case t => kmk_pure); (case z => ((simp only [sizeLine_eq, List.size_toArray, downKs_length] at *); omega))); intro D' ws' h' F' N' l1 hI' hC'))
local macro_rules | `(tactic| walk_at "call type:bytes") => `(tactic| (k_here; (with_reducible show wpAny _ _ (call (Value.type _) [Value.ref _]) _ _ _); k_dflt (refine' bytes_laid ?F ?N ?l ?i ?b ?e ?n ?z ?h ?_; (case F => k_asm); (case N => k_asm); (case l => is_list); (case i => assumption); (case b => assumption); (case e => assumption); (case n => (simp only [downKs_length]; omega)); (case z => ((have hL8 := IntsAre.length (by assumption)); (simp only [sizeLine_eq, downKs_length, List.length_reverse] at *); omega)); (case h => with_unfolding_all rfl)); intro h' t' k' F' N'))
local macro_rules | `(tactic| walk_at "exec Assign cons ListComp") => `(tactic| (k_here; k_dflt (refine comp_srcB (by k_asm) (by rfl) (by with_unfolding_all rfl) (by with_unfolding_all rfl) (by decide) (by rfl) (by decide) (by rfl) (by rfl) (by rfl) ?_)))
local macro_rules | `(tactic| walk_at "call builtin:max") => `(tactic| (k_here; (with_reducible show wpAny _ _ (call (Value.builtin _) [Value.ref _]) _ _ _); k_dflt (refine' max2_any ?y1 ?y2 ?y3 ?y4 ?_; (case y1 => k_asm); (case y2 => k_asm); (case y3 => exact List.mem_cons_self); (case y4 => exact rfl)); intro h' M' t' k' F' N' m1' m2' m3'))
local macro_rules | `(tactic| walk_at "call builtin:list.pop") => `(tactic| (k_here; (with_reducible show wpAny _ _ (call (Value.builtin _) [Value.ref _]) _ _ _); k_dflt (refine' kpa_pop ?y1 ?y2 ?y3 ?y4 ?y5 ?y6 ?_; (case y1 => k_asm); (case y2 => k_asm); (case y3 => k_upd); (case y4 => (kpa_letter; with_reducible assumption)); (case y5 => ((have h28 := esc_long (by assumption) (by assumption) (by assumption) (by assumption) (by assumption) (by assumption) (by assumption) (by assumption) (by assumption)); (try rw [List.length_dropLast]); omega)); (case y6 => ((try rw [List.length_dropLast]); rw [sizeLine_eq]; omega))); intro h' t' F' N' hI'))
local macro_rules | `(tactic| walk_at "call builtin:list.append") => `(tactic| (k_here; (with_reducible show wpAny _ _ (call (Value.builtin _) [Value.ref _, _]) _ _ _); k_dflt (refine' append_K ?y1 ?y2 ?y3 ?_ ?y4; (case y1 => k_asm); (case y2 => k_asm); (case y3 => k_upd); (case y4 => ((simp only [List.size_toArray, List.length_dropLast, sizeLine_eq]); omega))); intro h' F' N'))
local macro_rules | `(tactic| walk_at "SrcB") => `(tactic| (k_dflt (refine' worth_src ?z1 ?z2 ?z3 ?z4 ?z5 ?z6 ?z7 ?z8 ?z9 ?z10 ?z11 ?z12 ?_; (case z1 => exact picked_small (by assumption) (by assumption)); (case z2 => k_asm); (case z3 => k_asm); (case z4 => k_asm); (case z5 => k_asm); (case z6 => k_asm); (case z7 => exact rfl); (case z8 => exact rfl); (case z9 => exact rfl); (case z10 => exact rfl); (case z11 => ktr_room); (case z12 => exact rfl)); intro ys8 hys8 D' h' tk' F' N' off'; (obtain ⟨hw8, hv8⟩ | ⟨hw8, t1', hv8⟩ | ⟨hw8, t1', t2', hv8⟩ := worth_cases (by assumption) (by omega) (by omega) hys8); (all_goals subst hv8); (all_goals simp only [LCg.Off1] at off'); (all_goals (try k_fold))))
set_option maxRecDepth 100000 in
set_option maxHeartbeats 8000000 in
theorem law_read_any {w : World} {p : Program} {loose : List Str} {mean : ExcName → Option Value} {mg mb : Str → Option Value} {b : Array UInt8} {t : Tok} {ks : List Int} (hks : KBw.bInts b = ks) (hlen : ks.length ≤ 1000)
  {dp un : Nat} {gd : Option (List Code)} {cn : Str} {cs : Scope} {a : Addr} {ccd : Value} {cl : List (Str × Addr)} {outer : List Env} {A₀ : Around} {base h₀ : Heap} {L : Addr} {m : Str → Option Value} {news : List (Addr × Obj)} {s : Shared} {Q E : Value → Shared → Prop}
    (B : Below A₀ base outer h₀) (F : Fr h₀ L s.heap m) (X : (hd.heap_39 w.params).In h₀) (N : News h₀ L s.heap news) (T : Top p loose mean mg mb h₀) (hk : cs.kind = .function)
    (hroom : dp + 3 < recursionLimit) (hu : un + 20 < cLine)
    (hret : ∀ (t : Tok) (h' : Heap) (tk' : Nat), Fr h₀ L h' m → News h₀ L h' news → Q (.bytes (rd b.toList).toArray t) { s with heap := h', toks := tk' }) :
      wpAny (model Challenge.rw_dn0015_01.row.prog w) (ktrTop dp un gd cn cs L a ccd cl outer) (call (.ref 79) [.bytes b t]) Q E s := by
  revert X
  w_top off
  k_fill
  intro X
  have hI0 : IntsAre [] [] := .nil
  refine wpAny_call ?_
  k_dflt cell_enter
  k_with "pyIter ref" => k_state (fun pre laid => laid = laidAt b (ks.length - pre.length) ∧ laid.length ≤ pre.length) "laid"
  k_with "state" => first
    | exact word_0 (by assumption)
    | exact word_us (by assumption) (by assumption) (by assumption) (by assumption) (by assumption) (no_esc_ne (by assumption) (by assumption)) (us_32 (by assumption) (by assumption))
    | exact word_us (by assumption) (by assumption) (by assumption) (by assumption) (by assumption) (no_esc_ne (by assumption) (by assumption)) (us_self (by assumption) (by assumption))
    | exact word_us (by assumption) (by assumption) (by assumption) (by assumption) (by assumption) (no_esc_short (by assumption) (by omega) (by omega)) (us_self (by assumption) (by assumption))
    | exact word_us (by assumption) (by assumption) (by assumption) (by assumption) (by assumption) (no_esc_max (by assumption) (by omega) (by assumption) (by assumption) (by assumption)) (us_self (by assumption) (by assumption))
    | exact word_esc (by assumption) (by assumption) (by assumption) (by assumption) (by assumption) (by assumption) (by assumption) (by assumption) (by assumption) (by assumption)
    | (exfalso; omega)
  k_steps
  exact hret _ _ _ (by assumption) (cb_drop (by assumption) (fun p hp => by first | exact hp | exact List.mem_cons_of_mem _ hp | exact List.mem_cons_of_mem _ (List.mem_cons_of_mem _ hp) | exact List.mem_cons_of_mem _ (List.mem_cons_of_mem _ (List.mem_append_left _ hp)) | exact List.mem_cons_of_mem _ (List.mem_append_left _ hp)))
end
end Mine

end PartLR
section PartCQ
open PySem PySem.W PyProof.Rows PySem.Calls PySem.SeqAt
set_option Elab.async false
namespace Mine
theorem eq_at_bytes {A : Around} {s : Shared} (b : Array UInt8) (t u : Tok) : EqAt A s (.bytes b t) (.bytes b u) true := fun prog w E Q h => by
  unfold eqBool
  refine wpAny_holding ?_
  refine wpAny_ite_split (fun _ => ?_) (fun _ => ?_)
  · exact wpAny_bind (wpAny_rule (wpAny_pure h))
  · show wpAny _ _ (richCompare .Eq (.bytes b t) (.bytes b u) >>= truthOfDropped) _ _ _
    refine wpAny_bind ?_
    show wpAny _ _ (compareOp .Eq (.bytes b t) (.bytes b u)) _ _ _
    refine eq_bytes ?_
    rw [show (b.toList == b.toList) = true by simp]
    exact wpAny_truthy_bool h
abbrev tup2 (v x : Value) : Obj := { cls := .type "tuple", data := .seq #[v, x] }
theorem ne_told {prog : Program} {w : World} {A : Around} {E : Value → Shared → Prop} {s : Shared} {h₀ : Heap} {L a c l1 l2 : Addr} {news : List (Addr × Obj)} {Q : Value → Shared → Prop} {b : Array UInt8} {t u : Tok} (N : News h₀ L s.heap news)
    (ha : (a, tup2 (.bytes b t) (.ref l1)) ∈ news) (hc : (c, tup2 (.bytes b u) (.ref l2)) ∈ news) (h1 : (l1, W.listOf #[] 0) ∈ news) (h2 : (l2, W.listOf #[] 0) ∈ news) (hne : l1 ≠ l2) (hu : A.units + 4 < cLine)
    (h : Q (.bool false) s) : wpAny (model prog w) A (compareOp .NotEq (.ref a) (.ref c)) Q E s := by
  have i1 : s.heap.IsTuple a #[.bytes b t, .ref l1] := ⟨_, N.get ha, rfl, _, rfl⟩
  have i2 : s.heap.IsTuple c #[.bytes b u, .ref l2] := ⟨_, N.get hc, rfl, _, rfl⟩
  have j1 : s.heap.IsList l1 #[] := ⟨_, N.get h1, rfl, _, rfl⟩
  have j2 : s.heap.IsList l2 #[] := ⟨_, N.get h2, rfl, _, rfl⟩
  have key := RcNeAt.tuples (A := A) (e := fun _ => true) i1 i2 (by omega) (fun j hj1 hj2 => by
    match j, hj1, hj2 with
    | 0, _, _ => exact eq_at_bytes b t u
    | 1, _, _ =>
      refine EqAt.of_refs hne ?_
      have := RcAt.lists (A := A.in1) (e := fun _ => true) j1 j2 rfl (by show A.units + 1 < cLine; omega) (fun j h1 _ => absurd h1 (Nat.not_lt_zero _))
      exact this)
  exact key prog w E Q h
end Mine

end PartCQ
section PartM1
open PySem PySem.W PyProof.Rows PySem.Calls
set_option Elab.async false
namespace Mine
theorem ext3 {prog : Program} {w : World} {A : Around} {E : Value → Shared → Prop} {s : Shared} {h₀ : Heap} {L D b : Addr} {m : Str → Option Value} {news news' : List (Addr × Obj)} {li : List Value} {x y z : Value} {n n2 : Nat} {Q : Value → Shared → Prop} (F : Fr h₀ L s.heap m) (N : News h₀ L s.heap news) (hb : (b, W.listOf #[x, y, z] n2) ∈ news)
    (U : Upd D (W.listOf li.toArray n) (W.listOf (li ++ [x] ++ [y] ++ [z]).toArray (n + 1)) news news') (hz : li.length ≤ 1000000)
    (h : ∀ h', Fr h₀ L h' m → News h₀ L h' news' → Q .none { s with heap := h' }) : wpAny (model prog w) A (call (.builtin "list.extend") [.ref D, .ref b]) Q E s := by
  refine kl_extend (its := li.toArray) (its2 := #[x, y, z]) F N hb (by simp) (by simp) U ?_ (by rw [sizeLine_eq]; simp; omega) (by rw [sizeLine_eq]; simp; omega) h
  intro hx
  simp only [Bool.and_eq_true, Builtin.List.listTooLong, decide_eq_true_eq, List.size_toArray, sizeLine_eq] at hx
  have := hx.2
  simp at this
  omega
abbrev RowW (pre row : List Int) : Prop := row.length ≤ 3 * pre.length ∧ ∀ v ∈ row, 0 ≤ v ∧ v < 256
theorem row_0 : RowW [] [] := ⟨Nat.le_refl _, fun _ h => nomatch h⟩
theorem row_1 {pre row : List Int} {k v : Int} (h1 : row.length ≤ 3 * pre.length) (h2 : ∀ v ∈ row, 0 ≤ v ∧ v < 256) (hv : 0 ≤ v ∧ v < 256) : RowW (pre ++ [k]) (row ++ [v]) := by
  refine ⟨by simp; omega, fun u hu => ?_⟩
  rcases List.mem_append.mp hu with hu | hu
  · exact h2 u hu
  · rw [List.mem_singleton.mp hu]; exact hv
theorem row_3 {pre row : List Int} {k v v2 v3 : Int} (h1 : row.length ≤ 3 * pre.length) (h2 : ∀ v ∈ row, 0 ≤ v ∧ v < 256) (hv : 0 ≤ v ∧ v < 256) (hv2 : 0 ≤ v2 ∧ v2 < 256) (hv3 : 0 ≤ v3 ∧ v3 < 256) : RowW (pre ++ [k]) (row ++ [v] ++ [v2] ++ [v3]) := by
  refine ⟨by simp; omega, fun u hu => ?_⟩
  simp only [List.mem_append, List.mem_singleton] at hu
  rcases hu with ((hu | rfl) | rfl) | rfl
  · exact h2 u hu
  · exact hv
  · exact hv2
  · exact hv3
theorem byte_in (c : UInt8) : (0 : Int) ≤ (c.toNat : Int) ∧ (c.toNat : Int) < 256 := by have := UInt8.toNat_lt c; omega
theorem mod_in (x : Int) : 0 ≤ x.fmod 256 ∧ x.fmod 256 < 256 := by
  rw [Int.fmod_eq_emod_of_nonneg _ (by decide)]
  omega
theorem size_of_ints {b : Array UInt8} {ks : List Int} {n : Nat} (h : KBw.bInts b = ks) (hl : ks.length ≤ n) : b.size ≤ n := by
  rw [← KBw.ints_length, h]; exact hl
section
local macro_rules | `(tactic| walk_at "compareOp NotEq ref ref") => `(tactic| (k_here; (with_reducible show wpAny _ _ (compareOp CmpOp.NotEq (Value.ref _) (Value.ref _)) _ _ _); k_dflt (refine' ne_told ?y1 ?y2 ?y3 ?y4 ?y5 ?y6 ?y7 ?_; (case y1 => k_asm); (case y2 => k_mem); (case y3 => k_mem); (case y4 => k_mem); (case y5 => k_mem); (case y6 => k_ne); (case y7 => ((have hcL9 := cLine_is); (simp only [units_deeper, units_caller]); omega)))))
local macro_rules | `(tactic| walk_at "call ref") => `(tactic| (k_here; (with_reducible show wpAny _ _ (call (Value.ref 60) [Value.bytes _ _]) _ _ _); k_dflt (refine' decode_any ?y1 ?y2 ?y3 ?y4 ?y5 ?y6 ?y7 ?y8 ?y9 ?y10 ?y11 ?_; (case y1 => exact size_of_ints (by assumption) (by (simp only [List.length_append, List.length_map, List.length_cons, List.length_nil]); omega)); (case y7 => exact rfl); (case y8 => exact rfl); (case y9 => exact rfl); (case y2 => k_asm); (case y3 => k_asm); (case y4 => k_asm); (case y5 => k_asm); (case y6 => k_asm); (case y10 => k_room); (case y11 => ((have hcL9 := cLine_is); (simp only [units_deeper, units_caller]); omega))); intro D' l' t' h' tk' F' N' l1 l2; (try k_lt l1); (try k_lt2 l2); (try k_sweep)))
local macro_rules | `(tactic| walk_at "call ref") => `(tactic| (k_here; (with_reducible show wpAny _ _ (call (Value.ref 79) [Value.bytes _ _]) _ _ _); k_dflt (refine' law_read_any ?y1 ?y2 ?y3 ?y4 ?y5 ?y6 ?y7 ?y8 ?y9 ?y10 ?_; (case y3 => k_asm); (case y4 => k_asm); (case y5 => k_asm); (case y6 => k_asm); (case y7 => k_asm); (case y8 => exact rfl); (case y1 => assumption); (case y2 => ((simp only [List.length_append, List.length_map, List.length_cons, List.length_nil]); omega)); (case y9 => ktr_room); (case y10 => ktr_units)); intro t' h' tk' F' N'))
local macro_rules | `(tactic| walk_at "call builtin:list.extend") => `(tactic| (k_here; (with_reducible show wpAny _ _ (call (Value.builtin _) [Value.ref _, Value.ref _]) _ _ _); k_dflt (refine' ext3 ?y1 ?y2 ?y3 ?y4 ?y5 ?_; (case y1 => k_asm); (case y2 => k_asm); (case y3 => k_mem); (case y4 => k_upd); (case y5 => omega)); intro h' F' N'))
set_option maxRecDepth 100000 in
set_option maxHeartbeats 16000000 in
theorem law_holds : PySem.Challenge.rw_dn0015_01.Holds := hd (by
  k_with "pyIter ref" => k_state (fun pre row => row.length ≤ 3 * pre.length ∧ ∀ v ∈ row, 0 ≤ v ∧ v < 256) "row"
  k_with "state" => first
    | exact row_0
    | exact row_1 (by assumption) (by assumption) (byte_in _)
    | exact row_1 (by assumption) (by assumption) (mod_in _)
    | exact row_1 (by assumption) (by assumption) (by decide)
    | exact row_3 (by assumption) (by assumption) (by decide) (byte_in _) (byte_in _)
  k_go0
  all_goals try k_fold
  k_steps)

end
end Mine

end PartM1
set_option maxRecDepth 100000 in
theorem PySem.Challenge.cw_dn0015_01_holds : PySem.Challenge.rw_dn0015_01.Holds := by
  exact Mine.law_holds
